import PyProof.Rows.All
import Wide.All
import OpenK.AllK
import Wide.FinOn
import KE.IntBitsLaws
import KE.BitLaws
import PySem.Challenge.RW_pg0238_01
open PySem PySem.W PyProof.Rows
set_option Elab.async false
set_option maxRecDepth 100000
set_option maxHeartbeats 8000000
set_option pp.deepTerms false
set_option pp.deepTerms.threshold 5
set_option linter.all false
namespace Mine
open_top hd for PySem.Challenge.rw_pg0238_01
end Mine
local macro_rules | `(tactic| walk_at $s:str) => `(tactic| k_extra $s)
namespace Mine
abbrev Ar (dp un : Nat) (gd : Option (List Code)) (fr : List Env) : Around := { handled := none, depth := dp, frames := some fr, guards := gd, units := un }

section
variable {prog : Program} {w : World} {A : Around} {s : Shared} {base g : Heap} {outer : List Env} {K : Frag} {p : Program} {loose : List Str} {mean : ExcName → Option Value} {mg mb : Str → Option Value} {mu : List (Addr × Obj)}
  {R : Result → Shared → Prop} {name qual : Str} {params : Arguments} {body : List Stmt} {scope : Scope} {dV kV doc pm cdv ct oc : Value} {an od : Option Addr} {osl : Array (Option Value)} {f : Addr} {args : Args} {binds : List (Str × Value)}

theorem enterP (B : Below A base outer g) (st : g.StaysIn s.heap) (sz : s.heap.objs.size = g.objs.size) (N : ∀ q ∈ mu, s.heap.get? q.1 = some q.2 ∧ g.get? q.1 = none) (X : K.In g) (T : Top p loose mean mg mb g)
    (ho : K.lookup f = some ⟨oc, od, .func (fnOf name qual params body scope dV kV doc pm an cdv ct), osl⟩) (hcd : codeIn K cdv qual = true) (hroom : A.depth < recursionLimit)
    (hbind : BindsTo s (fnOf name qual params body scope dV kV doc pm an cdv ct) args binds) (hloc : ∀ y ∈ binds, scope.names.lookup y.1 = some .local)
    (h : ∀ L' h₁, Fr g L' h₁ (fun y => binds.reverse.lookup y) → News g L' h₁ mu → (∀ q ∈ mu, q.1 < L') →
      wpAny (model prog w) (A.deeper (envOf qual scope L' f cdv)) (execs body (envOf qual scope L' f cdv))
        (fun fl s' => R (.ok (.ret (match fl with | .ret v => v | _ => .none))) s')
        (fun e s' => wpAny (model prog w) (A.deeper (envOf qual scope L' f cdv)) (leaving (envOf qual scope L' f cdv) e) (fun _ s'' => R (.error e) s'') (fun e' s'' => R (.error e') s'') s')
        { s with heap := h₁, toks := s.toks + binds.length })
    (hco : scope.isCoroutine = false) (hgen : scope.isGenerator = false) (hk : scope.kind = .function)
    (hcell : ∀ x ∈ scope.names, x.2 ≠ .cell) : codeAny (model prog w) A (.call (.ref f) args) R s := by
  refine codeAny_call_def (fd := fnOf name qual params body scope dV kV doc pm an cdv ct) (body := body) (binds := binds) hroom (st _ _ (X _ _ ho)) rfl (T.nolimit.keeps st) ((codeRec_of X hcd).keeps st) rfl hbind hcell hloc (fun h₁ hns hk₁ => ?_) hco hgen hk
  exact h s.heap.objs.size h₁ ⟨hns, fun b o e => hk₁ b o (st _ _ e), Nat.le_of_eq sz.symm⟩ (fun q hq => ⟨hk₁ _ _ (N q hq).1, Nat.ne_of_lt (Heap.lt_size (N q hq).1), (N q hq).2⟩) fun q hq => Heap.lt_size (N q hq).1
end

abbrev CC (prog : Program) (K : Frag) (w : World) (f : Addr) (D U : Nat) (mu : List (Addr × Obj)) (vs : List Value) (Post : Value → List (Addr × Obj) → Prop) : Prop :=
  ∀ (p : Program) (loose : List Str) (mean : ExcName → Option Value) (mg mb : Str → Option Value) (dp un : Nat) (gd : Option (List Code)) (fr : List Env) (base g : Heap) (s : Shared) (R : Result → Shared → Prop),
    Below (Ar dp un gd fr) base fr g → K.In g → Top p loose mean mg mb g → g.StaysIn s.heap → s.heap.objs.size = g.objs.size → (∀ q ∈ mu, s.heap.get? q.1 = some q.2 ∧ g.get? q.1 = none) →
    dp + D < recursionLimit → un + U < cLine →
    (∀ v n' h' tk', Post v n' → g.StaysIn h' → (∀ q ∈ n', h'.get? q.1 = some q.2 ∧ g.get? q.1 = none) → R (.ok (.ret v)) { s with heap := h', toks := tk' }) →
    codeAny (model prog w) (Ar dp un gd fr) (.call (.ref f) ⟨vs, []⟩) R s

theorem CC.use {prog : Program} {K : Frag} {w : World} {f : Addr} {D U : Nat} {mu rest news : List (Addr × Obj)} {vs : List Value} {Post : Value → List (Addr × Obj) → Prop}
    (C : CC prog K w f D U mu vs Post) {p : Program} {loose : List Str} {mean : ExcName → Option Value} {mg mb : Str → Option Value} {dp un : Nat} {gd : Option (List Code)} {env : Env} {outer : List Env} {A₀ : Around} {base h₀ : Heap} {L : Addr} {m : Str → Option Value} {s : Shared} {Q E : Value → Shared → Prop}
    (B : Below A₀ base outer h₀) (F : Fr h₀ L s.heap m) (X : K.In h₀) (N : News h₀ L s.heap news) (T : Top p loose mean mg mb h₀) (hf : env.frame = some L) (hke : env.scope.kind = .function)
    (P : ∀ q ∈ mu ++ rest, q ∈ news) (hd : ∀ q ∈ rest, ∀ r ∈ mu, q.1 ≠ r.1) (hdp : dp + D < recursionLimit) (hun : un + U < cLine)
    (h : ∀ v n' h' tk', Post v n' → Fr h₀ L h' m → News h₀ L h' (n' ++ rest) → (∀ q ∈ n', ∀ r ∈ rest, r.1 ≠ q.1) → Q v { s with heap := h', toks := tk' }) :
    wpAny (model prog w) (Ar dp un gd (env :: outer)) (call (.ref f) vs) Q E s := by
  have Nm : News h₀ L s.heap mu := fun q hq => N q (P q (List.mem_append_left _ hq))
  have Nr : News h₀ L s.heap rest := fun q hq => N q (P q (List.mem_append_right _ hq))
  refine wpAny_call ?_
  obtain ⟨FG, BG, stg, -⟩ := groundX (A := Ar dp un gd (env :: outer)) (R := fun r s' => match r with | .ok (.ret v) => Q v s' | .ok _ => False | .error e => E e s') B F Nm rfl hf hke
  refine C p loose mean mg mb dp un gd (env :: outer) base _ s _ BG (X.keeps stg) (T.keeps stg) (fun b o e => of_hideAll _ e) (hideAll_size _ _).symm (fun q hq => ⟨(Nm q hq).1, hideAll_none _ (List.mem_map_of_mem hq)⟩) hdp hun fun v n' h' tk' hP hst hn' => ?_
  have Fr' : Fr h₀ L h' m := ⟨FG.ns.keeps hst, fun b o e => hst b o (FG.keep b o e), F.above⟩
  have hin : ∀ r ∈ rest, (hideAll s.heap (mu.map (·.1))).get? r.1 = some r.2 := fun r hr => hideAll_get _ (Nr r hr).1 fun q => by
    obtain ⟨z, hz, e⟩ := List.mem_map.mp q
    exact hd r hr z hz e.symm
  obtain ⟨oL, hL1, hL2⟩ : ∃ o, (hideAll s.heap (mu.map (·.1))).get? L = some o ∧ True := by
    obtain ⟨o, es, ep, e, _⟩ := FG.ns
    exact ⟨o, e, trivial⟩
  have Nn : News h₀ L h' (n' ++ rest) := fun q hq => by
    rcases List.mem_append.mp hq with hq | hq
    · refine ⟨(hn' q hq).1, fun e => ?_, ?_⟩
      · have := (hn' q hq).2; rw [e, hL1] at this; cases this
      · cases z : h₀.get? q.1 with
        | none => rfl
        | some o => have := (hn' q hq).2; rw [stg _ _ z] at this; cases this
    · exact ⟨hst _ _ (hin q hq), (Nr q hq).2⟩
  exact h v n' h' tk' hP Fr' Nn fun q hq r hr e => by
    have := (hn' q hq).2; rw [← e, hin r hr] at this; cases this
end Mine
namespace Mine
section
variable {prog : Program} {w : World} {A : Around} {s : Shared} {base g : Heap} {outer : List Env} {K : Frag} {p : Program} {loose : List Str} {mean : ExcName → Option Value} {mg mb : Str → Option Value} {mu : List (Addr × Obj)}
  {R : Result → Shared → Prop} {name qual : Str} {params : Arguments} {body : List Stmt} {scope : Scope} {dV kV doc pm cdv ct oc : Value} {an od : Option Addr} {osl : Array (Option Value)} {f : Addr} {args : Args} {binds : List (Str × Value)}

theorem enterC (B : Below A base outer g) (st : g.StaysIn s.heap) (sz : s.heap.objs.size = g.objs.size) (N : ∀ q ∈ mu, s.heap.get? q.1 = some q.2 ∧ g.get? q.1 = none) (X : K.In g) (T : Top p loose mean mg mb g)
    (ho : K.lookup f = some ⟨oc, od, .func (fnOf name qual params body scope dV kV doc pm an cdv ct), osl⟩) (hcd : codeIn K cdv qual = true) (hroom : A.depth < recursionLimit)
    (hbind : BindsTo s (fnOf name qual params body scope dV kV doc pm an cdv ct) args binds) (hkind : (binds.all fun y => scope.names.lookup y.1 == some .local || scope.names.lookup y.1 == some .cell) = true)
    (hnd : ((cellsFrom 0 scope.names []).map (·.1)).Nodup)
    (h : ∀ L' h₁ tk cells, Fr g L' h₁ (bindL (envOfC qual scope L' f cdv).kindOf binds fun _ => none) → News g L' h₁ (cells ++ mu) →
      CellsAre (bindC (envOfC qual scope L' f cdv).kindOf binds fun _ => none) (cellsFrom (L' + 1) scope.names []) cells → (∀ q ∈ mu, q.1 < L') →
      wpAny (model prog w) (A.deeper (envOfC qual scope L' f cdv)) (execs body (envOfC qual scope L' f cdv))
        (fun fl s' => R (.ok (.ret (match fl with | .ret v => v | _ => .none))) s')
        (fun e s' => wpAny (model prog w) (A.deeper (envOfC qual scope L' f cdv)) (leaving (envOfC qual scope L' f cdv) e) (fun _ s'' => R (.error e) s'') (fun e' s'' => R (.error e') s'') s')
        { s with heap := h₁, toks := tk })
    (hco : scope.isCoroutine = false) (hgen : scope.isGenerator = false) (hk : scope.kind = .function) : codeAny (model prog w) A (.call (.ref f) args) R s := by
  refine codeAny_call_function (fd := fnOf name qual params body scope dV kV doc pm an cdv ct) hroom (st _ _ (X _ _ ho)) rfl hco hgen rfl ((codeRec_of X hcd).keeps st) (hbind _ _ _ _ ?_)
  refine wpAny_newFunctionEnv_cells hk (kindsX hkind _) fun env' he s' x => ?_
  subst he
  refine ⟨(T.nolimit.keeps st).keeps x.toInCall.keep, codeAny_func ?_⟩
  obtain ⟨h₁, tk, rfl, _⟩ := x.done
  have hk₁ := x.toInCall.keep
  obtain ⟨cells, NC, Y⟩ := Cl.news (h₀ := s.heap) (Nat.le_refl _) fun n c hm => ⟨x.cell n c (lookup_of_mem_nodup (cellsFrom_names scope.names 0 (s.heap.objs.size + 1) [] [] rfl ▸ hnd) hm), x.above n c hm⟩
  refine h s.heap.objs.size h₁ tk cells ⟨x.toInCall.ns, fun b o e => hk₁ b o (st _ _ e), Nat.le_of_eq sz.symm⟩ (fun p hp => ?_) Y fun q hq => Heap.lt_size (N q hq).1
  rcases List.mem_append.mp hp with hp | hp
  · refine ⟨(NC p hp).1, (NC p hp).2.1, ?_⟩
    cases q : g.get? p.1 with
    | none => rfl
    | some o => have := st _ _ q; rw [(NC p hp).2.2] at this; cases this
  · exact ⟨hk₁ _ _ (N p hp).1, Nat.ne_of_lt (Heap.lt_size (N p hp).1), (N p hp).2⟩
end
end Mine
namespace Mine
theorem out {g h : Heap} {L : Addr} {n : List (Addr × Obj)} (N : News g L h n) : ∀ q ∈ n, h.get? q.1 = some q.2 ∧ g.get? q.1 = none := fun q hq => ⟨(N q hq).1, (N q hq).2.2⟩
theorem outE {g h : Heap} : ∀ q ∈ ([] : List (Addr × Obj)), h.get? q.1 = some q.2 ∧ g.get? q.1 = none := fun _ hq => nomatch hq
abbrev tupOf (its : List Value) : Obj := { cls := .type "tuple", data := .seq its.toArray }
end Mine
namespace Mine
theorem fill : (Mine.hd.heap_39, PySem.Challenge.rw_pg0238_01) = (Mine.hd.heap_39, PySem.Challenge.rw_pg0238_01) := by
  w_top off
  k_fill
  rfl
abbrev C3 (w : World) (f : Addr) (D U : Nat) (mu : List (Addr × Obj)) (vs : List Value) (Post : Value → List (Addr × Obj) → Prop) : Prop := CC PySem.Challenge.rw_pg0238_01.row.prog (Mine.hd.heap_39 w.params) w f D U mu vs Post
end Mine
namespace Mine
section
variable {prog : Program} {w : World} {A : Around} {E : Value → Shared → Prop} {s : Shared} {h₀ : Heap} {L : Addr} {m : Str → Option Value} {news : List (Addr × Obj)}
theorem max3 {a b c : Int} {t u x : Tok} {Q : Value → Shared → Prop} (hh : A.handled = none) (F : Fr h₀ L s.heap m) (N : News h₀ L s.heap news)
    (h : ∀ h' tk t', Fr h₀ L h' m → News h₀ L h' news → Q (.int (max (max a b) c) t') { s with heap := h', toks := tk }) :
    wpAny (model prog w) A (call (.builtin "max") [.int a t, .int b u, .int c x]) Q E s :=
  max_three_ints hh fun h' tk hk => by
    have key := fun t' => h h' tk t' (F.grownK hk) (N.grown hk)
    by_cases hba : b > a <;> by_cases hc1 : c > b <;> by_cases hc2 : c > a <;> simp only [hba, hc1, hc2, if_true, if_false]
    all_goals first
      | (have e : max (max a b) c = c := by (first | lia | omega)
         rw [e] at key; exact key _)
      | (have e : max (max a b) c = b := by (first | lia | omega)
         rw [e] at key; exact key _)
      | (have e : max (max a b) c = a := by (first | lia | omega)
         rw [e] at key; exact key _)
      | (exfalso; (first | lia | omega))
theorem min3 {a b c : Int} {t u x : Tok} {Q : Value → Shared → Prop} (hh : A.handled = none) (F : Fr h₀ L s.heap m) (N : News h₀ L s.heap news)
    (h : ∀ h' tk t', Fr h₀ L h' m → News h₀ L h' news → Q (.int (min (min a b) c) t') { s with heap := h', toks := tk }) :
    wpAny (model prog w) A (call (.builtin "min") [.int a t, .int b u, .int c x]) Q E s :=
  min_three_ints hh fun h' tk hk => by
    have key := fun t' => h h' tk t' (F.grownK hk) (N.grown hk)
    by_cases hba : b < a <;> by_cases hc1 : c < b <;> by_cases hc2 : c < a <;> simp only [hba, hc1, hc2, if_true, if_false]
    all_goals first
      | (have e : min (min a b) c = c := by (first | lia | omega)
         rw [e] at key; exact key _)
      | (have e : min (min a b) c = b := by (first | lia | omega)
         rw [e] at key; exact key _)
      | (have e : min (min a b) c = a := by (first | lia | omega)
         rw [e] at key; exact key _)
      | (exfalso; (first | lia | omega))
end
end Mine
namespace Mine
section
variable {prog : Program} {w : World} {A : Around} {E : Value → Shared → Prop} {s : Shared} {h₀ : Heap} {L : Addr} {m : Str → Option Value} {news : List (Addr × Obj)}
theorem flat_rep {v : Value} : ∀ k : Nat, (List.replicate k [v]).flatten = List.replicate k v
  | 0 => rfl
  | k + 1 => by simp [List.replicate_succ, flat_rep k]
theorem ints_rep {z : Int} {t : Tok} : ∀ k : Nat, IntsAre (List.replicate k (.int z t)) (List.replicate k z)
  | 0 => .nil
  | k + 1 => .cons _ _ (ints_rep k)
theorem mulOne {l : Addr} {z : Int} {t : Tok} {k : Nat} {x : Int} {u : Tok} {Q : Value → Shared → Prop} (F : Fr h₀ L s.heap m) (N : News h₀ L s.heap news) (hm : (l, listOf [.int z t].toArray k) ∈ news)
    (h0 : 0 ≤ x) (h1 : x < 1048576) (h : ∀ r vs h', Fr h₀ L h' m → News h₀ L h' ((r, listOf vs.toArray 0) :: news) → (∀ p ∈ news, p.1 < r) → IntsAre vs (List.replicate x.toNat z) → Q (.ref r) { s with heap := h' }) :
    wpAny (model prog w) A (binaryOp .Mult (.ref l) (.int x u)) Q E s :=
  mul_list F N (N _ hm).1 (by (first | lia | omega)) (by (first | lia | omega)) (by simp; (first | lia | omega)) fun h' F' N' => by
    refine h _ (List.replicate x.toNat (.int z t)) h' F' ?_ (fun p hp => Heap.lt_size (N p hp).1) (ints_rep _)
    simpa [listMul_foldl, flat_rep] using N'
theorem splitFn {f c l : Addr} {fn oc lo : Obj} {h : Heap} {rest : List (Addr × Obj)} {G : Prop} (N : News h₀ L h ((f, fn) :: (c, oc) :: (l, lo) :: rest)) (k : ∀ r, r = (f, fn) :: (c, oc) :: rest → News h₀ L h ((l, lo) :: r) → G) : G :=
  k _ rfl fun p hp => N p (by
    rcases List.mem_cons.mp hp with rfl | hp
    · exact .tail _ (.tail _ (.head _))
    · rcases List.mem_cons.mp hp with rfl | hp
      · exact .head _
      · rcases List.mem_cons.mp hp with rfl | hp
        · exact .tail _ (.head _)
        · exact .tail _ (.tail _ (.tail _ hp)))
end
end Mine
namespace Mine
section
variable {prog : Program} {w : World} {A : Around} {s : Shared} {base g : Heap} {outer : List Env} {K : Frag} {p : Program} {loose : List Str} {mean : ExcName → Option Value} {mg mb : Str → Option Value} {mu : List (Addr × Obj)}
  {R : Result → Shared → Prop} {name qual : Str} {params : Arguments} {body : List Stmt} {scope : Scope} {cl : List (Str × Addr)} {doc pm ctv : Value} {c' : Addr} {f : Addr} {args : Args} {binds : List (Str × Value)}
theorem codeRecS {h : Heap} {c : Addr} {oc : Obj} {vs : Array Value} {qual : Str} {t : Tok} (hg : h.get? c = some oc) (hd : oc.data = .fields vs) (hv : vs[1]? = some (.str qual t)) : h.CodeRec (.ref c) qual := ⟨c, oc, vs, t, rfl, hg, hd, hv⟩
theorem enterN (B : Below A base outer g) (st : g.StaysIn s.heap) (sz : s.heap.objs.size = g.objs.size) (N : ∀ q ∈ mu, s.heap.get? q.1 = some q.2 ∧ g.get? q.1 = none) (X : K.In g) (T : Top p loose mean mg mb g)
    (ho : (f, fnMade name qual params body scope cl doc pm c' ctv) ∈ mu) (hcd : s.heap.CodeRec (.ref c') qual) (hroom : A.depth < recursionLimit)
    (hbind : BindsTo s (fnX name qual params body scope cl .none .none doc pm none (.ref c') ctv) args binds) (hloc : ∀ y ∈ binds, scope.names.lookup y.1 = some .local)
    (h : ∀ L' h₁, Fr g L' h₁ (fun y => binds.reverse.lookup y) → News g L' h₁ mu → (∀ q ∈ mu, q.1 < L') →
      wpAny (model prog w) (A.deeper (envX qual scope L' f (.ref c') cl)) (execs body (envX qual scope L' f (.ref c') cl))
        (fun fl s' => R (.ok (.ret (match fl with | .ret v => v | _ => .none))) s')
        (fun e s' => wpAny (model prog w) (A.deeper (envX qual scope L' f (.ref c') cl)) (leaving (envX qual scope L' f (.ref c') cl) e) (fun _ s'' => R (.error e) s'') (fun e' s'' => R (.error e') s'') s')
        { s with heap := h₁, toks := s.toks + binds.length })
    (hco : scope.isCoroutine = false) (hgen : scope.isGenerator = false) (hk : scope.kind = .function)
    (hcell : ∀ x ∈ scope.names, x.2 ≠ .cell) : codeAny (model prog w) A (.call (.ref f) args) R s := by
  refine codeAny_call_def (fd := fnX name qual params body scope cl .none .none doc pm none (.ref c') ctv) (body := body) (binds := binds) hroom (N _ ho).1 rfl (T.nolimit.keeps st) hcd rfl hbind hcell hloc (fun h₁ hns hk₁ => ?_) hco hgen hk
  exact h s.heap.objs.size h₁ ⟨hns, fun b o e => hk₁ b o (st _ _ e), Nat.le_of_eq sz.symm⟩ (fun q hq => ⟨hk₁ _ _ (N q hq).1, Nat.ne_of_lt (Heap.lt_size (N q hq).1), (N q hq).2⟩) fun q hq => Heap.lt_size (N q hq).1
theorem lenN {prog : Program} {w : World} {A : Around} {E : Value → Shared → Prop} {s : Shared} {h₀ : Heap} {L : Addr} {news : List (Addr × Obj)} {l : Addr} {vs : List Value} {ns : List Int} {n : Nat} {Q : Value → Shared → Prop} (N : News h₀ L s.heap news) (hm : (l, listOf vs.toArray n) ∈ news) (hi : IntsAre vs ns) (hfit : ns.length < 2 ^ 62)
    (h : ∀ t tk, Q (.int (ns.length : Nat) t) { s with toks := tk }) : wpAny (model prog w) A (call (.builtin "len") [.ref l]) Q E s := by
  have e : vs.toArray.size = ns.length := by simp [hi.length]
  refine Calls.call_len_list (PySem.IsL.isList (n := n) (N _ hm).1) (by (first | lia | omega)) ?_
  rw [e]
  exact h _ _
end
noncomputable def digs (y : Nat) : Nat → Nat → List Int
  | 0, _ => []
  | k + 1, x => ((x % 2 ^ y : Nat) : Int) :: digs y k (x / 2 ^ y)
noncomputable def splice (ns : List Int) (lo hi : Nat) (ds : List Int) : List Int := ns.take lo ++ ds ++ ns.drop hi
noncomputable def InnerC (prog : Program) (K : Frag) (w : World) (f c ca ci cn l : Addr) (fn oc oa oi on : Obj) (y e n : Nat) : Prop :=
  ∀ (x lo hi : Nat) (vs : List Value) (ns : List Int) (tx tl th : Tok), IntsAre vs ns → lo < hi → hi ≤ ns.length → hi - lo ≤ n → x < 2 ^ (y * (hi - lo)) → x < 2 ^ 48 → hi ≤ 48 →
    CC prog K w f (n + 1) (8 * (n + 1)) [(l, listOf vs.toArray e), (f, fn), (c, oc), (ca, oa), (ci, oi), (cn, on)] [.int x tx, .int lo tl, .int hi th]
      (fun v n' => ∃ vs', v = .none ∧ n' = [(l, listOf vs'.toArray e), (f, fn), (c, oc), (ca, oa), (ci, oi), (cn, on)] ∧ IntsAre vs' (splice ns lo hi (digs y (hi - lo) x)))
theorem innerSplit {prog : Program} {K : Frag} {w : World} {g h : Heap} {L f c ca ci cn l l0 t : Addr} {fn oc oa oi on lo0 ot : Obj} {y e : Nat} {vs : List Value} {G : Prop}
    (N : News g L h [(f, fn), (l, listOf vs.toArray e), (l0, lo0), (cn, on), (ca, oa), (ci, oi), (t, ot), (c, oc)]) (key : ∀ n, InnerC prog K w f c ca ci cn l fn oc oa oi on y e n)
    (k : (∀ n, InnerC prog K w f c ca ci cn l fn oc oa oi on y e n) → G) : G := k key
theorem outS {g h : Heap} {L : Addr} {n n' : List (Addr × Obj)} (N : News g L h n) (P : ∀ q ∈ n', q ∈ n) : ∀ q ∈ n', h.get? q.1 = some q.2 ∧ g.get? q.1 = none := fun q hq => ⟨(N q (P q hq)).1, (N q (P q hq)).2.2⟩
end Mine
namespace Mine
noncomputable def Is (a b : Int) : Prop := a = b
theorem land_hi (x s : Nat) : x &&& (x / 2 ^ s * 2 ^ s) = x / 2 ^ s * 2 ^ s := by
  apply Nat.eq_of_testBit_eq
  intro i
  rw [Nat.testBit_and, Nat.testBit_mul_two_pow, Nat.testBit_div_two_pow]
  by_cases h : s ≤ i
  · simp [h, Nat.sub_add_cancel h]
  · simp [h]
theorem xor_low (x s : Nat) : Builtin.bitXor (x : Int) ((x / 2 ^ s * 2 ^ s : Nat) : Int) = ((x % 2 ^ s : Nat) : Int) := by
  rw [bitXor_and, bitAnd_pp (Int.natCast_nonneg _) (Int.natCast_nonneg _)]
  simp only [Int.toNat_natCast]
  rw [land_hi]
  have := Nat.div_add_mod x (2 ^ s)
  rw [Nat.mul_comm] at this
  (first | lia | omega)
theorem digs_split (y a b x : Nat) : digs y (a + b) x = digs y a (x % 2 ^ (y * a)) ++ digs y b (x / 2 ^ (y * a)) := by
  induction a generalizing x with
  | zero => simp [digs]
  | succ a ih =>
    have e1 : 2 ^ (y * (a + 1)) = 2 ^ y * 2 ^ (y * a) := by rw [← Nat.pow_add]; congr 1; rw [Nat.mul_add]; (first | lia | omega)
    rw [show a + 1 + b = (a + b) + 1 from by (first | lia | omega)]
    simp only [digs]
    rw [ih, e1, Nat.mod_mul_right_mod, Nat.mod_mul_right_div_self, Nat.div_div_eq_div_mul]
    rfl
theorem digs_length (y k x : Nat) : (digs y k x).length = k := by
  induction k generalizing x with
  | zero => rfl
  | succ k ih => simp [digs, ih]
theorem splice_length {ns : List Int} {lo hi : Nat} {ds : List Int} (h1 : lo ≤ hi) (h2 : hi ≤ ns.length) (hd : ds.length = hi - lo) : (splice ns lo hi ds).length = ns.length := by
  simp [splice, hd]; (first | lia | omega)
theorem splice_splice {ns : List Int} {lo mid hi : Nat} {d1 d2 : List Int} (h1 : lo ≤ mid) (h2 : mid ≤ hi) (h3 : hi ≤ ns.length) (hd : d1.length = mid - lo) : splice (splice ns lo mid d1) mid hi d2 = splice ns lo hi (d1 ++ d2) := by
  have e1 : (ns.take lo ++ d1 ++ ns.drop mid).take mid = ns.take lo ++ d1 := by
    rw [List.take_append_of_le_length (by simp [hd]; (first | lia | omega)), List.take_of_length_le (by simp [hd]; (first | lia | omega))]
  have e2 : (ns.take lo ++ d1 ++ ns.drop mid).drop hi = ns.drop hi := by
    rw [List.drop_append, List.drop_of_length_le (by simp [hd]; (first | lia | omega)), List.nil_append, List.drop_drop]
    congr 1
    simp [hd]; (first | lia | omega)
  unfold splice
  rw [e1, e2]
  simp
theorem splice_one {ns : List Int} {lo hi x y : Nat} (h : lo + 1 = hi) (hl : hi ≤ ns.length) (hx : x < 2 ^ (y * (hi - lo))) : ns.set lo (x : Int) = splice ns lo hi (digs y (hi - lo) x) := by
  subst h
  have e : lo + 1 - lo = 1 := by (first | lia | omega)
  rw [e] at hx ⊢
  rw [Nat.mul_one] at hx
  simp only [digs, Nat.mod_eq_of_lt hx, splice]
  apply List.ext_getElem?
  intro i
  rw [List.getElem?_set]
  by_cases h1 : lo = i
  · subst h1
    simp only [if_true]
    rw [if_pos (by (first | lia | omega))]
    rw [List.append_assoc, List.getElem?_append_right (by simp; (first | lia | omega))]
    simp [Nat.min_eq_left (show lo ≤ ns.length by (first | lia | omega))]
  · simp only [h1, if_false]
    by_cases h2 : i < lo
    · rw [List.append_assoc, List.getElem?_append_left (by simp; (first | lia | omega)), List.getElem?_take_of_lt h2]
    · rw [List.append_assoc, List.getElem?_append_right (by simp; (first | lia | omega)), List.getElem?_append_right (by simp; (first | lia | omega))]
      simp [Nat.min_eq_left (show lo ≤ ns.length by (first | lia | omega))]
      congr 1
      (first | lia | omega)
section
variable {prog : Program} {w : World} {A : Around} {E : Value → Shared → Prop} {s : Shared} {a b n v : Int} {t u : Tok} {Q : Value → Shared → Prop}
theorem subIs (e : Is (a - b) v) (h : Q (.int v s.toks) { s with toks := s.toks + 1 }) : wpAny (model prog w) A (binaryOp .Sub (.int a t) (.int b u)) Q E s := PyProof.Rows.sub_int (by rw [show a - b = v from e]; exact h)
theorem addIs (e : Is (a + b) v) (h : Q (.int v s.toks) { s with toks := s.toks + 1 }) : wpAny (model prog w) A (binaryOp .Add (.int a t) (.int b u)) Q E s := PyProof.Rows.add_int (by rw [show a + b = v from e]; exact h)
theorem mulIs (e : Is (a * b) v) (hm : Builtin.Int.intBits a ≤ 64) (h : Q (.int v s.toks) { s with toks := s.toks + 1 }) : wpAny (model prog w) A (binaryOp .Mult (.int a t) (.int b u)) Q E s := PyProof.Rows.mul_int (by rw [show a * b = v from e]; exact h) (IntMulOk.of_left hm)
theorem shrIs (e : Is (a.fdiv (2 ^ n.toNat)) v) (hn : 0 ≤ n) (h : Q (.int v s.toks) { s with toks := s.toks + 1 }) : wpAny (model prog w) A (binaryOp .RShift (.int a t) (.int n u)) Q E s := PyProof.Rows.rshift_int hn (by rw [show a.fdiv (2 ^ n.toNat) = v from e]; exact h)
theorem shlIs (e : Is (a * 2 ^ n.toNat) v) (hn : 0 ≤ n) (hn2 : n ≤ 1000000) (ha : a.natAbs < 2 ^ 64) (h : Q (.int v s.toks) { s with toks := s.toks + 1 }) : wpAny (model prog w) A (binaryOp .LShift (.int a t) (.int n u)) Q E s := PyProof.Rows.lshift_int_small hn hn2 ha (by rw [show a * 2 ^ n.toNat = v from e]; exact h)
theorem xorIs (e : Is (Builtin.bitXor a b) v) (h : Q (.int v s.toks) { s with toks := s.toks + 1 }) : wpAny (model prog w) A (binaryOp .BitXor (.int a t) (.int b u)) Q E s := PyProof.Rows.xor_int (by rw [show Builtin.bitXor a b = v from e]; exact h)
theorem bits64 {x : Int} (h : x.natAbs < 2 ^ 64) : Builtin.Int.intBits x ≤ 64 := intBits_le_iff.mpr h
theorem fdivP (x s : Nat) : (x : Int).fdiv (2 ^ ((s : Int)).toNat) = ((x / 2 ^ s : Nat) : Int) := by
  rw [Int.toNat_natCast, Int.fdiv_eq_ediv_of_nonneg _ (Int.le_of_lt (Int.pow_pos (by decide)))]
  simp
end
end Mine
namespace Mine
theorem i2d_base {vs' : List Value} {ns : List Int} {lo hi x y : Nat} (h : IntsAre vs' (ns.set ((lo : Int)).toNat (x : Int))) (h1 : lo + 1 = hi) (hl : hi ≤ ns.length) (hx : x < 2 ^ (y * (hi - lo))) : IntsAre vs' (splice ns lo hi (digs y (hi - lo) x)) := by
  rw [Int.toNat_natCast, splice_one h1 hl hx] at h
  exact h
theorem mem_self {α : Type} {l : List α} : ∀ q ∈ l ++ [], q ∈ l := by simp
theorem i2d_join {vs' : List Value} {ns : List Int} {lo mid hi x y : Nat} (h1 : lo ≤ mid) (h2 : mid ≤ hi) (h3 : hi ≤ ns.length)
    (h : IntsAre vs' (splice (splice ns lo mid (digs y (mid - lo) (x % 2 ^ ((mid - lo) * y)))) mid hi (digs y (hi - mid) (x / 2 ^ ((mid - lo) * y))))) : IntsAre vs' (splice ns lo hi (digs y (hi - lo) x)) := by
  rw [splice_splice h1 h2 h3 (digs_length _ _ _), Nat.mul_comm, ← digs_split, show mid - lo + (hi - mid) = hi - lo from by (first | lia | omega)] at h
  exact h
end Mine
namespace Mine
noncomputable def undigs (y : Nat) : List Int → Int
  | [] => 0
  | d :: r => d + 2 ^ y * undigs y r
noncomputable def seg (y : Nat) (ds : List Int) (lo hi : Nat) : Int := undigs y ((ds.drop lo).take (hi - lo))
theorem undigs_append (y : Nat) (a b : List Int) : undigs y (a ++ b) = undigs y a + 2 ^ (y * a.length) * undigs y b := by
  induction a with
  | nil => simp [undigs]
  | cons d r ih =>
    have e : (2 : Int) ^ (y * (r.length + 1)) = 2 ^ y * 2 ^ (y * r.length) := by rw [← Int.pow_add]; congr 1; rw [Nat.mul_add]; (first | lia | omega)
    simp only [List.cons_append, undigs, ih, List.length_cons, e, Int.mul_add, Int.mul_assoc]
    (first | lia | omega)
theorem undigs_bound (y : Nat) (a : List Int) (h : ∀ d ∈ a, 0 ≤ d ∧ d < 2 ^ y) : 0 ≤ undigs y a ∧ undigs y a < 2 ^ (y * a.length) := by
  induction a with
  | nil => simp [undigs]
  | cons d r ih =>
    have ⟨h1, h2⟩ := h d (.head _)
    have ⟨i1, i2⟩ := ih fun x hx => h x (.tail _ hx)
    have e : (2 : Int) ^ (y * (r.length + 1)) = 2 ^ y * 2 ^ (y * r.length) := by rw [← Int.pow_add]; congr 1; rw [Nat.mul_add]; (first | lia | omega)
    have hp : (0 : Int) < 2 ^ y := Int.pow_pos (by decide)
    simp only [undigs, List.length_cons, e]
    have m1 : 0 ≤ 2 ^ y * undigs y r := Int.mul_nonneg (Int.le_of_lt hp) i1
    have m2 : 2 ^ y * (undigs y r + 1) ≤ 2 ^ y * 2 ^ (y * r.length) := Int.mul_le_mul_of_nonneg_left (by (first | lia | omega)) (Int.le_of_lt hp)
    rw [Int.mul_add, Int.mul_one] at m2
    (first | lia | omega)
theorem seg_one {y : Nat} {ds : List Int} {lo hi : Nat} (h : lo + 1 = hi) (h2 : hi ≤ ds.length) : ds.getD ((lo : Int)).toNat 0 = seg y ds lo hi := by
  subst h
  have h3 : lo < ds.length := h2
  rw [Int.toNat_natCast, seg, show lo + 1 - lo = 1 from by (first | lia | omega), List.drop_eq_getElem_cons h3]
  simp only [List.take_succ_cons, List.take_zero, undigs, Int.mul_zero, Int.add_zero]
  simp [List.getD, h3]
theorem seg_join {y : Nat} {ds : List Int} {lo mid hi : Nat} (h1 : lo ≤ mid) (h2 : mid ≤ hi) (h3 : hi ≤ ds.length) : seg y ds mid hi * 2 ^ ((mid - lo) * y) + seg y ds lo mid = seg y ds lo hi := by
  have e : (ds.drop lo).take (hi - lo) = (ds.drop lo).take (mid - lo) ++ (ds.drop mid).take (hi - mid) := by
    rw [show hi - lo = (mid - lo) + (hi - mid) from by (first | lia | omega), List.take_add, List.drop_drop]
    congr 3
    (first | lia | omega)
  have hl : ((ds.drop lo).take (mid - lo)).length = mid - lo := by simp; (first | lia | omega)
  unfold seg
  rw [e, undigs_append, hl, Int.mul_comm, Nat.mul_comm y]
  (first | lia | omega)
theorem seg_bound {y : Nat} {ds : List Int} {lo hi : Nat} (h : ∀ d ∈ ds, 0 ≤ d ∧ d < 2 ^ y) (hs : y * ds.length ≤ 62) : 0 ≤ seg y ds lo hi ∧ seg y ds lo hi < 2 ^ 62 := by
  have ⟨h1, h2⟩ := undigs_bound y ((ds.drop lo).take (hi - lo)) fun d hd => h d (List.mem_of_mem_drop (List.mem_of_mem_take hd))
  refine ⟨h1, Int.lt_of_lt_of_le h2 ?_⟩
  have hl : ((ds.drop lo).take (hi - lo)).length ≤ ds.length := by simp; (first | lia | omega)
  have : y * ((ds.drop lo).take (hi - lo)).length ≤ 62 := Nat.le_trans (Nat.mul_le_mul_left _ hl) hs
  exact_mod_cast Nat.pow_le_pow_right (n := 2) (by decide) this
theorem seg_all {y : Nat} {ds : List Int} : seg y ds 0 ds.length = undigs y ds := by simp [seg]
noncomputable def InnerD (prog : Program) (K : Frag) (w : World) (f c c1 c2 c3 l : Addr) (fn oc o1 o2 o3 lo : Obj) (y : Nat) (ds : List Int) (n : Nat) : Prop :=
  ∀ (a b : Nat) (ta tb : Tok), a < b → b ≤ ds.length → b - a ≤ n →
    CC prog K w f (n + 1) (8 * (n + 1)) [(l, lo), (f, fn), (c, oc), (c1, o1), (c2, o2), (c3, o3)] [.int a ta, .int b tb]
      (fun v n' => (∃ t, v = .int (seg y ds a b) t) ∧ n' = [(l, lo), (f, fn), (c, oc), (c1, o1), (c2, o2), (c3, o3)])
theorem innerSplitD {prog : Program} {K : Frag} {w : World} {g h : Heap} {L f c c1 c2 c3 l t : Addr} {fn oc o1 o2 o3 lo ot : Obj} (y : Nat) (ds : List Int) {G : Prop}
    (N : News g L h [(f, fn), (c3, o3), (c2, o2), (c1, o1), (l, lo), (t, ot), (c, oc)]) (key : ∀ n, InnerD prog K w f c c1 c2 c3 l fn oc o1 o2 o3 lo y ds n)
    (k : (∀ n, InnerD prog K w f c c1 c2 c3 l fn oc o1 o2 o3 lo y ds n) → G) : G := k key
end Mine
namespace Mine
noncomputable def TS (P : Addr) (qual : Str) (line col : Nat) (ps : Array Value) (ct : Addr) (oct : Obj) : Prop :=
  ps = #[] ∨ (ps = #[rawInt line, rawInt col, .ref ct] ∧ ct ≠ P ∧ ∃ vs t, oct.data = .fields vs ∧ vs[1]? = some (.str qual t))
theorem updF_end {P : Addr} {o : Obj} : ∀ {pre : List (Addr × Obj)}, (∀ q ∈ pre, q.1 ≠ P) → UpdF P o (pre ++ [(P, o)]) (fun o' => pre ++ [(P, o')])
  | [], _ => .head fun _ h => nomatch h
  | p :: r, h => .tail (h p (.head _)) (updF_end fun q hq => h q (.tail _ hq))
section
variable {M : Model} {A : Around} {E : Value → Shared → Prop} {s : Shared} {g : Heap} {L a c P ct : Addr} {m mg mb : Str → Option Value} {cn : Str} {cs : Scope} {ccd : Value} {cl : List (Str × Addr)} {news : List (Addr × Obj)} {oct : Obj}
  {p : Program} {loose : List Str} {mean : ExcName → Option Value} {name qual : Str} {params : Arguments} {body : List Stmt} {scope : Scope} {ps : Array Value} {pos : Pos} {firstLine : Nat} {clos : List (Str × Addr)}
theorem nestBoth {Q : Value → Shared → Prop} (F : Fr g L s.heap m) (N : News g L s.heap news) (T : Top p loose mean mg mb g) (C : CodeHd g c P) (hcd : ccd = .ref c)
    (hs : news = news.dropLast.dropLast ++ [(P, tabObj ps), (ct, oct)]) (ht : TS P qual pos.line pos.col ps ct oct) (hP : ∀ q ∈ news.dropLast.dropLast, q.1 ≠ P) (hc : ∀ q ∈ news.dropLast.dropLast, q.1 ≠ ct)
    (hcl : closureFor scope (envX cn cs L a ccd cl) = pure clos)
    (h : ∀ f c' oc' vs t ctv doc h' tk, Fr g L h' m →
      News g L h' ((f, fnMade name qual params body scope clos doc ((mg "__name__").getD .none) c' ctv) :: (news.dropLast.dropLast ++ [(P, tabObj #[rawInt pos.line, rawInt pos.col, .ref c']), (c', oc')])) →
      oc'.data = .fields vs → vs[1]? = some (.str qual t) → (∀ q ∈ news.dropLast.dropLast, q.1 ≠ c') → (∀ q ∈ news.dropLast.dropLast, q.1 ≠ f) → P ≠ f → c' ≠ f → c' ≠ P → Q (.ref f) { s with heap := h', toks := tk }) :
    wpAny M A (makeFunction name qual params (.stmts body) scope (envX cn cs L a ccd cl) [] [] [] pos firstLine) Q E s := by
  generalize hpre : news.dropLast.dropLast = pre at *
  subst hs
  clear hpre
  rcases ht with rfl | ⟨rfl, hne, vs, t, hd, hv⟩
  · have N1 : News g L s.heap (pre ++ [(P, tabObj #[])]) := fun q hq => N q (by
      rcases List.mem_append.mp hq with hq | hq
      · exact List.mem_append_left _ hq
      · exact List.mem_append_right _ (by simp at hq ⊢; exact .inl hq))
    refine nest_K F N1 T C hcd (updF_end hP) (by simp [TriplesOk]) (by rfl) hcl fun f c' oc vs t ctv doc h' tk F' N' hd hv h1 h2 => ?_
    refine h f c' oc vs t ctv doc h' tk F' (fun q hq => N' q ?_) hd hv (fun q hq => Nat.ne_of_lt (h1 q (List.mem_append_left _ hq))) (fun q hq => Nat.ne_of_lt (Nat.lt_trans (h1 q (List.mem_append_left _ hq)) h2)) (Nat.ne_of_lt (Nat.lt_trans (h1 (P, tabObj #[]) (by simp)) h2)) (Nat.ne_of_lt h2) (Nat.ne_of_gt (h1 (P, tabObj #[]) (by simp)))
    rcases List.mem_cons.mp hq with rfl | hq
    · exact .head _
    · rcases List.mem_append.mp hq with hq | hq
      · exact .tail _ (.tail _ (List.mem_append_left _ hq))
      · rcases List.mem_cons.mp hq with rfl | hq
        · exact .tail _ (.tail _ (List.mem_append_right _ (.head _)))
        · rw [List.mem_singleton.mp hq]; exact .tail _ (.head _)
  · refine nestHit_K (c' := ct) F N T C hcd (List.mem_append_right _ (.head _)) (by simp [TriplesOk, rawInt]) (by simp [codeAmong, rawInt]) hcl fun f ctv doc h' tk F' N' h1 => ?_
    exact h f ct oct vs t ctv doc h' tk F' N' hd hv hc (fun q hq => Nat.ne_of_lt (h1 q (List.mem_append_left _ hq))) (Nat.ne_of_lt (h1 _ (List.mem_append_right _ (.head _)))) (Nat.ne_of_lt (h1 _ (List.mem_append_right _ (.tail _ (.head _))))) hne
end
end Mine
local macro_rules | `(tactic| k_ne) => `(tactic| (refine neN ?_; (try dsimp only); first | assumption | (apply Ne.symm; assumption)))
theorem Mine.rows0_0 : True := by
  (k_with "call builtin:max" => (k_here; (with_reducible show wpAny _ _ (call (Value.builtin _) [Value.int _ _, Value.int _ _, Value.int _ _]) _ _ _); (with_unfolding_all refine' Mine.max3 ?zz_k1 ?zz_k2 ?zz_k3 ?_; (case zz_k1 => rfl); (case zz_k2 => k_asm); (case zz_k3 => k_asm); k_whole); intro _ _ _ _ _))
  (k_with "call builtin:min" => (k_here; (with_reducible show wpAny _ _ (call (Value.builtin _) [Value.int _ _, Value.int _ _, Value.int _ _]) _ _ _); (with_unfolding_all refine' Mine.min3 ?zz_k1 ?zz_k2 ?zz_k3 ?_; (case zz_k1 => rfl); (case zz_k2 => k_asm); (case zz_k3 => k_asm); k_whole); intro _ _ _ _ _))
  (k_with "binaryOp Mult ref int" => (k_here; k_dflt (refine' Mine.mulOne ?zz_k1 ?zz_k2 ?zz_k3 ?zz_k4 ?zz_k5 ?_; (case zz_k1 => k_asm); (case zz_k2 => k_asm); (case zz_k3 => k_mem); (case zz_k4 => first | (first | lia | omega) | assumption | l_fact); (case zz_k5 => first | (first | lia | omega) | assumption | l_fact); k_whole); intro _ _ _ _ _ l1 _; (try k_lt l1); (try k_sweep)))
  (k_with "call builtin:divmod" => (k_here; (with_reducible show wpAny _ _ (call (Value.builtin _) [Value.int _ _, Value.int _ _]) _ _ _); refine divmod_N (by assumption) (by assumption) (by side_arith) ?_; intro _ _ _))
  (k_with "call builtin:len" => (k_here; (with_reducible show wpAny _ _ (call (Value.builtin _) [Value.ref _]) _ _ _); k_dflt (refine' Mine.lenN ?zz_k1 ?zz_k2 ?zz_k3 ?zz_k4 ?_; (case zz_k1 => k_asm); (case zz_k2 => k_mem); (case zz_k3 => with_reducible assumption); (case zz_k4 => ((try simp only [List.length_append, List.length_cons, List.length_nil, List.length_replicate, List.length_map]); (first | lia | omega))); k_whole); intro _ _))
  (k_with "binaryOp Sub int int" => (k_here; with_reducible refine' Mine.subIs ?zz_k1 ?_; (case zz_k1 => assumption)))
  (k_with "binaryOp Add int int" => (k_here; with_reducible refine' Mine.addIs ?zz_k1 ?_; (case zz_k1 => assumption)))
  (k_with "binaryOp Mult int int" => (k_here; with_reducible refine' Mine.mulIs ?zz_k1 ?zz_k2 ?_; (case zz_k1 => assumption); (case zz_k2 => exact Mine.bits64 (by (first | lia | omega)))))
  (k_with "binaryOp RShift int int" => (k_here; with_reducible refine' Mine.shrIs ?zz_k1 ?zz_k2 ?_; (case zz_k1 => assumption); (case zz_k2 => (first | lia | omega))))
  (k_with "binaryOp LShift int int" => (k_here; with_reducible refine' Mine.shlIs ?zz_k1 ?zz_k2 ?zz_k3 ?zz_k4 ?_; (case zz_k1 => assumption); (case zz_k2 => (first | lia | omega)); (case zz_k3 => (first | lia | omega)); (case zz_k4 => (first | lia | omega))))
  (k_with "binaryOp BitXor int int" => (k_here; with_reducible refine' Mine.xorIs ?zz_k1 ?_; (case zz_k1 => assumption)))
  (k_with "exec FunctionDef" => (k_here; kn_here; k_dflt (refine' nestDef_K ?zz_d0 ?zz_k0 ?zz_a0 ?_; (case zz_d0 => exact rfl); (case zz_k0 => exact rfl); (case zz_a0 => exact rfl)); (k_dflt (refine' Mine.nestBoth ?zz_F ?zz_N ?zz_T ?zz_C ?zz_cd ?zz_hs ?zz_ht ?zz_hP ?zz_hc ?zz_cl ?_; (case zz_F => k_asm); (case zz_N => k_asm); (case zz_T => k_asm); (case zz_cd => exact rfl); (case zz_C => kn_code); (case zz_hs => exact rfl); (case zz_ht => assumption); (case zz_hP => (dsimp only [List.dropLast]; k_all)); (case zz_hc => (dsimp only [List.dropLast]; k_all)); (case zz_cl => exact rfl); k_whole); intro _ _ _ _ _ _ _ _ _ _ N' _ _ l1 l2 _ _ _; (dsimp only [List.dropLast, List.append, HAppend.hAppend, Append.append] at N' l1 l2); (simp only [List.forall_mem_cons, List.forall_mem_nil, and_true] at l1 l2); (repeat (obtain ⟨_, l1⟩ := l1)); (repeat (obtain ⟨_, l2⟩ := l2)))))
  (k_with "execs cons" => (k_here; k_fold))
  (k_with "eval ListComp" => (k_here; k_fold))
  trivial
namespace Mine
noncomputable def subCost (x y : Str) : Int := if x = y then 0 else if Txt.lower x = Txt.lower y then 1 else 2
theorem subCost1 {x y : Str} (h : (x == y) = true) : 0 = subCost x y := by simp at h; simp [subCost, h]
theorem subCost2 {x y : Str} (h : (x == y) = false) (h2 : (Txt.lower x == Txt.lower y) = true) : 1 = subCost x y := by simp at h h2; simp [subCost, h, h2]
theorem subCost3 {x y : Str} (h : (x == y) = false) (h2 : (Txt.lower x == Txt.lower y) = false) : 2 = subCost x y := by simp at h h2; simp [subCost, h, h2]
theorem sub_spec (w : World) (x y : Str) (tx ty : Tok) (hx : x.length ≤ 1) (hy : y.length ≤ 1) : C3 w 77 1 8 [] [.str x tx, .str y ty] (fun v n' => n' = [] ∧ ∃ t, v = .int (subCost x y) t) := by
  intro p loose mean mg mb dp un gd fr base g s R B X T st sz N hd hu hret
  k_dflt (refine' enterP ?k1 ?kst ?ksz ?kN ?kX ?kT ?k6 ?k7 ?k8 ?k9 ?kB ?_ ?c2 ?c3 ?c4 ?c5; (case k1 => exact B); (case kst => exact st); (case ksz => exact sz); (case kN => exact N); (case kX => exact X); (case kT => exact T); (case k6 => k_is); (case k7 => k_is); (case k8 => ktr_room); (case k9 => exact BindsTo.of_eq rfl); (case c5 => decide); (case kB => exact locs rfl); (case c2 => exact rfl); (case c3 => exact rfl); (case c4 => exact rfl); k_whole; intro L' h' F' N' l0; (try dsimp only); (try k_lt l0); (try k_fold))
  k_steps
  all_goals refine hret _ _ _ _ ⟨rfl, ⟨_, congrArg (fun z => Value.int z _) ?_⟩⟩ (Fr.keep (by k_asm)) outE
  · exact subCost1 (by assumption)
  · exact subCost2 (by assumption) (by assumption)
  · exact subCost3 (by assumption) (by assumption)
end Mine
namespace Mine
theorem div_spec (w : World) (x y z : Int) (tx ty tz : Tok) (hx : (Builtin.Int.intBits x : Int) - z ≤ 4000) (hz : 0 ≤ z) (hy : 0 < y) (hy2 : y < 1073741824) :
    C3 w 21 1 8 [] [.int x tx, .int y ty, .int z tz] (fun v n' => ∃ r t1 t2, v = .ref r ∧ n' = [(r, tupOf [.int (x.fdiv y) t1, .int (x.fmod y) t2])]) := by
  intro p loose mean mg mb dp un gd fr base g s R B X T st sz N hd hu hret
  k_dflt (refine' enterP ?k1 ?kst ?ksz ?kN ?kX ?kT ?k6 ?k7 ?k8 ?k9 ?kB ?_ ?c2 ?c3 ?c4 ?c5; (case k1 => exact B); (case kst => exact st); (case ksz => exact sz); (case kN => exact N); (case kX => exact X); (case kT => exact T); (case k6 => k_is); (case k7 => k_is); (case k8 => ktr_room); (case k9 => exact BindsTo.of_eq rfl); (case c5 => decide); (case kB => exact locs rfl); (case c2 => exact rfl); (case c3 => exact rfl); (case c4 => exact rfl); k_whole; intro L' h' F' N' l0; (try dsimp only); (try k_lt l0); (try k_fold))
  k_steps
  exact hret _ _ _ _ ⟨_, _, _, rfl, rfl⟩ (Fr.keep (by k_asm)) (out (by k_asm))
end Mine
namespace Mine
noncomputable def ndig (x y : Nat) : Nat := (((Builtin.Int.intBits (x : Int) : Int) + y - 1).fdiv y).toNat
theorem bits48 {x : Nat} (h : x < 2 ^ 48) : Builtin.Int.intBits (x : Int) ≤ 48 := intBits_le_iff.mpr (by simpa using h)
theorem ndig_spec (x y : Nat) (hx : x < 2 ^ 48) (hy : 0 < y) : 0 ≤ ((Builtin.Int.intBits (x : Int) : Int) + y - 1).fdiv y ∧ ((Builtin.Int.intBits (x : Int) : Int) + y - 1).fdiv y ≤ 48 ∧ x < 2 ^ (y * ndig x y) := by
  have hb := bits48 hx
  have hxb : x < 2 ^ Builtin.Int.intBits (x : Int) := by
    have := (intBits_le_iff (m := Builtin.Int.intBits (x : Int)) (x := (x : Int))).mp (Nat.le_refl _)
    simpa using this
  unfold ndig
  generalize Builtin.Int.intBits (x : Int) = b at *
  have e : ((b : Int) + y - 1).fdiv y = (((b + (y - 1)) / y : Nat) : Int) := by
    rw [show (b : Int) + y - 1 = ((b + (y - 1) : Nat) : Int) from by (first | lia | omega), Int.fdiv_eq_ediv_of_nonneg _ (Int.natCast_nonneg _)]
    rfl
  rw [e]
  refine ⟨Int.natCast_nonneg _, ?_, ?_⟩
  · have : (b + (y - 1)) / y ≤ 48 := by
      apply Nat.le_of_lt_succ
      rw [Nat.div_lt_iff_lt_mul hy]
      have : 49 * y = 48 * y + y := by (first | lia | omega)
      have : 48 ≤ 48 * y := by (first | lia | omega)
      show _ < 49 * y
      (first | lia | omega)
    (first | lia | omega)
  · rw [Int.toNat_natCast]
    refine Nat.lt_of_lt_of_le hxb (Nat.pow_le_pow_right (by decide) ?_)
    have := Nat.div_add_mod (b + (y - 1)) y
    have := Nat.mod_lt (b + (y - 1)) hy
    (first | lia | omega)
theorem i2d_end {vs : List Value} {x y k : Nat} (h : IntsAre vs (splice (List.replicate k 0) 0 (List.replicate k (0 : Int)).length (digs y ((List.replicate k (0 : Int)).length - 0) x))) : IntsAre vs (digs y k x) := by
  simpa [splice] using h
theorem i2d_zero {vs : List Value} {y : Nat} (hy : 0 < y) (h : IntsAre vs (List.replicate (((Builtin.Int.intBits ((0 : Nat) : Int) : Int) + y - 1).fdiv y).toNat 0)) : IntsAre vs (digs y (ndig 0 y) 0) := by
  have e : ((Builtin.Int.intBits ((0 : Nat) : Int) : Int) + y - 1).fdiv y = 0 := by
    have : Builtin.Int.intBits ((0 : Nat) : Int) = 0 := by decide
    rw [this, Int.fdiv_eq_ediv_of_nonneg _ (Int.natCast_nonneg _)]
    exact Int.ediv_eq_zero_of_lt (by (first | lia | omega)) (by (first | lia | omega))
  unfold ndig
  rw [e] at h ⊢
  exact h
theorem i2d_zero' {vs : List Value} {x y : Nat} (hy : 0 < y) (hx : x = 0) (h : IntsAre vs (List.replicate (((Builtin.Int.intBits ((x : Nat) : Int) : Int) + y - 1).fdiv y).toNat 0)) : IntsAre vs (digs y (ndig x y) x) := by
  subst hx
  exact i2d_zero hy h
theorem i2d_pos {x y n : Nat} (hx : x ≠ 0) (h : x < 2 ^ (y * n)) : 0 < n := by
  rcases n with _ | n
  · simp at h; (first | lia | omega)
  · (first | lia | omega)
theorem i2d_spec (w : World) (x y : Nat) (tx ty : Tok) (hx : x < 2 ^ 48) (hy : 0 < y) (hy2 : y ≤ 48) (ps : Array Value) (ct : Addr) (oct : Obj) (hTS : TS 30 "_int2digits.<locals>.inner" 32 4 ps ct oct) :
    C3 w 35 60 480 [(30, tabObj ps), (ct, oct)] [.int x tx, .int y ty]
      (fun v n' => ∃ r vs e ps' c' oc', v = .ref r ∧ n' = [(r, listOf vs.toArray e), (30, tabObj ps'), (c', oc')] ∧ IntsAre vs (digs y (ndig x y) x) ∧ TS 30 "_int2digits.<locals>.inner" 32 4 ps' c' oc' ∧ r ≠ 30 ∧ r ≠ c') := by
  obtain ⟨hq0, hq1, hq2⟩ := ndig_spec x y hx hy
  have hb := bits48 hx
  intro p loose mean mg mb dp un gd fr base g s R B X T st sz N hd hu hret
  k_dflt (refine' enterC ?k1 ?kst ?ksz ?kN ?kX ?kT ?k6 ?k7 ?k8 ?k9 ?kB ?kD ?_ ?c2 ?c3 ?c4; (case k1 => exact B); (case kst => exact st); (case ksz => exact sz); (case kN => exact N); (case kX => exact X); (case kT => exact T); (case k6 => k_is); (case k7 => k_is); (case k8 => ktr_room); (case k9 => exact BindsTo.of_eq rfl); (case kB => exact rfl); (case kD => decide +kernel); (case c2 => exact rfl); (case c3 => exact rfl); (case c4 => exact rfl); k_whole; intro L' h' tk' cells' F' N' Y' l0; (try k_lt l0); k_cells Y'; (try simp only [List.cons_append, List.nil_append] at N'); (try dsimp only); (try k_fold))
  have codeHd := codeHd_of_K (c := 34) (P := 30) X (by kernel_rfl)
  k_steps
  · refine innerSplit (prog := PySem.Challenge.rw_pg0238_01.row.prog) (K := Mine.hd.heap_39 w.params) (w := w) (y := y) (by assumption : News _ _ _ _) ?key ?_
    case key =>
      clear hret N st sz B X T hd hu
      intro n
      induction n with
      | zero =>
        intro x lo hi vs ns tx tl th hi1 hlh hhi hn
        (first | lia | omega)
      | succ n ih =>
        intro x lo hi vs ns tx tl th hi1 hlh hhi hn hxb hx48 hi48
        obtain ⟨mid, hmid⟩ : ∃ mid, mid = (lo + hi) / 2 := ⟨_, rfl⟩
        obtain ⟨sh, hsh⟩ : ∃ sh, sh = (mid - lo) * y := ⟨_, rfl⟩
        have i1 : Is ((lo : Int) + hi) ((lo + hi : Nat) : Int) := by unfold Is; (first | lia | omega)
        have i2 : Is (((lo + hi : Nat) : Int).fdiv (2 ^ Int.toNat 1)) (mid : Int) := by
          have := fdivP (lo + hi) 1
          subst hmid
          simpa [Is] using this
        have i3 : Is ((mid : Int) - lo) ((mid - lo : Nat) : Int) := by unfold Is; (first | lia | omega)
        have i4 : Is (((mid - lo : Nat) : Int) * y) (sh : Int) := by unfold Is; subst hsh; simp
        have hshb : sh ≤ 48 * 48 := by subst hsh; exact Nat.mul_le_mul (by (first | lia | omega)) hy2
        have i5 : Is ((x : Int).fdiv (2 ^ ((sh : Int)).toNat)) ((x / 2 ^ sh : Nat) : Int) := fdivP x sh
        have hup : x / 2 ^ sh ≤ x := Nat.div_le_self _ _
        have hup48 : x / 2 ^ sh < 2 ^ 48 := Nat.lt_of_le_of_lt hup hx48
        have i6 : Is (((x / 2 ^ sh : Nat) : Int) * 2 ^ ((sh : Int)).toNat) ((x / 2 ^ sh * 2 ^ sh : Nat) : Int) := by unfold Is; simp
        have i7 : Is (Builtin.bitXor (x : Int) ((x / 2 ^ sh * 2 ^ sh : Nat) : Int)) ((x % 2 ^ sh : Nat) : Int) := xor_low x sh
        have hlow : x % 2 ^ sh ≤ x := Nat.mod_le _ _
        have hlow48 : x % 2 ^ sh < 2 ^ 48 := Nat.lt_of_le_of_lt hlow hx48
        have hlow2 : x % 2 ^ sh < 2 ^ (y * (mid - lo)) := by rw [hsh, Nat.mul_comm y]; exact Nat.mod_lt _ (Nat.two_pow_pos _)
        have hup2 : x / 2 ^ sh < 2 ^ (y * (hi - mid)) := by
          rw [Nat.div_lt_iff_lt_mul (Nat.two_pow_pos _), ← Nat.pow_add, hsh, Nat.mul_comm (mid - lo), ← Nat.mul_add, show hi - mid + (mid - lo) = hi - lo from by (first | lia | omega)]
          exact hxb
        have hjoin := fun vs' => i2d_join (vs' := vs') (ns := ns) (lo := lo) (mid := mid) (hi := hi) (x := x) (y := y) (by (first | lia | omega)) (by (first | lia | omega)) hhi
        rw [← hsh] at hjoin
        generalize hUP : x / 2 ^ sh = up at *
        generalize hLW : x % 2 ^ sh = lw at *
        generalize hZZ : up * 2 ^ sh = zz at *
        intro p loose mean mg mb dp un gd fr base g s R B X T st sz N hd hu hret
        k_dflt (refine' enterN ?k1 ?kst ?ksz ?kN ?kX ?kT ?k6 ?k7 ?k8 ?k9 ?kB ?_ ?c2 ?c3 ?c4 ?c5; (case k1 => exact B); (case kst => exact st); (case ksz => exact sz); (case kN => exact N); (case kX => exact X); (case kT => exact T); (case k6 => k_mem); (case k7 => refine' codeRecS ?crA ?crB ?crC; (case crB => assumption); (case crC => assumption); (case crA => exact (N (_, _) (by k_mem)).1)); (case k8 => ktr_room); (case k9 => exact BindsTo.of_eq rfl); (case c5 => decide); (case kB => exact locs rfl); (case c2 => exact rfl); (case c3 => exact rfl); (case c4 => exact rfl); k_whole; intro L' h' F' N' l0; (try dsimp only); (try k_lt l0); (try k_fold))
        k_steps
        · exact hret _ _ _ _ ⟨_, rfl, rfl, i2d_base (by assumption) (by (first | lia | omega)) hhi hxb⟩ (Fr.keep (by k_asm)) (out (by k_asm))
        · k_dflt (refine' CC.use (rest := []) (ih _ _ _ _ _ _ _ _ hi1 ?a1 ?a2 ?a3 hlow2 hlow48 ?a6) ?cB ?cF ?cX ?cN ?cT ?cf ?ck ?cP ?cd ?cdp ?cun ?_; (case a1 => (first | lia | omega)); (case a2 => (first | lia | omega)); (case a3 => (first | lia | omega)); (case a6 => (first | lia | omega)); (case cB => exact B); (case cF => k_asm); (case cX => exact X); (case cN => k_asm); (case cT => exact T); (case cf => exact rfl); (case ck => exact rfl); (case cP => repeat' (first | exact List.forall_mem_nil _ | (refine' List.forall_mem_cons.mpr ⟨?_, ?_⟩) | k_mem)); (case cd => repeat' (first | exact List.forall_mem_nil _ | (refine' List.forall_mem_cons.mpr ⟨?_, ?_⟩) | k_ne)); (case cdp => ktr_room); (case cun => ktr_units))
          intro v9 n9 h9 tk9 P9 F9 N9 _
          obtain ⟨vs9, rfl, rfl, hi9⟩ := P9
          simp only [List.append_nil] at N9
          have hl9 : (splice ns lo mid (digs y (mid - lo) lw)).length = ns.length := splice_length (by (first | lia | omega)) (by (first | lia | omega)) (digs_length _ _ _)
          dsimp only
          k_steps
          k_dflt (refine' CC.use (rest := []) (ih _ _ _ _ _ _ _ _ hi9 ?a1 ?a2 ?a3 hup2 hup48 ?a6) ?cB ?cF ?cX ?cN ?cT ?cf ?ck ?cP ?cd ?cdp ?cun ?_; (case a1 => (first | lia | omega)); (case a2 => (first | lia | omega)); (case a3 => (first | lia | omega)); (case a6 => (first | lia | omega)); (case cB => exact B); (case cF => k_asm); (case cX => exact X); (case cN => k_asm); (case cT => exact T); (case cf => exact rfl); (case ck => exact rfl); (case cP => repeat' (first | exact List.forall_mem_nil _ | (refine' List.forall_mem_cons.mpr ⟨?_, ?_⟩) | k_mem)); (case cd => repeat' (first | exact List.forall_mem_nil _ | (refine' List.forall_mem_cons.mpr ⟨?_, ?_⟩) | k_ne)); (case cdp => ktr_room); (case cun => ktr_units))
          intro v8 n8 h8 tk8 P8 F8 N8 _
          obtain ⟨vs8, rfl, rfl, hi8⟩ := P8
          simp only [List.append_nil] at N8
          dsimp only
          k_steps
          exact hret _ _ _ _ ⟨_, rfl, rfl, hjoin _ hi8⟩ (Fr.keep (by k_asm)) (out (by k_asm))
    intro key
    k_dflt (refine' CC.use (rest := [(30, _)]) (key 49 _ 0 _ _ _ _ _ _ (by assumption) ?a1 ?a2 ?a3 ?a4 ?a5 ?a6) ?cB ?cF ?cX ?cN ?cT ?cf ?ck ?cP ?cd ?cdp ?cun ?_; (case a1 => (simp only [List.length_replicate]; exact i2d_pos (by (first | lia | omega)) hq2)); (case a2 => exact Nat.le_refl _); (case a3 => (simp only [List.length_replicate]; (first | lia | omega))); (case a4 => (simp only [List.length_replicate]; exact hq2)); (case a5 => exact hx); (case a6 => (simp only [List.length_replicate]; (first | lia | omega))); (case cB => exact B); (case cF => k_asm); (case cX => exact X); (case cN => k_asm); (case cT => exact T); (case cf => exact rfl); (case ck => exact rfl); (case cP => repeat' (first | exact List.forall_mem_nil _ | (refine' List.forall_mem_cons.mpr ⟨?_, ?_⟩) | k_mem)); (case cd => repeat' (first | exact List.forall_mem_nil _ | (refine' List.forall_mem_cons.mpr ⟨?_, ?_⟩) | k_ne)); (case cdp => ktr_room); (case cun => ktr_units))
    intro v9 n9 h9 tk9 P9 F9 N9 _
    obtain ⟨vs9, rfl, rfl, hi9⟩ := P9
    simp only [List.cons_append, List.nil_append] at N9
    dsimp only
    k_steps
    k_dflt (refine' hret _ _ _ _ ⟨_, _, _, _, _, _, rfl, rfl, ?i, .inr ⟨?e1, ?ne, _, _, ?d1, ?d2⟩, ?n1, ?n2⟩ (Fr.keep ?F) (outS ?N (List.forall_mem_cons.mpr ⟨?m1, List.forall_mem_cons.mpr ⟨?m2, List.forall_mem_cons.mpr ⟨?m3, List.forall_mem_nil _⟩⟩⟩)); (case F => k_asm); (case N => k_asm); (case m1 => k_mem); (case m2 => k_mem); (case e1 => exact rfl); (case m3 => k_mem); (case d1 => assumption); (case d2 => assumption); (case ne => assumption); (case n1 => k_ne); (case n2 => assumption); (case i => exact i2d_end hi9))
  · dsimp only
    k_dflt (refine' hret _ _ _ _ ⟨_, _, _, _, _, _, rfl, rfl, ?i, .inr ⟨?e1, ?ne, _, _, ?d1, ?d2⟩, ?n1, ?n2⟩ (Fr.keep ?F) (outS ?N (List.forall_mem_cons.mpr ⟨?m1, List.forall_mem_cons.mpr ⟨?m2, List.forall_mem_cons.mpr ⟨?m3, List.forall_mem_nil _⟩⟩⟩)); (case F => k_asm); (case N => k_asm); (case m1 => k_mem); (case m2 => k_mem); (case e1 => exact rfl); (case m3 => k_mem); (case d1 => assumption); (case d2 => assumption); (case ne => assumption); (case n1 => k_ne); (case n2 => assumption); (case i => exact i2d_zero' hy (by (first | lia | omega)) (by assumption)))
end Mine
namespace Mine
theorem d2i_spec (w : World) (l : Addr) (vs : List Value) (e : Nat) (ds : List Int) (y : Nat) (ty : Tok) (hi : IntsAre vs ds) (hy : 0 < y) (hsz : y * ds.length ≤ 62) (hds : ∀ d ∈ ds, 0 ≤ d ∧ d < 2 ^ y) (ps : Array Value) (ct : Addr) (oct : Obj) (hTS : TS 37 "_digits2int.<locals>.inner" 47 4 ps ct oct) (hl1 : l ≠ 37) (hl2 : l ≠ ct) :
    C3 w 42 80 640 [(l, listOf vs.toArray e), (37, tabObj ps), (ct, oct)] [.ref l, .int y ty]
      (fun v n' => ∃ t ps' c' oc', v = .int (undigs y ds) t ∧ n' = [(l, listOf vs.toArray e), (37, tabObj ps'), (c', oc')] ∧ TS 37 "_digits2int.<locals>.inner" 47 4 ps' c' oc' ∧ l ≠ c') := by
  have hlen : ds.length ≤ 62 := Nat.le_trans (Nat.le_mul_of_pos_left _ hy) hsz
  intro p loose mean mg mb dp un gd fr base g s R B X T st sz N hd hu hret
  k_dflt (refine' enterC ?k1 ?kst ?ksz ?kN ?kX ?kT ?k6 ?k7 ?k8 ?k9 ?kB ?kD ?_ ?c2 ?c3 ?c4; (case k1 => exact B); (case kst => exact st); (case ksz => exact sz); (case kN => exact N); (case kX => exact X); (case kT => exact T); (case k6 => k_is); (case k7 => k_is); (case k8 => ktr_room); (case k9 => exact BindsTo.of_eq rfl); (case kB => exact rfl); (case kD => decide +kernel); (case c2 => exact rfl); (case c3 => exact rfl); (case c4 => exact rfl); k_whole; intro L' h' tk' cells' F' N' Y' l0; (try k_lt l0); k_cells Y'; (try simp only [List.cons_append, List.nil_append] at N'); (try dsimp only); (try k_fold))
  have codeHd := codeHd_of_K (c := 41) (P := 37) X (by kernel_rfl)
  k_steps
  · refine innerSplitD (prog := PySem.Challenge.rw_pg0238_01.row.prog) (K := Mine.hd.heap_39 w.params) (w := w) y ds (by assumption : News _ _ _ _) ?key ?_
    case key =>
      clear hret N st sz B X T hd hu
      intro n
      induction n with
      | zero =>
        intro a b ta tb hlh hhi hn
        (first | lia | omega)
      | succ n ih =>
        intro lo hi' tl th hlh hhi hn
        obtain ⟨mid, hmid⟩ : ∃ mid, mid = (lo + hi') / 2 := ⟨_, rfl⟩
        obtain ⟨sh, hsh⟩ : ∃ sh, sh = (mid - lo) * y := ⟨_, rfl⟩
        have i1 : Is ((lo : Int) + hi') ((lo + hi' : Nat) : Int) := by unfold Is; (first | lia | omega)
        have i2 : Is (((lo + hi' : Nat) : Int).fdiv (2 ^ Int.toNat 1)) (mid : Int) := by
          have := fdivP (lo + hi') 1
          subst hmid
          simpa [Is] using this
        have i3 : Is ((mid : Int) - lo) ((mid - lo : Nat) : Int) := by unfold Is; (first | lia | omega)
        have i4 : Is (((mid - lo : Nat) : Int) * y) (sh : Int) := by unfold Is; subst hsh; simp
        have hshb : sh ≤ 62 * 62 := by
          subst hsh
          have h1 : (mid - lo) * y ≤ ds.length * y := Nat.mul_le_mul_right _ (by (first | lia | omega))
          rw [Nat.mul_comm ds.length] at h1
          (first | lia | omega)
        have i5 : Is (seg y ds mid hi' * 2 ^ ((sh : Int)).toNat) (seg y ds mid hi' * 2 ^ sh) := rfl
        have i6 : Is (seg y ds mid hi' * 2 ^ sh + seg y ds lo mid) (seg y ds lo hi') := by rw [hsh]; exact seg_join (by (first | lia | omega)) (by (first | lia | omega)) hhi
        have hb1 := seg_bound (lo := mid) (hi := hi') hds hsz
        intro p loose mean mg mb dp un gd fr base g s R B X T st sz N hd hu hret
        k_dflt (refine' enterN ?k1 ?kst ?ksz ?kN ?kX ?kT ?k6 ?k7 ?k8 ?k9 ?kB ?_ ?c2 ?c3 ?c4 ?c5; (case k1 => exact B); (case kst => exact st); (case ksz => exact sz); (case kN => exact N); (case kX => exact X); (case kT => exact T); (case k6 => k_mem); (case k7 => refine' codeRecS ?crA ?crB ?crC; (case crB => assumption); (case crC => assumption); (case crA => exact (N (_, _) (by k_mem)).1)); (case k8 => ktr_room); (case k9 => exact BindsTo.of_eq rfl); (case c5 => decide); (case kB => exact locs rfl); (case c2 => exact rfl); (case c3 => exact rfl); (case c4 => exact rfl); k_whole; intro L' h' F' N' l0; (try dsimp only); (try k_lt l0); (try k_fold))
        k_steps
        · exact hret _ _ _ _ ⟨⟨_, congrArg (fun z => Value.int z _) (seg_one (by (first | lia | omega)) hhi)⟩, rfl⟩ (Fr.keep (by k_asm)) (out (by k_asm))
        · k_dflt (refine' CC.use (rest := []) (ih _ _ _ _ ?a1 ?a2 ?a3) ?cB ?cF ?cX ?cN ?cT ?cf ?ck ?cP ?cd ?cdp ?cun ?_; (case a1 => (first | lia | omega)); (case a2 => (first | lia | omega)); (case a3 => (first | lia | omega)); (case cB => exact B); (case cF => k_asm); (case cX => exact X); (case cN => k_asm); (case cT => exact T); (case cf => exact rfl); (case ck => exact rfl); (case cP => repeat' (first | exact List.forall_mem_nil _ | (refine' List.forall_mem_cons.mpr ⟨?_, ?_⟩) | k_mem)); (case cd => repeat' (first | exact List.forall_mem_nil _ | (refine' List.forall_mem_cons.mpr ⟨?_, ?_⟩) | k_ne)); (case cdp => ktr_room); (case cun => ktr_units))
          intro v9 n9 h9 tk9 P9 F9 N9 _
          obtain ⟨⟨t9, rfl⟩, rfl⟩ := P9
          simp only [List.append_nil] at N9
          dsimp only
          k_steps
          k_dflt (refine' CC.use (rest := []) (ih _ _ _ _ ?a1 ?a2 ?a3) ?cB ?cF ?cX ?cN ?cT ?cf ?ck ?cP ?cd ?cdp ?cun ?_; (case a1 => (first | lia | omega)); (case a2 => (first | lia | omega)); (case a3 => (first | lia | omega)); (case cB => exact B); (case cF => k_asm); (case cX => exact X); (case cN => k_asm); (case cT => exact T); (case cf => exact rfl); (case ck => exact rfl); (case cP => repeat' (first | exact List.forall_mem_nil _ | (refine' List.forall_mem_cons.mpr ⟨?_, ?_⟩) | k_mem)); (case cd => repeat' (first | exact List.forall_mem_nil _ | (refine' List.forall_mem_cons.mpr ⟨?_, ?_⟩) | k_ne)); (case cdp => ktr_room); (case cun => ktr_units))
          intro v8 n8 h8 tk8 P8 F8 N8 _
          obtain ⟨⟨t8, rfl⟩, rfl⟩ := P8
          simp only [List.append_nil] at N8
          dsimp only
          k_steps
          exact hret _ _ _ _ ⟨⟨_, rfl⟩, rfl⟩ (Fr.keep (by k_asm)) (out (by k_asm))
    intro key
    k_dflt (refine' CC.use (rest := [(37, _)]) (key 63 0 _ _ _ ?a1 ?a2 ?a3) ?cB ?cF ?cX ?cN ?cT ?cf ?ck ?cP ?cd ?cdp ?cun ?_; (case a1 => assumption); (case a2 => exact Nat.le_refl _); (case a3 => (first | lia | omega)); (case cB => exact B); (case cF => k_asm); (case cX => exact X); (case cN => k_asm); (case cT => exact T); (case cf => exact rfl); (case ck => exact rfl); (case cP => repeat' (first | exact List.forall_mem_nil _ | (refine' List.forall_mem_cons.mpr ⟨?_, ?_⟩) | k_mem)); (case cd => repeat' (first | exact List.forall_mem_nil _ | (refine' List.forall_mem_cons.mpr ⟨?_, ?_⟩) | k_ne)); (case cdp => ktr_room); (case cun => ktr_units))
    intro v9 n9 h9 tk9 P9 F9 N9 _
    obtain ⟨⟨t9, rfl⟩, rfl⟩ := P9
    simp only [List.cons_append, List.nil_append] at N9
    dsimp only
    k_steps
    k_dflt (refine' hret _ _ _ _ ⟨_, _, _, _, congrArg (fun z => Value.int z _) seg_all, rfl, .inr ⟨?e1, ?ne, _, _, ?d1, ?d2⟩, ?n1⟩ (Fr.keep ?F) (outS ?N (List.forall_mem_cons.mpr ⟨?m1, List.forall_mem_cons.mpr ⟨?m2, List.forall_mem_cons.mpr ⟨?m3, List.forall_mem_nil _⟩⟩⟩)); (case F => k_asm); (case N => k_asm); (case m1 => k_mem); (case m2 => k_mem); (case e1 => exact rfl); (case m3 => k_mem); (case d1 => assumption); (case d2 => assumption); (case ne => assumption); (case n1 => assumption))
  · obtain rfl : ds = [] := by cases ds <;> simp_all
    k_dflt (refine' hret _ _ _ _ ⟨_, _, _, _, rfl, rfl, .inr ⟨?e1, ?ne, _, _, ?d1, ?d2⟩, ?n1⟩ (Fr.keep ?F) (outS ?N (List.forall_mem_cons.mpr ⟨?m1, List.forall_mem_cons.mpr ⟨?m2, List.forall_mem_cons.mpr ⟨?m3, List.forall_mem_nil _⟩⟩⟩)); (case F => k_asm); (case N => k_asm); (case m1 => k_mem); (case m2 => k_mem); (case e1 => exact rfl); (case m3 => k_mem); (case d1 => assumption); (case d2 => assumption); (case ne => assumption); (case n1 => assumption))
end Mine
namespace Mine
inductive Pick (x : Addr × Obj) : List (Addr × Obj) → List (Addr × Obj) → Prop
  | head {r} : Pick x (x :: r) r
  | tail {y r r'} : Pick x r r' → Pick x (y :: r) (y :: r')
inductive Picks : List (Addr × Obj) → List (Addr × Obj) → List (Addr × Obj) → Prop
  | nil {r} : Picks [] r r
  | cons {x mu r r' r''} : Pick x r r' → Picks mu r' r'' → Picks (x :: mu) r r''
theorem Pick.sub {x : Addr × Obj} {n n' : List (Addr × Obj)} (h : Pick x n n') : x ∈ n ∧ ∀ q ∈ n', q ∈ n := by
  induction h with
  | head => exact ⟨.head _, fun q hq => .tail _ hq⟩
  | tail _ ih => exact ⟨.tail _ ih.1, fun q hq => by
      rcases List.mem_cons.mp hq with rfl | hq
      · exact .head _
      · exact .tail _ (ih.2 q hq)⟩
theorem Picks.sub {mu n n' : List (Addr × Obj)} (h : Picks mu n n') : ∀ q ∈ mu ++ n', q ∈ n := by
  induction h with
  | nil => exact fun q hq => hq
  | cons p _ ih =>
    intro q hq
    rcases List.mem_cons.mp hq with rfl | hq
    · exact p.sub.1
    · exact p.sub.2 q (ih q hq)
theorem CC.useK {prog : Program} {K : Frag} {w : World} {f : Addr} {D U : Nat} {mu rest news : List (Addr × Obj)} {vs : List Value} {Post : Value → List (Addr × Obj) → Prop}
    (C : CC prog K w f D U mu vs Post) {p : Program} {loose : List Str} {mean : ExcName → Option Value} {mg mb : Str → Option Value} {dp un : Nat} {gd : Option (List Code)} {env : Env} {outer : List Env} {A₀ : Around} {base h₀ : Heap} {L : Addr} {m : Str → Option Value} {s : Shared} {Q E : Value → Shared → Prop}
    (P : Picks mu news rest) (B : Below A₀ base outer h₀) (F : Fr h₀ L s.heap m) (X : K.In h₀) (N : News h₀ L s.heap news) (T : Top p loose mean mg mb h₀) (hf : env.frame = some L) (hke : env.scope.kind = .function)
    (hd : ∀ q ∈ rest, ∀ r ∈ mu, q.1 ≠ r.1) (hdp : dp + D < recursionLimit) (hun : un + U < cLine)
    (h : ∀ v n' h' tk', Post v n' → Fr h₀ L h' m → News h₀ L h' (n' ++ rest) → (∀ q ∈ n', ∀ r ∈ rest, r.1 ≠ q.1) → Q v { s with heap := h', toks := tk' }) :
    wpAny (model prog w) (Ar dp un gd (env :: outer)) (call (.ref f) vs) Q E s := C.use B F X N T hf hke P.sub hd hdp hun h
end Mine
namespace Mine
section
variable {w : World} {p : Program} {loose : List Str} {mean : ExcName → Option Value} {mg mb : Str → Option Value} {dp un : Nat} {gd : Option (List Code)} {env : Env} {outer : List Env} {A₀ : Around} {base h₀ : Heap} {L : Addr} {m : Str → Option Value} {s : Shared} {Q E : Value → Shared → Prop} {news n1 n2 rest : List (Addr × Obj)}
theorem useDiv {x y z : Nat} {tx ty tz : Tok} (hx : (Builtin.Int.intBits (x : Int) : Int) - (z : Int) ≤ 4000) (hy : 0 < y) (hy2 : y < 1073741824)
    (B : Below A₀ base outer h₀) (F : Fr h₀ L s.heap m) (X : (Mine.hd.heap_39 w.params).In h₀) (N : News h₀ L s.heap news) (T : Top p loose mean mg mb h₀) (hf : env.frame = some L) (hke : env.scope.kind = .function) (hdp : dp + 1 < recursionLimit) (hun : un + 8 < cLine)
    (h : ∀ r t1 t2 h' tk', Fr h₀ L h' m → News h₀ L h' ((r, tupOf [.int ((x / y : Nat) : Int) t1, .int ((x % y : Nat) : Int) t2]) :: news) → (∀ q ∈ news, q.1 ≠ r) → Q (.ref r) { s with heap := h', toks := tk' }) :
    wpAny (model PySem.Challenge.rw_pg0238_01.row.prog w) (Ar dp un gd (env :: outer)) (call (.ref 21) [.int x tx, .int y ty, .int z tz]) Q E s := by
  refine CC.useK (div_spec w x y z tx ty tz hx (Int.natCast_nonneg _) (by (first | lia | omega)) (by (first | lia | omega))) Picks.nil B F X N T hf hke (fun _ _ _ h => nomatch h) hdp hun fun v n' h' tk' P F' N' D => ?_
  obtain ⟨r, t1, t2, rfl, rfl⟩ := P
  have e1 : (x : Int).fdiv y = ((x / y : Nat) : Int) := by rw [Int.fdiv_eq_ediv_of_nonneg _ (Int.natCast_nonneg _)]; rfl
  have e2 : (x : Int).fmod y = ((x % y : Nat) : Int) := by rw [Int.fmod_eq_emod_of_nonneg _ (Int.natCast_nonneg _)]; rfl
  rw [e1, e2] at N'
  exact h r t1 t2 h' tk' F' N' (D _ (.head _))
theorem useI2d {x y : Nat} {tx ty : Tok} {ps : Array Value} {ct : Addr} {oct : Obj} (hx : x < 2 ^ 48) (hy : 0 < y) (hy2 : y ≤ 48)
    (N : News h₀ L s.heap news) (p1 : Pick (30, tabObj ps) news n1) (hTS : TS 30 "_int2digits.<locals>.inner" 32 4 ps ct oct) (p2 : Pick (ct, oct) n1 rest)
    (B : Below A₀ base outer h₀) (F : Fr h₀ L s.heap m) (X : (Mine.hd.heap_39 w.params).In h₀) (T : Top p loose mean mg mb h₀) (hf : env.frame = some L) (hke : env.scope.kind = .function)
    (hd : ∀ q ∈ rest, ∀ r ∈ [(30, tabObj ps), (ct, oct)], q.1 ≠ r.1) (hdp : dp + 60 < recursionLimit) (hun : un + 480 < cLine)
    (h : ∀ r vs e ps' c' oc' h' tk', Fr h₀ L h' m → News h₀ L h' ((r, listOf vs.toArray e) :: (30, tabObj ps') :: (c', oc') :: rest) → IntsAre vs (digs y (ndig x y) x) → TS 30 "_int2digits.<locals>.inner" 32 4 ps' c' oc' → r ≠ 30 → r ≠ c' → (∀ q ∈ rest, q.1 ≠ r) → (∀ q ∈ rest, q.1 ≠ c') → Q (.ref r) { s with heap := h', toks := tk' }) :
    wpAny (model PySem.Challenge.rw_pg0238_01.row.prog w) (Ar dp un gd (env :: outer)) (call (.ref 35) [.int x tx, .int y ty]) Q E s := by
  refine CC.useK (i2d_spec w x y tx ty hx hy hy2 ps ct oct hTS) (.cons p1 (.cons p2 .nil)) B F X N T hf hke hd hdp hun fun v n' h' tk' P F' N' D => ?_
  obtain ⟨r, vs, e, ps', c', oc', rfl, rfl, i1, t1, e1, e2⟩ := P
  exact h r vs e ps' c' oc' h' tk' F' N' i1 t1 e1 e2 (D _ (.head _)) (D (c', oc') (.tail _ (.tail _ (.head _))))
theorem useD2i {l : Addr} {vs : List Value} {e : Nat} {ds : List Int} {y : Nat} {ty : Tok} {ps : Array Value} {ct : Addr} {oct : Obj} (N : News h₀ L s.heap news) (p0 : Pick (l, listOf vs.toArray e) news n1) (hi : IntsAre vs ds) (hy : 0 < y) (hsz : y * ds.length ≤ 62) (hds : ∀ d ∈ ds, 0 ≤ d ∧ d < 2 ^ y)
    (p1 : Pick (37, tabObj ps) n1 n2) (hTS : TS 37 "_digits2int.<locals>.inner" 47 4 ps ct oct) (p2 : Pick (ct, oct) n2 rest) (hl1 : l ≠ 37) (hl2 : l ≠ ct)
    (B : Below A₀ base outer h₀) (F : Fr h₀ L s.heap m) (X : (Mine.hd.heap_39 w.params).In h₀) (T : Top p loose mean mg mb h₀) (hf : env.frame = some L) (hke : env.scope.kind = .function)
    (hd : ∀ q ∈ rest, ∀ r ∈ [(l, listOf vs.toArray e), (37, tabObj ps), (ct, oct)], q.1 ≠ r.1) (hdp : dp + 80 < recursionLimit) (hun : un + 640 < cLine)
    (h : ∀ t ps' c' oc' h' tk', Fr h₀ L h' m → News h₀ L h' ((l, listOf vs.toArray e) :: (37, tabObj ps') :: (c', oc') :: rest) → TS 37 "_digits2int.<locals>.inner" 47 4 ps' c' oc' → l ≠ c' → (∀ q ∈ rest, q.1 ≠ c') → Q (.int (undigs y ds) t) { s with heap := h', toks := tk' }) :
    wpAny (model PySem.Challenge.rw_pg0238_01.row.prog w) (Ar dp un gd (env :: outer)) (call (.ref 42) [.ref l, .int y ty]) Q E s := by
  refine CC.useK (d2i_spec w l vs e ds y ty hi hy hsz hds ps ct oct hTS hl1 hl2) (.cons p0 (.cons p1 (.cons p2 .nil))) B F X N T hf hke hd hdp hun fun v n' h' tk' P F' N' D => ?_
  obtain ⟨t, ps', c', oc', rfl, rfl, t1, e1⟩ := P
  exact h t ps' c' oc' h' tk' F' N' t1 e1 (D (c', oc') (.tail _ (.tail _ (.head _))))
end
end Mine
namespace Mine
noncomputable def LEnd (h₀ : Heap) (L : Addr) {σ : Type} (Led : σ → List (Addr × Obj)) (ps : σ → List (Str × Value)) (P : σ → Prop) (m : Str → Option Value) (nx : List (Addr × Obj)) : Prop := ∃ c : σ, nx = Led c ∧ (∀ p ∈ ps c, m p.1 = some p.2) ∧ P c
theorem kstB_self {u : Str → Option Value} {l : List (Str × Value)} (h : ∀ p ∈ l, u p.1 = some p.2) : kstB u l = u := by
  funext z
  exact kstB_eq h fun _ => rfl
section
variable {prog : Program} {w : World} {A : Around} {E : Value → Shared → Prop} {s : Shared} {env : Env} {h₀ : Heap} {x : Str} {body : List Stmt} {Q : Flow → Shared → Prop}
theorem loopS {σ : Type} {I : Addr} {fp wr : List Addr} {n : Nat} {Pv : Nat → Value → Prop} {St : Nat → Heap → Prop} {m₀ : Str → Option Value} (Led : σ → List (Addr × Obj)) (ps : σ → List (Str × Value)) (P : Nat → σ → Prop) (c₀ : σ)
    (W : Walks prog w A I fp wr n Pv St) (hLf : env.locals ∉ fp) (hwr : ∀ b ∈ wr, h₀.get? b = none) (hfp : ∀ q ∈ Led c₀, q.1 ∉ fp) (hst : St 0 s.heap) (F : Fr h₀ env.locals s.heap m₀) (N : News h₀ env.locals s.heap (Led c₀)) (hk : ∀ p ∈ ps c₀, m₀ p.1 = some p.2) (hp : P 0 c₀)
    (turn : ∀ i v (c : σ) (u : Str → Option Value) h tk own, i < n → Pv i v → OwnOff own ((Led c₀).map (·.1)) → P i c → Fr h₀ env.locals h (fun y => if y = x then some v else kstB u (ps c) y) → News h₀ env.locals h (Led c ++ own) →
      wpAny (model prog w) A (execs body env) (InvPostN h₀ env.locals (LEnd h₀ env.locals Led ps (P (i + 1))) own ((Led c₀).map (·.1)) { s with heap := h, toks := tk } Q) E { s with heap := h, toks := tk })
    (done : ∀ (c : σ) (u : Str → Option Value) h tk, P n c → Fr h₀ env.locals h (kstB u (ps c)) → News h₀ env.locals h (Led c) → Q .next { s with heap := h, toks := tk }) :
    LoopAtV prog w A h₀ env x body Q E (.ref I) s := by
  refine loop_invN (fun i m nx => LEnd h₀ env.locals Led ps (P i) m nx) W hLf hwr (fun p hp' hw => hfp p hp' (W.sub _ hw)) hfp hst F N ⟨c₀, rfl, hk, hp⟩ ?_ ?_
  · rintro i v m₁ news₁ h tk own hi hv _ hoff ⟨c, rfl, h1, h2⟩ F₁ N₁
    exact turn i v c m₁ h tk own hi hv hoff h2 (by rw [show (fun y => if y = x then some v else kstB m₁ (ps c) y) = fun y => if y = x then some v else m₁ y from by rw [kstB_self h1]]; exact F₁) N₁
  · rintro m₁ news₁ h tk ⟨c, rfl, h1, h2⟩ F₁ N₁
    exact done c m₁ h tk h2 (by rw [kstB_self h1]; exact F₁) N₁
theorem turnEnd {σ : Type} {L : Addr} {Led : σ → List (Addr × Obj)} {ps : σ → List (Str × Value)} {P : σ → Prop} {own news' : List (Addr × Obj)} {adr : List Addr} {s₁ : Shared} {h' : Heap} {tk : Nat} {m' : Str → Option Value} (c : σ)
    (F : Fr h₀ L h' m') (N : News h₀ L h' news') (hn : ∀ p ∈ Led c, p ∈ news') (ho : ∀ p ∈ own, p ∈ news') (ha : (Led c).map (·.1) = adr) (hk : ∀ p ∈ ps c, m' p.1 = some p.2) (hp : P c) :
    InvPostN h₀ L (LEnd h₀ L Led ps P) own adr s₁ Q .next { s₁ with heap := h', toks := tk } := InvEndN.intro F N ⟨c, rfl, hk, hp⟩ ha hn ho
theorem loopRev {σ : Type} {I ax : Addr} {vs : List Value} {e : Nat} {news news1 : List (Addr × Obj)} {m₀ : Str → Option Value} (Led : σ → List (Addr × Obj)) (ps : σ → List (Str × Value)) (P : Nat → σ → Prop) (c₀ : σ)
    (hh : A.handled = none) (F : Fr h₀ env.locals s.heap m₀) (N : News h₀ env.locals s.heap news) (p1 : Pick (I, revObj ax ((vs.length : Int) - 1)) news news1) (hax : (ax, listOf vs.toArray e) ∈ news) (hne : ax ≠ I)
    (hL : ∀ q ∈ Led c₀, q ∈ news) (hI : ∀ q ∈ Led c₀, q.1 ≠ I) (hA : ∀ q ∈ Led c₀, q.1 ≠ ax) (hk : ∀ p ∈ ps c₀, m₀ p.1 = some p.2) (hp : P 0 c₀)
    (turn : ∀ i v (c : σ) (u : Str → Option Value) h tk own, i < vs.length → vs[vs.length - 1 - i]? = some v → OwnOff own ((Led c₀).map (·.1)) → P i c → Fr h₀ env.locals h (fun y => if y = x then some v else kstB u (ps c) y) → News h₀ env.locals h (Led c ++ own) →
      wpAny (model prog w) A (execs body env) (InvPostN h₀ env.locals (LEnd h₀ env.locals Led ps (P (i + 1))) own ((Led c₀).map (·.1)) { s with heap := h, toks := tk } Q) E { s with heap := h, toks := tk })
    (done : ∀ (c : σ) (u : Str → Option Value) h tk, P vs.length c → Fr h₀ env.locals h (kstB u (ps c)) → News h₀ env.locals h (Led c) → Q .next { s with heap := h, toks := tk }) :
    wpAny (model prog w) A (pyIter (.ref I)) (fun it s₂ => LoopAtV prog w A h₀ env x body Q E it s₂) E s := by
  have hIx := N _ p1.sub.1
  have hax' := N _ hax
  have hl : s.heap.IsList ax vs.toArray := PySem.IsL.isList (n := e) hax'.1
  have hit : s.heap.IsRevIter I ax ((vs.length : Int) - 1) := ⟨_, hIx.1, rfl, rfl⟩
  refine wpAny_pyIter_revIter hit ?_
  have W := Walks.listRev (prog := prog) (w := w) hh I ax hne vs.toArray
  have hlen : vs.toArray.size = vs.length := by simp
  rw [hlen] at W
  refine loopS Led ps P c₀ W ?_ ?_ ?_ ⟨Nat.zero_le _, ?_, hl⟩ F (fun q hq => N q (hL q hq)) hk hp ?_ done
  · intro hmm
    rcases List.mem_cons.mp hmm with e | hmm
    · exact hIx.2.1 e.symm
    · exact hax'.2.1 (List.mem_singleton.mp hmm).symm
  · intro b hb
    rw [List.mem_singleton.mp hb]
    exact hIx.2.2
  · intro q hq hmm
    rcases List.mem_cons.mp hmm with e | hmm
    · exact hI q hq e
    · exact hA q hq (List.mem_singleton.mp hmm)
  · have e : (vs.length : Int) - 1 - ((0 : Nat) : Int) = (vs.length : Int) - 1 := by (first | lia | omega)
    rw [e]
    exact hit
  · intro i v c u h tk own hi hv
    exact turn i v c u h tk own hi (by simpa using hv)
end
end Mine
namespace Mine
theorem appendL {prog : Program} {w : World} {A : Around} {E : Value → Shared → Prop} {s : Shared} {h₀ : Heap} {L D : Addr} {m : Str → Option Value} {news news' : List (Addr × Obj)} {vs : List Value} {n : Nat} {x : Value} {Q : Value → Shared → Prop} (F : Fr h₀ L s.heap m) (N : News h₀ L s.heap news)
    (U : Upd D (listOf vs.toArray n) (listOf (vs ++ [x]).toArray (n + 1)) news news') (hsz : vs.length ≤ 1000000)
    (h : ∀ h', Fr h₀ L h' m → News h₀ L h' news' → Q .none { s with heap := h' }) : wpAny (model prog w) A (call (.builtin "list.append") [.ref D, x]) Q E s :=
  append_K F N (by rw [← List.push_toArray] at U; exact U) h (by rw [List.size_toArray]; unfold sizeLine; (first | lia | omega))
end Mine
namespace Mine
theorem ints_rev : ∀ {vs : List Value} {ns : List Int}, IntsAre vs ns → IntsAre vs.reverse ns.reverse
  | _, _, .nil => .nil
  | _, _, .cons n t h => by
    rw [List.reverse_cons, List.reverse_cons]
    exact (ints_rev h).append (.cons n t .nil)
theorem reverseL {prog : Program} {w : World} {A : Around} {E : Value → Shared → Prop} {s : Shared} {h₀ : Heap} {L D : Addr} {m : Str → Option Value} {news news' : List (Addr × Obj)} {vs : List Value} {ns : List Int} {n : Nat} {Q : Value → Shared → Prop} (F : Fr h₀ L s.heap m) (N : News h₀ L s.heap news)
    (U : Upd D (listOf vs.toArray n) (listOf vs.reverse.toArray n) news news') (hi : IntsAre vs ns) (hsz : vs.length ≤ 1000000)
    (h : ∀ h', Fr h₀ L h' m → News h₀ L h' news' → IntsAre vs.reverse ns.reverse → Q .none { s with heap := h' }) : wpAny (model prog w) A (call (.builtin "list.reverse") [.ref D]) Q E s :=
  kl_reverse F N (l := vs.reverse) (by simp) U (by simp; unfold sizeLine; (first | lia | omega)) fun h' F' N' => h h' F' N' (ints_rev hi)
end Mine
namespace Mine
theorem digs_get (y : Nat) : ∀ (k x j : Nat), j < k → (digs y k x)[j]? = some (((x / 2 ^ (y * j)) % 2 ^ y : Nat) : Int)
  | 0, _, _, h => absurd h (Nat.not_lt_zero _)
  | k + 1, x, 0, _ => by simp [digs]
  | k + 1, x, j + 1, h => by
    have := digs_get y k (x / 2 ^ y) j (Nat.lt_of_succ_lt_succ h)
    simp only [digs, List.getElem?_cons_succ, this]
    rw [Nat.div_div_eq_div_mul, ← Nat.pow_add, show y + y * j = y * (j + 1) from by rw [Nat.mul_add]; (first | lia | omega)]
theorem dm_top (a n j : Nat) : a / 2 ^ (n * j) = a / 2 ^ (n * (j + 1)) * 2 ^ n + (a / 2 ^ (n * j)) % 2 ^ n := by
  have := Nat.div_add_mod (a / 2 ^ (n * j)) (2 ^ n)
  rw [Nat.div_div_eq_div_mul, ← Nat.pow_add, show n * j + n = n * (j + 1) from by rw [Nat.mul_add]; (first | lia | omega)] at this
  rw [Nat.mul_comm] at this
  (first | lia | omega)
theorem dm_quot (t b m d : Nat) (hb : 0 < b) : (t * m + d) / b = t / b * m + (t % b * m + d) / b := by
  have h := Nat.div_add_mod t b
  have e : t * m + d = (t % b * m + d) + b * (t / b * m) := by
    have : t * m = b * (t / b * m) + t % b * m := by
      rw [← Nat.mul_assoc, ← Nat.add_mul, h]
    (first | lia | omega)
  rw [e, Nat.add_mul_div_left _ _ hb]
  (first | lia | omega)
theorem dm_rem (t b m d : Nat) : (t * m + d) % b = (t % b * m + d) % b := by
  have h := Nat.div_add_mod t b
  have e : t * m + d = (t % b * m + d) + b * (t / b * m) := by
    have : t * m = b * (t / b * m) + t % b * m := by
      rw [← Nat.mul_assoc, ← Nat.add_mul, h]
    (first | lia | omega)
  rw [e, Nat.add_mul_mod_self_left]
theorem dm_small (r b m d : Nat) (hb : 0 < b) (hr : r < b) (hd : d < m) : (r * m + d) / b < m := by
  rw [Nat.div_lt_iff_lt_mul hb]
  have h1 : (r + 1) * m ≤ b * m := Nat.mul_le_mul_right _ hr
  rw [Nat.add_mul, Nat.one_mul] at h1
  rw [Nat.mul_comm m]
  (first | lia | omega)
noncomputable def DmInv (a b n nd i r : Nat) (vsq : List Value) : Prop :=
  ∃ qs : List Int, IntsAre vsq qs ∧ qs.length = i ∧ (∀ q ∈ qs, 0 ≤ q ∧ q < 2 ^ n) ∧ undigs n qs.reverse = ((a / 2 ^ (n * (nd - i)) / b : Nat) : Int) ∧ r = a / 2 ^ (n * (nd - i)) % b
theorem DmInv.start {a b n nd : Nat} (h : a < 2 ^ (n * nd)) : DmInv a b n nd 0 0 [] := by
  refine ⟨[], .nil, rfl, by simp, ?_, ?_⟩
  · simp [undigs, Nat.div_eq_of_lt h]
  · simp [Nat.div_eq_of_lt h]
theorem DmInv.step {a b n nd i r q : Nat} {vsq : List Value} {t : Tok} (I : DmInv a b n nd i r vsq) (hb : 0 < b) (hi : i < nd)
    (hq : q = (r * 2 ^ n + (a / 2 ^ (n * (nd - 1 - i))) % 2 ^ n) / b) : DmInv a b n nd (i + 1) ((r * 2 ^ n + (a / 2 ^ (n * (nd - 1 - i))) % 2 ^ n) % b) (vsq ++ [.int q t]) := by
  obtain ⟨qs, h1, h2, h3, h4, h5⟩ := I
  have ej : nd - i = (nd - 1 - i) + 1 := by (first | lia | omega)
  have ej2 : nd - (i + 1) = nd - 1 - i := by (first | lia | omega)
  rw [ej] at h4 h5
  rw [← show n * (nd - 1 - i + 1) = n * (nd - 1 - i + 1) from rfl] at h4
  have htop := dm_top a n (nd - 1 - i)
  refine ⟨qs ++ [(q : Int)], h1.append (.cons _ _ .nil), by simp [h2], ?_, ?_, ?_⟩
  · intro z hz
    rcases List.mem_append.mp hz with hz | hz
    · exact h3 z hz
    · rw [List.mem_singleton.mp hz, hq]
      have := dm_small r b (2 ^ n) ((a / 2 ^ (n * (nd - 1 - i))) % 2 ^ n) hb (h5 ▸ Nat.mod_lt _ hb) (Nat.mod_lt _ (Nat.two_pow_pos _))
      refine ⟨Int.natCast_nonneg _, ?_⟩
      exact_mod_cast this
  · rw [List.reverse_append]
    show (q : Int) + 2 ^ n * undigs n qs.reverse = _
    rw [h4, ej2, hq, h5]
    have e := dm_quot (a / 2 ^ (n * (nd - 1 - i + 1))) b (2 ^ n) ((a / 2 ^ (n * (nd - 1 - i))) % 2 ^ n) hb
    rw [← htop] at e
    rw [e]
    simp only [Int.natCast_add, Int.natCast_mul, Int.natCast_pow]
    rw [Int.mul_comm]
    simp only [Int.add_comm]
    rfl
  · rw [ej2, h5, ← dm_rem, ← htop]
end Mine
namespace Mine
section
variable {prog : Program} {w : World} {A : Around} {E : Value → Shared → Prop} {s : Shared} {env : Env} {h₀ : Heap} {x : Str} {body : List Stmt} {Q : Flow → Shared → Prop}
theorem loopRevQ {I ax lq : Addr} {vs : List Value} {e : Nat} {news n1 n2 tl : List (Addr × Obj)} {m₀ : Str → Option Value} (nr nq : Str) (pcs : List (Str × Value)) (P : Nat → Nat → List Value → Prop) {t0 : Tok}
    (hh : A.handled = none) (F : Fr h₀ env.locals s.heap m₀) (N : News h₀ env.locals s.heap news) (p1 : Pick (I, revObj ax ((vs.length : Int) - 1)) news n1) (p2 : Pick (ax, listOf vs.toArray e) n1 n2) (hq : m₀ nq = some (.ref lq)) (p3 : Pick (lq, listOf #[] 0) n2 tl)
    (hr : m₀ nr = some (.int (0 : Nat) t0)) (hpcs : ∀ p ∈ pcs, m₀ p.1 = some p.2) (hne : ax ≠ I) (hI0 : lq ≠ I) (hA0 : lq ≠ ax) (hI : ∀ q ∈ tl, q.1 ≠ I) (hA : ∀ q ∈ tl, q.1 ≠ ax) (hp : P 0 0 [])
    (turn : ∀ i v r tr (vsq : List Value) eq (u : Str → Option Value) h tk own, i < vs.length → vs[vs.length - 1 - i]? = some v → OwnOff own (lq :: tl.map (·.1)) → P i r vsq → Fr h₀ env.locals h (fun y => if y = x then some v else kstB u ((nr, .int (r : Nat) tr) :: (nq, .ref lq) :: pcs) y) → News h₀ env.locals h (((lq, listOf vsq.toArray eq) :: tl) ++ own) →
      wpAny (model prog w) A (execs body env) (InvPostN h₀ env.locals (LEnd h₀ env.locals (fun c : Nat × Tok × List Value × Nat => (lq, listOf c.2.2.1.toArray c.2.2.2) :: tl) (fun c => (nr, .int (c.1 : Nat) c.2.1) :: (nq, .ref lq) :: pcs) (fun c => P (i + 1) c.1 c.2.2.1)) own (lq :: tl.map (·.1)) { s with heap := h, toks := tk } Q) E { s with heap := h, toks := tk })
    (done : ∀ r tr (vsq : List Value) eq (u : Str → Option Value) h tk, P vs.length r vsq → Fr h₀ env.locals h (kstB u ((nr, .int (r : Nat) tr) :: (nq, .ref lq) :: pcs)) → News h₀ env.locals h ((lq, listOf vsq.toArray eq) :: tl) → Q .next { s with heap := h, toks := tk }) :
    wpAny (model prog w) A (pyIter (.ref I)) (fun it s₂ => LoopAtV prog w A h₀ env x body Q E it s₂) E s :=
  loopRev (fun c : Nat × Tok × List Value × Nat => (lq, listOf c.2.2.1.toArray c.2.2.2) :: tl) (fun c => (nr, .int (c.1 : Nat) c.2.1) :: (nq, .ref lq) :: pcs) (fun i c => P i c.1 c.2.2.1) (0, t0, [], 0) hh F N p1 (p1.sub.2 _ p2.sub.1) hne
    (fun q hq => by
      rcases List.mem_cons.mp hq with rfl | hq
      · exact p1.sub.2 _ (p2.sub.2 _ p3.sub.1)
      · exact p1.sub.2 _ (p2.sub.2 _ (p3.sub.2 _ hq)))
    (fun q hq => by
      rcases List.mem_cons.mp hq with rfl | hq
      · exact hI0
      · exact hI q hq)
    (fun q hq => by
      rcases List.mem_cons.mp hq with rfl | hq
      · exact hA0
      · exact hA q hq)
    (fun p hp => by
      rcases List.mem_cons.mp hp with rfl | hp
      · exact hr
      · rcases List.mem_cons.mp hp with rfl | hp
        · exact hq
        · exact hpcs p hp) hp
    (fun i v c u h tk own hi hv ho hP F N => turn i v c.1 c.2.1 c.2.2.1 c.2.2.2 u h tk own hi hv ho hP F N)
    (fun c u h tk hP F N => done c.1 c.2.1 c.2.2.1 c.2.2.2 u h tk hP F N)
end
end Mine
namespace Mine
theorem turnEndN {h₀ : Heap} {σ : Type} {L : Addr} {Led : σ → List (Addr × Obj)} {ps : σ → List (Str × Value)} {P : σ → Prop} {own news' : List (Addr × Obj)} {adr : List Addr} {s₁ : Shared} {h' : Heap} {tk : Nat} {m' : Str → Option Value} (c : σ)
    (F : Fr h₀ L h' m') (N : News h₀ L h' news') (hk : ∀ p ∈ ps c, m' p.1 = some p.2) (hn : ∀ p ∈ Led c, p ∈ news') (ho : ∀ p ∈ own, p ∈ news') (ha : (Led c).map (·.1) = adr) (hp : P c) :
    InvEndN h₀ L (LEnd h₀ L Led ps P) own adr s₁ { s₁ with heap := h', toks := tk } := InvEndN.intro F N ⟨c, rfl, hk, hp⟩ ha hn ho
end Mine
theorem Mine.rows1_0 : True := by
  k_with_none
  (k_with "call builtin:list.append" => (k_here; (with_reducible show wpAny _ _ (call (Value.builtin _) [Value.ref _, _]) _ _ _); k_dflt (refine' Mine.appendL ?zz_k1 ?zz_k2 ?zz_k3 ?zz_k4 ?_; (case zz_k1 => k_asm); (case zz_k2 => k_asm); (case zz_k3 => k_upd); (case zz_k4 => first | (first | lia | omega) | (simp only [List.length_nil, List.length_cons]; (first | lia | omega))); k_whole); intro _ _ _; (try k_sweep)))
  (k_with "call builtin:list.reverse" => (k_here; (with_reducible show wpAny _ _ (call (Value.builtin _) _) _ _ _); (try dsimp only); k_dflt (refine' Mine.reverseL ?zz_k1 ?zz_k2 ?zz_k3 ?zz_k4 ?zz_k5 ?_; (case zz_k1 => k_asm); (case zz_k2 => k_asm); (case zz_k3 => k_upd); (case zz_k4 => with_reducible assumption); (case zz_k5 => (first | lia | omega)); k_whole); intro _ _ _ _; (try k_sweep)))
  (k_with "call builtin:max" => (k_here; (with_reducible show wpAny _ _ (call (Value.builtin _) [Value.int _ _, Value.int _ _, Value.int _ _]) _ _ _); (with_unfolding_all refine' Mine.max3 ?zz_k1 ?zz_k2 ?zz_k3 ?_; (case zz_k1 => rfl); (case zz_k2 => k_asm); (case zz_k3 => k_asm); k_whole); intro _ _ _ _ _))
  (k_with "call builtin:min" => (k_here; (with_reducible show wpAny _ _ (call (Value.builtin _) [Value.int _ _, Value.int _ _, Value.int _ _]) _ _ _); (with_unfolding_all refine' Mine.min3 ?zz_k1 ?zz_k2 ?zz_k3 ?_; (case zz_k1 => rfl); (case zz_k2 => k_asm); (case zz_k3 => k_asm); k_whole); intro _ _ _ _ _))
  (k_with "binaryOp Mult ref int" => (k_here; k_dflt (refine' Mine.mulOne ?zz_k1 ?zz_k2 ?zz_k3 ?zz_k4 ?zz_k5 ?_; (case zz_k1 => k_asm); (case zz_k2 => k_asm); (case zz_k3 => k_mem); (case zz_k4 => first | (first | lia | omega) | assumption | l_fact); (case zz_k5 => first | (first | lia | omega) | assumption | l_fact); k_whole); intro _ _ _ _ _ l1 _; (try k_lt l1); (try k_sweep)))
  (k_with "call builtin:divmod" => (k_here; (with_reducible show wpAny _ _ (call (Value.builtin _) [Value.int _ _, Value.int _ _]) _ _ _); refine divmod_N (by assumption) (by assumption) (by side_arith) ?_; intro _ _ _))
  (k_with "call builtin:len" => (k_here; (with_reducible show wpAny _ _ (call (Value.builtin _) [Value.ref _]) _ _ _); k_dflt (refine' Mine.lenN ?zz_k1 ?zz_k2 ?zz_k3 ?zz_k4 ?_; (case zz_k1 => k_asm); (case zz_k2 => k_mem); (case zz_k3 => with_reducible assumption); (case zz_k4 => ((try simp only [List.length_append, List.length_cons, List.length_nil, List.length_replicate, List.length_map]); (first | lia | omega))); k_whole); intro _ _))
  (k_with "binaryOp Sub int int" => (k_here; with_reducible refine' Mine.subIs ?zz_k1 ?_; (case zz_k1 => assumption)))
  (k_with "binaryOp Add int int" => (k_here; with_reducible refine' Mine.addIs ?zz_k1 ?_; (case zz_k1 => assumption)))
  (k_with "binaryOp Mult int int" => (k_here; with_reducible refine' Mine.mulIs ?zz_k1 ?zz_k2 ?_; (case zz_k1 => assumption); (case zz_k2 => exact Mine.bits64 (by (first | lia | omega)))))
  (k_with "binaryOp RShift int int" => (k_here; with_reducible refine' Mine.shrIs ?zz_k1 ?zz_k2 ?_; (case zz_k1 => assumption); (case zz_k2 => (first | lia | omega))))
  (k_with "binaryOp LShift int int" => (k_here; with_reducible refine' Mine.shlIs ?zz_k1 ?zz_k2 ?zz_k3 ?zz_k4 ?_; (case zz_k1 => assumption); (case zz_k2 => (first | lia | omega)); (case zz_k3 => (first | lia | omega)); (case zz_k4 => (first | lia | omega))))
  (k_with "binaryOp BitXor int int" => (k_here; with_reducible refine' Mine.xorIs ?zz_k1 ?_; (case zz_k1 => assumption)))
  (k_with "exec FunctionDef" => (k_here; kn_here; k_dflt (refine' nestDef_K ?zz_d0 ?zz_k0 ?zz_a0 ?_; (case zz_d0 => exact rfl); (case zz_k0 => exact rfl); (case zz_a0 => exact rfl)); (k_dflt (refine' Mine.nestBoth ?zz_F ?zz_N ?zz_T ?zz_C ?zz_cd ?zz_hs ?zz_ht ?zz_hP ?zz_hc ?zz_cl ?_; (case zz_F => k_asm); (case zz_N => k_asm); (case zz_T => k_asm); (case zz_cd => exact rfl); (case zz_C => kn_code); (case zz_hs => exact rfl); (case zz_ht => assumption); (case zz_hP => (dsimp only [List.dropLast]; k_all)); (case zz_hc => (dsimp only [List.dropLast]; k_all)); (case zz_cl => exact rfl); k_whole); intro _ _ _ _ _ _ _ _ _ _ N' _ _ l1 l2 _ _ _; (dsimp only [List.dropLast, List.append, HAppend.hAppend, Append.append] at N' l1 l2); (simp only [List.forall_mem_cons, List.forall_mem_nil, and_true] at l1 l2); (repeat (obtain ⟨_, l1⟩ := l1)); (repeat (obtain ⟨_, l2⟩ := l2)))))
  (k_with "call builtin:list.append" => (k_here; (with_reducible show wpAny _ _ (call (Value.builtin _) [Value.ref _, _]) _ _ _); k_dflt (refine' Mine.appendL ?zz_k1 ?zz_k2 ?zz_k3 ?zz_k4 ?_; (case zz_k1 => k_asm); (case zz_k2 => k_asm); (case zz_k3 => k_upd); (case zz_k4 => first | (first | lia | omega) | (simp only [List.length_nil, List.length_cons]; (first | lia | omega))); k_whole); intro _ _ _; (try k_sweep)))
  (k_with "call builtin:list.reverse" => (k_here; (with_reducible show wpAny _ _ (call (Value.builtin _) _) _ _ _); (try dsimp only); k_dflt (refine' Mine.reverseL ?zz_k1 ?zz_k2 ?zz_k3 ?zz_k4 ?zz_k5 ?_; (case zz_k1 => k_asm); (case zz_k2 => k_asm); (case zz_k3 => k_upd); (case zz_k4 => with_reducible assumption); (case zz_k5 => (first | lia | omega)); k_whole); intro _ _ _ _; (try k_sweep)))
  (k_with "unaryOp Invert int" => (k_here; with_reducible refine' Mine.invIs ?zz_k1 ?_; (case zz_k1 => assumption)))
  (k_with "call ref" => (k_here; (with_reducible show wpAny _ _ (call (Value.ref 21) [Value.int _ _, Value.int _ _, Value.int _ _]) _ _ _); k_dflt (refine' Mine.useDiv ?zz_h1 ?zz_h3 ?zz_h4 ?zz_cB ?zz_cF ?zz_cX ?zz_cN ?zz_cT ?zz_cf ?zz_ck ?zz_cdp ?zz_cun ?_; (case zz_cN => k_asm); (case zz_cB => k_asm); (case zz_cF => k_asm); (case zz_cX => k_asm); (case zz_cT => k_asm); (case zz_cf => exact rfl); (case zz_ck => exact rfl); (case zz_cdp => ktr_room); (case zz_cun => ktr_units); (case zz_h1 => first | assumption | (first | lia | omega)); (case zz_h3 => first | assumption | (first | lia | omega)); (case zz_h4 => first | assumption | (first | lia | omega)); k_whole); intro _ _ _ _ _ _ _ D'; (try simp only [List.cons_append, List.nil_append, List.forall_mem_cons, List.forall_mem_nil, and_true] at D'); (repeat (obtain ⟨_, D'⟩ := D'))))
  (k_with "call ref" => (k_here; (with_reducible show wpAny _ _ (call (Value.ref 35) [Value.int _ _, Value.int _ _]) _ _ _); k_dflt (refine' Mine.useI2d ?zz_h1 ?zz_h2 ?zz_h3 ?zz_cN ?zz_p1 ?zz_cTS ?zz_p2 ?zz_cB ?zz_cF ?zz_cX ?zz_cT ?zz_cf ?zz_ck ?zz_cd ?zz_cdp ?zz_cun ?_; (case zz_cN => k_asm); (case zz_p1 => repeat' (first | exact Mine.Pick.head | refine' Mine.Pick.tail ?_)); (case zz_cTS => assumption); (case zz_p2 => repeat' (first | exact Mine.Pick.head | refine' Mine.Pick.tail ?_)); (case zz_cB => k_asm); (case zz_cF => k_asm); (case zz_cX => k_asm); (case zz_cT => k_asm); (case zz_cf => exact rfl); (case zz_ck => exact rfl); (case zz_cdp => ktr_room); (case zz_cun => ktr_units); (case zz_h1 => first | assumption | (first | lia | omega)); (case zz_h2 => first | assumption | (first | lia | omega)); (case zz_h3 => first | assumption | (first | lia | omega)); (case zz_cd => repeat' (first | exact List.forall_mem_nil _ | (refine' List.forall_mem_cons.mpr ⟨?_, ?_⟩) | k_ne)); k_whole); intro _ _ _ _ _ _ _ _ _ _ _ _ _ _ D1' D2'; (try simp only [List.cons_append, List.nil_append, List.forall_mem_cons, List.forall_mem_nil, and_true] at D1' D2'); (repeat (obtain ⟨_, D1'⟩ := D1')); (repeat (obtain ⟨_, D2'⟩ := D2'))))
  (k_with "call ref" => (k_here; (with_reducible show wpAny _ _ (call (Value.ref 42) [Value.ref _, Value.int _ _]) _ _ _); k_dflt (refine' Mine.useD2i ?zz_cN ?zz_p0 ?zz_hi ?zz_h1 ?zz_h2 ?zz_h3 ?zz_p1 ?zz_cTS ?zz_p2 ?zz_n1 ?zz_n2 ?zz_cB ?zz_cF ?zz_cX ?zz_cT ?zz_cf ?zz_ck ?zz_cd ?zz_cdp ?zz_cun ?_; (case zz_cN => k_asm); (case zz_p0 => repeat' (first | exact Mine.Pick.head | refine' Mine.Pick.tail ?_)); (case zz_hi => with_reducible assumption); (case zz_p1 => repeat' (first | exact Mine.Pick.head | refine' Mine.Pick.tail ?_)); (case zz_cTS => assumption); (case zz_p2 => repeat' (first | exact Mine.Pick.head | refine' Mine.Pick.tail ?_)); (case zz_cB => k_asm); (case zz_cF => k_asm); (case zz_cX => k_asm); (case zz_cT => k_asm); (case zz_cf => exact rfl); (case zz_ck => exact rfl); (case zz_cdp => ktr_room); (case zz_cun => ktr_units); (case zz_h1 => first | assumption | (first | lia | omega)); (case zz_h2 => first | assumption | (first | lia | omega)); (case zz_h3 => assumption); (case zz_n1 => k_ne); (case zz_n2 => k_ne); (case zz_cd => repeat' (first | exact List.forall_mem_nil _ | (refine' List.forall_mem_cons.mpr ⟨?_, ?_⟩) | k_ne)); k_whole); intro _ _ _ _ _ _ _ _ _ _ D2'; (try simp only [List.cons_append, List.nil_append, List.forall_mem_cons, List.forall_mem_nil, and_true] at D2'); (repeat (obtain ⟨_, D2'⟩ := D2'))))
  (k_with "execs cons" => (k_here; k_fold))
  (k_with "eval ListComp" => (k_here; k_fold))
  trivial
namespace Mine
theorem ndig_mul (x y : Nat) (hx : x < 2 ^ 48) (hy : 0 < y) : y * ndig x y ≤ 48 + (y - 1) := by
  have hb := bits48 hx
  unfold ndig
  generalize Builtin.Int.intBits (x : Int) = b at *
  have e : ((b : Int) + y - 1).fdiv y = (((b + (y - 1)) / y : Nat) : Int) := by
    rw [show (b : Int) + y - 1 = ((b + (y - 1) : Nat) : Int) from by (first | lia | omega), Int.fdiv_eq_ediv_of_nonneg _ (Int.natCast_nonneg _)]
    rfl
  rw [e, Int.toNat_natCast]
  have := Nat.mul_div_le (b + (y - 1)) y
  (first | lia | omega)
theorem dmp_spec (w : World) (a b : Nat) (ta tb : Tok) (ha : a < 2 ^ 48) (hb : 0 < b) (hb2 : b < 2 ^ 14)
    (p44 p51 : Array Value) (c44 c51 : Addr) (o44 o51 : Obj) (h44 : TS 30 "_int2digits.<locals>.inner" 32 4 p44 c44 o44) (h51 : TS 37 "_digits2int.<locals>.inner" 47 4 p51 c51 o51) (d1 : c44 ≠ 37) (d2 : c51 ≠ 30) (d3 : c44 ≠ c51) :
    C3 w 49 84 680 [(30, tabObj p44), (c44, o44), (37, tabObj p51), (c51, o51)] [.int a ta, .int b tb]
      (fun v n' => ∃ r t1 t2 p44' p51' c44' c51' o44' o51', v = .ref r ∧ n' = [(r, tupOf [.int ((a / b : Nat) : Int) t1, .int ((a % b : Nat) : Int) t2]), (30, tabObj p44'), (c44', o44'), (37, tabObj p51'), (c51', o51')] ∧ TS 30 "_int2digits.<locals>.inner" 32 4 p44' c44' o44' ∧ TS 37 "_digits2int.<locals>.inner" 47 4 p51' c51' o51' ∧ c44' ≠ 37 ∧ c51' ≠ 30 ∧ c44' ≠ c51') := by
  have hn1 : 0 < Builtin.Int.intBits (b : Int) := by
    rcases Nat.eq_zero_or_pos (Builtin.Int.intBits (b : Int)) with h | h
    · have := intBits_le_iff.mp (Nat.le_of_eq h)
      simp at this; (first | lia | omega)
    · exact h
  have hn2 : Builtin.Int.intBits (b : Int) ≤ 14 := intBits_le_iff.mpr (by simpa using hb2)
  obtain ⟨hq0, hq1, hq2⟩ := ndig_spec a _ ha hn1
  have hnd : ndig a (Builtin.Int.intBits (b : Int)) ≤ 48 := by unfold ndig; (first | lia | omega)
  have hlen := digs_length (Builtin.Int.intBits (b : Int)) (ndig a (Builtin.Int.intBits (b : Int))) a
  have hget := digs_get (Builtin.Int.intBits (b : Int)) (ndig a (Builtin.Int.intBits (b : Int))) a
  intro p loose mean mg mb dp un gd fr base g s R B X T st sz N hd hu hret
  k_dflt (refine' enterP ?k1 ?kst ?ksz ?kN ?kX ?kT ?k6 ?k7 ?k8 ?k9 ?kB ?_ ?c2 ?c3 ?c4 ?c5; (case k1 => exact B); (case kst => exact st); (case ksz => exact sz); (case kN => exact N); (case kX => exact X); (case kT => exact T); (case k6 => k_is); (case k7 => k_is); (case k8 => ktr_room); (case k9 => exact BindsTo.of_eq rfl); (case c5 => decide); (case kB => exact locs rfl); (case c2 => exact rfl); (case c3 => exact rfl); (case c4 => exact rfl); k_whole; intro L' h' F' N' l0; (try dsimp only); (try k_lt l0); (try k_fold))
  k_steps
  k_dflt (refine' loopRevQ "r" "q_digits" [("n", .int (Builtin.Int.intBits (b : Int)) _), ("b", .int b tb)] (fun i r vsq => DmInv a b (Builtin.Int.intBits (b : Int)) (ndig a (Builtin.Int.intBits (b : Int))) i r vsq) ?hh ?F ?N ?p1 ?p2 ?hq ?p3 ?hr ?hpcs ?hne ?hI0 ?hA0 ?hI ?hA ?hp ?turn ?done; (case hh => exact rfl); (case F => k_asm); (case N => k_asm); (case p1 => repeat' (first | exact Mine.Pick.head | refine' Mine.Pick.tail ?_)); (case p2 => repeat' (first | exact Mine.Pick.head | refine' Mine.Pick.tail ?_)); (case hq => exact rfl); (case p3 => repeat' (first | exact Mine.Pick.head | refine' Mine.Pick.tail ?_)); (case hr => exact rfl); (case hpcs => repeat' (first | exact List.forall_mem_nil _ | (refine' List.forall_mem_cons.mpr ⟨?_, ?_⟩) | exact rfl)); (case hne => k_ne); (case hI0 => k_ne); (case hA0 => k_ne); (case hI => k_all); (case hA => k_all); (case hp => exact DmInv.start hq2))
  · intro i v r tr vsq eq u h tk own hi1 hv hoff hP F1 N1
    simp only [List.cons_append, List.nil_append] at N1
    rename IntsAre _ (digs _ _ _) => iX
    have hvl := iX.length
    rw [hlen] at hvl
    obtain ⟨td, hv2⟩ := iX.get _ _ (hget (ndig a (Builtin.Int.intBits (b : Int)) - 1 - i) (by (first | lia | omega)))
    rw [hvl, hv2] at hv
    obtain rfl := Option.some.inj hv
    have hP2 := hP
    obtain ⟨qs, q1, q2, q3, q4, q5⟩ := hP2
    have hvq := q1.length
    have hrb : r < b := by rw [q5]; exact Nat.mod_lt _ hb
    have hdlt : (a / 2 ^ (Builtin.Int.intBits (b : Int) * (ndig a (Builtin.Int.intBits (b : Int)) - 1 - i))) % 2 ^ Builtin.Int.intBits (b : Int) < 2 ^ Builtin.Int.intBits (b : Int) := Nat.mod_lt _ (Nat.two_pow_pos _)
    have hst := fun q t (e : q = _) => DmInv.step (q := q) (t := t) hP hb (by (first | lia | omega)) e
    generalize hD : (a / 2 ^ (Builtin.Int.intBits (b : Int) * (ndig a (Builtin.Int.intBits (b : Int)) - 1 - i))) % 2 ^ Builtin.Int.intBits (b : Int) = d at *
    have i1 : Is ((r : Int) * 2 ^ ((Builtin.Int.intBits (b : Int) : Nat) : Int).toNat) ((r * 2 ^ Builtin.Int.intBits (b : Int) : Nat) : Int) := by unfold Is; simp
    have i2 : Is (((r * 2 ^ Builtin.Int.intBits (b : Int) : Nat) : Int) + (d : Int)) ((r * 2 ^ Builtin.Int.intBits (b : Int) + d : Nat) : Int) := by unfold Is; simp
    have hz : (Builtin.Int.intBits ((r * 2 ^ Builtin.Int.intBits (b : Int) + d : Nat) : Int) : Int) - (Builtin.Int.intBits (b : Int) : Int) ≤ 4000 := by
      have h1 : Builtin.Int.intBits ((r * 2 ^ Builtin.Int.intBits (b : Int) + d : Nat) : Int) ≤ 64 := by
        refine intBits_le_iff.mpr ?_
        have h2 : 2 ^ Builtin.Int.intBits (b : Int) ≤ 2 ^ 14 := Nat.pow_le_pow_right (by decide) hn2
        have h3 : r * 2 ^ Builtin.Int.intBits (b : Int) ≤ 2 ^ 14 * 2 ^ 14 := Nat.mul_le_mul (by (first | lia | omega)) h2
        rw [Int.natAbs_natCast]
        (first | lia | omega)
      (first | lia | omega)
    k_steps
    k_dflt (refine' turnEndN (_, _, _, _) ?F ?N ?hk ?hn ?ho ?ha ?hp; (case F => k_asm); (case N => k_asm); (case hk => repeat' (first | exact List.forall_mem_nil _ | (refine' List.forall_mem_cons.mpr ⟨?_, ?_⟩) | exact rfl)); (case hn => repeat' (first | exact List.forall_mem_nil _ | (refine' List.forall_mem_cons.mpr ⟨?_, ?_⟩) | k_mem)); (case ho => (intro p hp; k_ownIn)); (case ha => exact rfl); (case hp => exact hst _ _ rfl))
  · intro r tr vsq eq u h tk hP F1 N1
    rename IntsAre _ (digs _ _ _) => iX
    have hvl := iX.length
    rw [hlen] at hvl
    rw [hvl] at hP
    obtain ⟨qs, q1, q2, q3, q4, q5⟩ := hP
    have hvq := q1.length
    rw [Nat.sub_self, Nat.mul_zero, Nat.pow_zero, Nat.div_one] at q4 q5
    subst q5
    have hsz : Builtin.Int.intBits (b : Int) * qs.reverse.length ≤ 62 := by
      rw [List.length_reverse, q2]
      have := ndig_mul a _ ha hn1
      (first | lia | omega)
    have hds : ∀ d ∈ qs.reverse, 0 ≤ d ∧ d < 2 ^ Builtin.Int.intBits (b : Int) := fun d hd => q3 d (List.mem_reverse.mp hd)
    clear hq0 hq1 hget iX
    k_steps
    rename News _ _ _ _ => NN
    rw [q4] at NN
    k_dflt (refine' hret _ _ _ _ ⟨_, _, _, _, _, _, _, _, _, rfl, rfl, ?t44, ?t51, ?e1, ?e2, ?e3⟩ (Fr.keep ?F) (outS NN (List.forall_mem_cons.mpr ⟨?m1, List.forall_mem_cons.mpr ⟨?m2, List.forall_mem_cons.mpr ⟨?m3, List.forall_mem_cons.mpr ⟨?m4, List.forall_mem_cons.mpr ⟨?m5, List.forall_mem_nil _⟩⟩⟩⟩⟩)); (case F => k_asm); (case m1 => k_mem); (case m2 => k_mem); (case m4 => k_mem); (case t44 => assumption); (case t51 => assumption); (case m3 => k_mem); (case m5 => k_mem); (case e1 => k_ne); (case e2 => k_ne); (case e3 => k_ne))
end Mine
namespace Mine
abbrev T44 := TS 30 "_int2digits.<locals>.inner" 32 4
abbrev T51 := TS 37 "_digits2int.<locals>.inner" 47 4
section
variable {w : World} {p : Program} {loose : List Str} {mean : ExcName → Option Value} {mg mb : Str → Option Value} {dp un : Nat} {gd : Option (List Code)} {env : Env} {outer : List Env} {A₀ : Around} {base h₀ : Heap} {L : Addr} {m : Str → Option Value} {s : Shared} {Q E : Value → Shared → Prop} {news n1 n2 n3 rest : List (Addr × Obj)}
  {p44 p51 : Array Value} {c44 c51 : Addr} {o44 o51 : Obj}
theorem useQ {f : Addr} {D U : Nat} {vs : List Value} {x y : Int} (C : C3 w f D U [(30, tabObj p44), (c44, o44), (37, tabObj p51), (c51, o51)] vs
      (fun v n' => ∃ r t1 t2 p44' p51' c44' c51' o44' o51', v = .ref r ∧ n' = [(r, tupOf [.int x t1, .int y t2]), (30, tabObj p44'), (c44', o44'), (37, tabObj p51'), (c51', o51')] ∧ T44 p44' c44' o44' ∧ T51 p51' c51' o51' ∧ c44' ≠ 37 ∧ c51' ≠ 30 ∧ c44' ≠ c51'))
    (N : News h₀ L s.heap news) (p1 : Pick (30, tabObj p44) news n1) (p2 : Pick (c44, o44) n1 n2) (p3 : Pick (37, tabObj p51) n2 n3) (p4 : Pick (c51, o51) n3 rest)
    (B : Below A₀ base outer h₀) (F : Fr h₀ L s.heap m) (X : (Mine.hd.heap_39 w.params).In h₀) (T : Top p loose mean mg mb h₀) (hf : env.frame = some L) (hke : env.scope.kind = .function)
    (hd : ∀ q ∈ rest, ∀ r ∈ [(30, tabObj p44), (c44, o44), (37, tabObj p51), (c51, o51)], q.1 ≠ r.1) (hdp : dp + D < recursionLimit) (hun : un + U < cLine)
    (h : ∀ r t1 t2 p44' p51' c44' c51' o44' o51' h' tk', Fr h₀ L h' m → News h₀ L h' ((r, tupOf [.int x t1, .int y t2]) :: (30, tabObj p44') :: (c44', o44') :: (37, tabObj p51') :: (c51', o51') :: rest) → T44 p44' c44' o44' → T51 p51' c51' o51' → c44' ≠ 37 → c51' ≠ 30 → c44' ≠ c51' → (∀ q ∈ rest, q.1 ≠ r) → (∀ q ∈ rest, q.1 ≠ c44') → (∀ q ∈ rest, q.1 ≠ c51') → Q (.ref r) { s with heap := h', toks := tk' }) :
    wpAny (model PySem.Challenge.rw_pg0238_01.row.prog w) (Ar dp un gd (env :: outer)) (call (.ref f) vs) Q E s := by
  refine CC.useK C (.cons p1 (.cons p2 (.cons p3 (.cons p4 .nil)))) B F X N T hf hke hd hdp hun fun v n' h' tk' P F' N' D => ?_
  obtain ⟨r, t1, t2, p44', p51', c44', c51', o44', o51', rfl, rfl, e1, e2, e3, e4, e5⟩ := P
  exact h r t1 t2 p44' p51' c44' c51' o44' o51' h' tk' F' N' e1 e2 e3 e4 e5 (D _ (.head _)) (D (c44', o44') (.tail _ (.tail _ (.head _)))) (D (c51', o51') (.tail _ (.tail _ (.tail _ (.tail _ (.head _))))))
end
end Mine
namespace Mine
theorem invIs {prog : Program} {w : World} {A : Around} {E : Value → Shared → Prop} {s : Shared} {a v : Int} {t : Tok} {Q : Value → Shared → Prop} (e : Is (Builtin.bitNot a) v) (h : Q (.int v s.toks) { s with toks := s.toks + 1 }) : wpAny (model prog w) A (unaryOp .Invert (.int a t)) Q E s :=
  PyProof.Rows.invert_int (by rw [show Builtin.bitNot a = v from e]; exact h)
end Mine
theorem Mine.rows2_0 : True := by
  k_with_none
  (k_with "unaryOp Invert int" => (k_here; with_reducible refine' Mine.invIs ?zz_k1 ?_; (case zz_k1 => assumption)))
  (k_with "call builtin:max" => (k_here; (with_reducible show wpAny _ _ (call (Value.builtin _) [Value.int _ _, Value.int _ _, Value.int _ _]) _ _ _); (with_unfolding_all refine' Mine.max3 ?zz_k1 ?zz_k2 ?zz_k3 ?_; (case zz_k1 => rfl); (case zz_k2 => k_asm); (case zz_k3 => k_asm); k_whole); intro _ _ _ _ _))
  (k_with "call builtin:min" => (k_here; (with_reducible show wpAny _ _ (call (Value.builtin _) [Value.int _ _, Value.int _ _, Value.int _ _]) _ _ _); (with_unfolding_all refine' Mine.min3 ?zz_k1 ?zz_k2 ?zz_k3 ?_; (case zz_k1 => rfl); (case zz_k2 => k_asm); (case zz_k3 => k_asm); k_whole); intro _ _ _ _ _))
  (k_with "binaryOp Mult ref int" => (k_here; k_dflt (refine' Mine.mulOne ?zz_k1 ?zz_k2 ?zz_k3 ?zz_k4 ?zz_k5 ?_; (case zz_k1 => k_asm); (case zz_k2 => k_asm); (case zz_k3 => k_mem); (case zz_k4 => first | (first | lia | omega) | assumption | l_fact); (case zz_k5 => first | (first | lia | omega) | assumption | l_fact); k_whole); intro _ _ _ _ _ l1 _; (try k_lt l1); (try k_sweep)))
  (k_with "call builtin:divmod" => (k_here; (with_reducible show wpAny _ _ (call (Value.builtin _) [Value.int _ _, Value.int _ _]) _ _ _); refine divmod_N (by assumption) (by assumption) (by side_arith) ?_; intro _ _ _))
  (k_with "call builtin:len" => (k_here; (with_reducible show wpAny _ _ (call (Value.builtin _) [Value.ref _]) _ _ _); k_dflt (refine' Mine.lenN ?zz_k1 ?zz_k2 ?zz_k3 ?zz_k4 ?_; (case zz_k1 => k_asm); (case zz_k2 => k_mem); (case zz_k3 => with_reducible assumption); (case zz_k4 => ((try simp only [List.length_append, List.length_cons, List.length_nil, List.length_replicate, List.length_map]); (first | lia | omega))); k_whole); intro _ _))
  (k_with "binaryOp Sub int int" => (k_here; with_reducible refine' Mine.subIs ?zz_k1 ?_; (case zz_k1 => assumption)))
  (k_with "binaryOp Add int int" => (k_here; with_reducible refine' Mine.addIs ?zz_k1 ?_; (case zz_k1 => assumption)))
  (k_with "binaryOp Mult int int" => (k_here; with_reducible refine' Mine.mulIs ?zz_k1 ?zz_k2 ?_; (case zz_k1 => assumption); (case zz_k2 => exact Mine.bits64 (by (first | lia | omega)))))
  (k_with "binaryOp RShift int int" => (k_here; with_reducible refine' Mine.shrIs ?zz_k1 ?zz_k2 ?_; (case zz_k1 => assumption); (case zz_k2 => (first | lia | omega))))
  (k_with "binaryOp LShift int int" => (k_here; with_reducible refine' Mine.shlIs ?zz_k1 ?zz_k2 ?zz_k3 ?zz_k4 ?_; (case zz_k1 => assumption); (case zz_k2 => (first | lia | omega)); (case zz_k3 => (first | lia | omega)); (case zz_k4 => (first | lia | omega))))
  (k_with "binaryOp BitXor int int" => (k_here; with_reducible refine' Mine.xorIs ?zz_k1 ?_; (case zz_k1 => assumption)))
  (k_with "exec FunctionDef" => (k_here; kn_here; k_dflt (refine' nestDef_K ?zz_d0 ?zz_k0 ?zz_a0 ?_; (case zz_d0 => exact rfl); (case zz_k0 => exact rfl); (case zz_a0 => exact rfl)); (k_dflt (refine' Mine.nestBoth ?zz_F ?zz_N ?zz_T ?zz_C ?zz_cd ?zz_hs ?zz_ht ?zz_hP ?zz_hc ?zz_cl ?_; (case zz_F => k_asm); (case zz_N => k_asm); (case zz_T => k_asm); (case zz_cd => exact rfl); (case zz_C => kn_code); (case zz_hs => exact rfl); (case zz_ht => assumption); (case zz_hP => (dsimp only [List.dropLast]; k_all)); (case zz_hc => (dsimp only [List.dropLast]; k_all)); (case zz_cl => exact rfl); k_whole); intro _ _ _ _ _ _ _ _ _ _ N' _ _ l1 l2 _ _ _; (dsimp only [List.dropLast, List.append, HAppend.hAppend, Append.append] at N' l1 l2); (simp only [List.forall_mem_cons, List.forall_mem_nil, and_true] at l1 l2); (repeat (obtain ⟨_, l1⟩ := l1)); (repeat (obtain ⟨_, l2⟩ := l2)))))
  (k_with "call builtin:list.append" => (k_here; (with_reducible show wpAny _ _ (call (Value.builtin _) [Value.ref _, _]) _ _ _); k_dflt (refine' Mine.appendL ?zz_k1 ?zz_k2 ?zz_k3 ?zz_k4 ?_; (case zz_k1 => k_asm); (case zz_k2 => k_asm); (case zz_k3 => k_upd); (case zz_k4 => first | (first | lia | omega) | (simp only [List.length_nil, List.length_cons]; (first | lia | omega))); k_whole); intro _ _ _; (try k_sweep)))
  (k_with "call builtin:list.reverse" => (k_here; (with_reducible show wpAny _ _ (call (Value.builtin _) _) _ _ _); (try dsimp only); k_dflt (refine' Mine.reverseL ?zz_k1 ?zz_k2 ?zz_k3 ?zz_k4 ?zz_k5 ?_; (case zz_k1 => k_asm); (case zz_k2 => k_asm); (case zz_k3 => k_upd); (case zz_k4 => with_reducible assumption); (case zz_k5 => (first | lia | omega)); k_whole); intro _ _ _ _; (try k_sweep)))
  (k_with "unaryOp Invert int" => (k_here; with_reducible refine' Mine.invIs ?zz_k1 ?_; (case zz_k1 => assumption)))
  (k_with "call ref" => (k_here; (with_reducible show wpAny _ _ (call (Value.ref 49) [Value.int _ _, Value.int _ _]) _ _ _); k_dflt (refine' Mine.useQ (Mine.dmp_spec _ _ _ _ _ ?zz_h1 ?zz_h2 ?zz_h3 _ _ _ _ _ _ ?zz_t44 ?zz_t51 ?zz_d1 ?zz_d2 ?zz_d3) ?zz_cN ?zz_p1 ?zz_p2 ?zz_p3 ?zz_p4 ?zz_cB ?zz_cF ?zz_cX ?zz_cT ?zz_cf ?zz_ck ?zz_cd ?zz_cdp ?zz_cun ?_; (case zz_cN => k_asm); (case zz_p1 => repeat' (first | exact Mine.Pick.head | refine' Mine.Pick.tail ?_)); (case zz_t44 => assumption); (case zz_p2 => repeat' (first | exact Mine.Pick.head | refine' Mine.Pick.tail ?_)); (case zz_p3 => repeat' (first | exact Mine.Pick.head | refine' Mine.Pick.tail ?_)); (case zz_t51 => assumption); (case zz_p4 => repeat' (first | exact Mine.Pick.head | refine' Mine.Pick.tail ?_)); (case zz_cB => k_asm); (case zz_cF => k_asm); (case zz_cX => k_asm); (case zz_cT => k_asm); (case zz_cf => exact rfl); (case zz_ck => exact rfl); (case zz_cdp => ktr_room); (case zz_cun => ktr_units); (case zz_h1 => first | assumption | (first | lia | omega)); (case zz_h2 => first | assumption | (first | lia | omega)); (case zz_h3 => first | assumption | (first | lia | omega)); (case zz_d1 => k_ne); (case zz_d2 => k_ne); (case zz_d3 => k_ne); (case zz_cd => repeat' (first | exact List.forall_mem_nil _ | (refine' List.forall_mem_cons.mpr ⟨?_, ?_⟩) | k_ne)); k_whole); intro _ _ _ _ _ _ _ _ _ _ _ _ _ _ _ _ _ _ D1' D2' D3'; (try simp only [List.cons_append, List.nil_append, List.forall_mem_cons, List.forall_mem_nil, and_true] at D1' D2' D3'); (repeat (obtain ⟨_, D1'⟩ := D1')); (repeat (obtain ⟨_, D2'⟩ := D2')); (repeat (obtain ⟨_, D3'⟩ := D3'))))
  (k_with "execs cons" => (k_here; k_fold))
  (k_with "eval ListComp" => (k_here; k_fold))
  trivial
namespace Mine
noncomputable abbrev IdmPost (x y : Int) (v : Value) (n' : List (Addr × Obj)) : Prop := ∃ r t1 t2 p44' p51' c44' c51' o44' o51', v = .ref r ∧ n' = [(r, tupOf [.int x t1, .int y t2]), (30, tabObj p44'), (c44', o44'), (37, tabObj p51'), (c51', o51')] ∧ T44 p44' c44' o44' ∧ T51 p51' c51' o51' ∧ c44' ≠ 37 ∧ c51' ≠ 30 ∧ c44' ≠ c51'
theorem idm_pos (w : World) (a b : Nat) (ta tb : Tok) (ha : a < 2 ^ 48) (hb : 0 < b) (hb2 : b < 2 ^ 14)
    (p44 p51 : Array Value) (c44 c51 : Addr) (o44 o51 : Obj) (h44 : T44 p44 c44 o44) (h51 : T51 p51 c51 o51) (d1 : c44 ≠ 37) (d2 : c51 ≠ 30) (d3 : c44 ≠ c51) :
    C3 w 56 86 700 [(30, tabObj p44), (c44, o44), (37, tabObj p51), (c51, o51)] [.int a ta, .int b tb] (IdmPost ((a / b : Nat) : Int) ((a % b : Nat) : Int)) := by
  intro p loose mean mg mb dp un gd fr base g s R B X T st sz N hd hu hret
  k_dflt (refine' enterP ?k1 ?kst ?ksz ?kN ?kX ?kT ?k6 ?k7 ?k8 ?k9 ?kB ?_ ?c2 ?c3 ?c4 ?c5; (case k1 => exact B); (case kst => exact st); (case ksz => exact sz); (case kN => exact N); (case kX => exact X); (case kT => exact T); (case k6 => k_is); (case k7 => k_is); (case k8 => ktr_room); (case k9 => exact BindsTo.of_eq rfl); (case c5 => decide); (case kB => exact locs rfl); (case c2 => exact rfl); (case c3 => exact rfl); (case c4 => exact rfl); k_whole; intro L' h' F' N' l0; (try dsimp only); (try k_lt l0); (try k_fold))
  k_steps
  · exfalso; (first | lia | omega)
  · exact hret _ _ _ _ ⟨_, _, _, _, _, _, _, _, _, rfl, rfl, by assumption, by assumption, by assumption, by assumption, by assumption⟩ (Fr.keep (by k_asm)) (out (by k_asm))
end Mine
theorem Mine.rows2_1 : True := by
  (k_with "call ref" => (k_here; (with_reducible show wpAny _ _ (call (Value.ref 56) [Value.int _ _, Value.int _ _]) _ _ _); k_dflt (refine' Mine.useQ (Mine.idm_pos _ _ _ _ _ ?zz_h1 ?zz_h2 ?zz_h3 _ _ _ _ _ _ ?zz_t44 ?zz_t51 ?zz_d1 ?zz_d2 ?zz_d3) ?zz_cN ?zz_p1 ?zz_p2 ?zz_p3 ?zz_p4 ?zz_cB ?zz_cF ?zz_cX ?zz_cT ?zz_cf ?zz_ck ?zz_cd ?zz_cdp ?zz_cun ?_; (case zz_cN => k_asm); (case zz_p1 => repeat' (first | exact Mine.Pick.head | refine' Mine.Pick.tail ?_)); (case zz_t44 => assumption); (case zz_p2 => repeat' (first | exact Mine.Pick.head | refine' Mine.Pick.tail ?_)); (case zz_p3 => repeat' (first | exact Mine.Pick.head | refine' Mine.Pick.tail ?_)); (case zz_t51 => assumption); (case zz_p4 => repeat' (first | exact Mine.Pick.head | refine' Mine.Pick.tail ?_)); (case zz_cB => k_asm); (case zz_cF => k_asm); (case zz_cX => k_asm); (case zz_cT => k_asm); (case zz_cf => exact rfl); (case zz_ck => exact rfl); (case zz_cdp => ktr_room); (case zz_cun => ktr_units); (case zz_h1 => first | assumption | (first | lia | omega)); (case zz_h2 => first | assumption | (first | lia | omega)); (case zz_h3 => first | assumption | (first | lia | omega)); (case zz_d1 => k_ne); (case zz_d2 => k_ne); (case zz_d3 => k_ne); (case zz_cd => repeat' (first | exact List.forall_mem_nil _ | (refine' List.forall_mem_cons.mpr ⟨?_, ?_⟩) | k_ne)); k_whole); intro _ _ _ _ _ _ _ _ _ _ _ _ _ _ _ _ _ _ D1' D2' D3'; (try simp only [List.cons_append, List.nil_append, List.forall_mem_cons, List.forall_mem_nil, and_true] at D1' D2' D3'); (repeat (obtain ⟨_, D1'⟩ := D1')); (repeat (obtain ⟨_, D2'⟩ := D2')); (repeat (obtain ⟨_, D3'⟩ := D3'))))
  trivial
namespace Mine
theorem idm_neg (w : World) (a b : Nat) (ta tb : Tok) (ha : a < 2 ^ 48) (hb : 0 < b) (hb2 : b < 2 ^ 14)
    (p44 p51 : Array Value) (c44 c51 : Addr) (o44 o51 : Obj) (h44 : T44 p44 c44 o44) (h51 : T51 p51 c51 o51) (d1 : c44 ≠ 37) (d2 : c51 ≠ 30) (d3 : c44 ≠ c51) :
    C3 w 56 88 720 [(30, tabObj p44), (c44, o44), (37, tabObj p51), (c51, o51)] [.int (-((a : Int) + 1)) ta, .int b tb] (IdmPost (-((a / b : Nat) : Int) - 1) ((b : Int) + (-((a % b : Nat) : Int) - 1))) := by
  have i1 : Is (Builtin.bitNot (-((a : Int) + 1))) (a : Int) := by unfold Is Builtin.bitNot; (first | lia | omega)
  have i2 : Is (Builtin.bitNot ((a / b : Nat) : Int)) (-((a / b : Nat) : Int) - 1) := rfl
  have i3 : Is (Builtin.bitNot ((a % b : Nat) : Int)) (-((a % b : Nat) : Int) - 1) := rfl
  intro p loose mean mg mb dp un gd fr base g s R B X T st sz N hd hu hret
  k_dflt (refine' enterP ?k1 ?kst ?ksz ?kN ?kX ?kT ?k6 ?k7 ?k8 ?k9 ?kB ?_ ?c2 ?c3 ?c4 ?c5; (case k1 => exact B); (case kst => exact st); (case ksz => exact sz); (case kN => exact N); (case kX => exact X); (case kT => exact T); (case k6 => k_is); (case k7 => k_is); (case k8 => ktr_room); (case k9 => exact BindsTo.of_eq rfl); (case c5 => decide); (case kB => exact locs rfl); (case c2 => exact rfl); (case c3 => exact rfl); (case c4 => exact rfl); k_whole; intro L' h' F' N' l0; (try dsimp only); (try k_lt l0); (try k_fold))
  k_steps
  · exfalso; (first | lia | omega)
  k_dflt (refine' hret _ _ _ _ ⟨_, _, _, _, _, _, _, _, _, rfl, rfl, ?t44, ?t51, ?e1, ?e2, ?e3⟩ (Fr.keep ?F) (outS ?N (List.forall_mem_cons.mpr ⟨?m1, List.forall_mem_cons.mpr ⟨?m2, List.forall_mem_cons.mpr ⟨?m3, List.forall_mem_cons.mpr ⟨?m4, List.forall_mem_cons.mpr ⟨?m5, List.forall_mem_nil _⟩⟩⟩⟩⟩)); (case F => k_asm); (case N => k_asm); (case m1 => k_mem); (case m2 => k_mem); (case m4 => k_mem); (case t44 => assumption); (case t51 => assumption); (case m3 => k_mem); (case m5 => k_mem); (case e1 => k_ne); (case e2 => k_ne); (case e3 => k_ne))

end Mine
namespace Mine
noncomputable def Halt (P : Prop) : Prop := P
theorem halt {P : Prop} (h : Halt P) : P := h
theorem goOn {P : Prop} (h : P) : Halt P := h
end Mine
namespace Mine
section
variable {prog : Program} {w : World} {A : Around} {E : Value → Shared → Prop} {Q : Flow → Shared → Prop} {s : Shared} {env : Env} {h₀ : Heap} {L : Addr}
noncomputable def WEnd {σ : Type} (h₀ : Heap) (L : Addr) (s : Shared) (Led : σ → List (Addr × Obj)) (ps : σ → List (Str × Value)) (P : σ → Prop) (μ : σ → Nat) (c : σ) (s₂ : Shared) : Prop :=
  ∃ (c' : σ) (h' : Heap) (tk : Nat) (m' : Str → Option Value) (news' : List (Addr × Obj)), s₂ = { s with heap := h', toks := tk } ∧ Fr h₀ L h' m' ∧ News h₀ L h' news' ∧ (∀ p ∈ Led c', p ∈ news') ∧ (∀ p ∈ ps c', m' p.1 = some p.2) ∧ P c' ∧ μ c' < μ c
noncomputable def WPost {σ : Type} (h₀ : Heap) (L : Addr) (s : Shared) (Led : σ → List (Addr × Obj)) (ps : σ → List (Str × Value)) (P : σ → Prop) (μ : σ → Nat) (Q : Flow → Shared → Prop) (c : σ) (f : Flow) (s₂ : Shared) : Prop :=
  match f with
  | .ret v => Q (.ret v) s₂
  | .brk => Q .next s₂
  | _ => WEnd h₀ L s Led ps P μ c s₂
theorem wEnd {σ : Type} {h₀ : Heap} {L : Addr} {s : Shared} {Led : σ → List (Addr × Obj)} {ps : σ → List (Str × Value)} {P : σ → Prop} {μ : σ → Nat} {c : σ} {h' : Heap} {tk : Nat} {m' : Str → Option Value} {news' : List (Addr × Obj)} (c' : σ)
    (F : Fr h₀ L h' m') (N : News h₀ L h' news') (hk : ∀ p ∈ ps c', m' p.1 = some p.2) (hn : ∀ p ∈ Led c', p ∈ news') (hp : P c') (hm : μ c' < μ c) : WPost h₀ L s Led ps P μ Q c .next { s with heap := h', toks := tk } :=
  ⟨c', h', tk, m', news', rfl, F, N, hn, hk, hp, hm⟩
theorem whileS {σ : Type} {test : Expr} {body : List Stmt} {pos : Pos} {m₀ : Str → Option Value} (Led : σ → List (Addr × Obj)) (ps : σ → List (Str × Value)) (P : σ → Prop) (μ : σ → Nat) (c₀ : σ)
    (F : Fr h₀ L s.heap m₀) (N : News h₀ L s.heap (Led c₀)) (hk : ∀ p ∈ ps c₀, m₀ p.1 = some p.2) (hp : P c₀)
    (turn : ∀ (c : σ) (u : Str → Option Value) h tk, P c → Fr h₀ L h (kstB u (ps c)) → News h₀ L h (Led c) →
      wpAny (model prog w) A (isTrue test env (eval test env)) (fun b s₂ =>
        if b = true then wpAny (model prog w) A (execs body env) (WPost h₀ L s Led ps P μ Q c) E s₂ else Q .next s₂) E { s with heap := h, toks := tk })
    (hE : PassesOwn (model prog w) A env E := by passes_own) :
    wpAny (model prog w) A (exec (.While test body [] pos) env) Q E s := by
  refine While_inv2 (fun n m nx => ∃ c : σ, nx = Led c ∧ μ c = n ∧ (∀ p ∈ ps c, m p.1 = some p.2) ∧ P c) F N ⟨c₀, rfl, rfl, hk, hp⟩ ?_ hE
  rintro n m₁ nx h tk F₁ N₁ ⟨c, hnx, hsz, h1, hp'⟩
  rw [hnx] at N₁
  rw [← hsz]
  refine wpAny_mono (turn c m₁ h tk hp' (by rw [kstB_self h1]; exact F₁) N₁) (fun b s₂ p => ?_) fun _ _ x => x
  cases b with
  | false => simpa using p
  | true =>
    simp only [if_true] at p ⊢
    refine wpAny_mono p (fun f s₃ q => ?_) fun _ _ x => x
    cases f with
    | ret v => exact q
    | brk => exact q
    | next =>
      obtain ⟨c', h', tk', m', news', rfl, F', N', hn, hk9, hp9, hm9⟩ := q
      exact ⟨h', tk', m', Led c', μ c', rfl, F', fun p hp => N' p (hn p hp), hm9, c', rfl, rfl, hk9, hp9⟩
    | cont =>
      obtain ⟨c', h', tk', m', news', rfl, F', N', hn, hk9, hp9, hm9⟩ := q
      exact ⟨h', tk', m', Led c', μ c', rfl, F', fun p hp => N' p (hn p hp), hm9, c', rfl, rfl, hk9, hp9⟩
end
end Mine
namespace Mine
section
variable {prog : Program} {w : World} {A : Around} {E : Value → Shared → Prop} {Q : Flow → Shared → Prop} {s : Shared} {env : Env} {h₀ : Heap} {L : Addr}
noncomputable def WExit {σ : Type} (h₀ : Heap) (L : Addr) (s : Shared) (Led : σ → List (Addr × Obj)) (ps : σ → List (Str × Value)) (Pe : σ → Prop) (c : σ) (s₂ : Shared) : Prop :=
  ∃ (h' : Heap) (tk : Nat) (m' : Str → Option Value) (news' : List (Addr × Obj)), s₂ = { s with heap := h', toks := tk } ∧ Fr h₀ L h' m' ∧ News h₀ L h' news' ∧ (∀ p ∈ Led c, p ∈ news') ∧ (∀ p ∈ ps c, m' p.1 = some p.2) ∧ Pe c
theorem wExit {σ : Type} {Led : σ → List (Addr × Obj)} {ps : σ → List (Str × Value)} {Pe : σ → Prop} {c : σ} {h' : Heap} {tk : Nat} {m' : Str → Option Value} {news' : List (Addr × Obj)}
    (F : Fr h₀ L h' m') (N : News h₀ L h' news') (hk : ∀ p ∈ ps c, m' p.1 = some p.2) (hn : ∀ p ∈ Led c, p ∈ news') (hp : Pe c) : WExit h₀ L s Led ps Pe c { s with heap := h', toks := tk } :=
  ⟨h', tk, m', news', rfl, F, N, hn, hk, hp⟩
theorem whileX {σ : Type} {test : Expr} {body : List Stmt} {pos : Pos} {m₀ : Str → Option Value} (Led : σ → List (Addr × Obj)) (ps : σ → List (Str × Value)) (P Pe : σ → Prop) (μ : σ → Nat) (c₀ : σ)
    (F : Fr h₀ L s.heap m₀) (N : News h₀ L s.heap (Led c₀)) (hk : ∀ p ∈ ps c₀, m₀ p.1 = some p.2) (hp : P c₀)
    (turn : ∀ (c : σ) (u : Str → Option Value) h tk, P c → Fr h₀ L h (kstB u (ps c)) → News h₀ L h (Led c) →
      wpAny (model prog w) A (isTrue test env (eval test env)) (fun b s₂ =>
        if b = true then wpAny (model prog w) A (execs body env) (WPost h₀ L s Led ps P μ (fun _ _ => False) c) E s₂ else WExit h₀ L s Led ps Pe c s₂) E { s with heap := h, toks := tk })
    (done : ∀ (c : σ) (u : Str → Option Value) h tk, Pe c → Fr h₀ L h (kstB u (ps c)) → News h₀ L h (Led c) → Q .next { s with heap := h, toks := tk })
    (hE : PassesOwn (model prog w) A env E := by passes_own) :
    wpAny (model prog w) A (exec (.While test body [] pos) env) Q E s := by
  refine whileS Led ps P μ c₀ F N hk hp (fun c u h tk hP F1 N1 => ?_) hE
  refine wpAny_mono (turn c u h tk hP F1 N1) (fun b s₂ p => ?_) fun _ _ x => x
  cases b with
  | true =>
    simp only [if_true] at p ⊢
    refine wpAny_mono p (fun f s₃ q => ?_) fun _ _ x => x
    cases f with
    | ret v => exact q.elim
    | brk => exact q.elim
    | next => exact q
    | cont => exact q
  | false =>
    simp only [Bool.false_eq_true, if_false] at p ⊢
    obtain ⟨h', tk', m', news', rfl, F', N', hn, hk', hp'⟩ := p
    exact done c m' h' tk' hp' (by rw [kstB_self hk']; exact F') fun q hq => N' q (hn q hq)
end
end Mine
namespace Mine
theorem whileK {prog : Program} {w : World} {A : Around} {E : Value → Shared → Prop} {Q : Flow → Shared → Prop} {s : Shared} {env : Env} {h₀ : Heap} {L : Addr} {σ : Type} {test : Expr} {body : List Stmt} {pos : Pos} {m₀ : Str → Option Value} (news : List (Addr × Obj)) (nx : Str) (val : σ → Value) (pcs : List (Str × Value)) (P Pe : σ → Prop) (μ : σ → Nat) (c₀ : σ)
    (F : Fr h₀ L s.heap m₀) (N : News h₀ L s.heap news) (hx : m₀ nx = some (val c₀)) (hk : ∀ p ∈ pcs, m₀ p.1 = some p.2) (hp : P c₀)
    (turn : ∀ (c : σ) (u : Str → Option Value) h tk, P c → Fr h₀ L h (kstB u ((nx, val c) :: pcs)) → News h₀ L h news →
      wpAny (model prog w) A (isTrue test env (eval test env)) (fun b s₂ =>
        if b = true then wpAny (model prog w) A (execs body env) (WPost h₀ L s (fun _ => news) (fun c => (nx, val c) :: pcs) P μ (fun _ _ => False) c) E s₂ else WExit h₀ L s (fun _ => news) (fun c => (nx, val c) :: pcs) Pe c s₂) E { s with heap := h, toks := tk })
    (done : ∀ (c : σ) (u : Str → Option Value) h tk, Pe c → Fr h₀ L h (kstB u ((nx, val c) :: pcs)) → News h₀ L h news → Q .next { s with heap := h, toks := tk })
    (hE : PassesOwn (model prog w) A env E := by passes_own) :
    wpAny (model prog w) A (exec (.While test body [] pos) env) Q E s :=
  whileX (fun _ => news) (fun c => (nx, val c) :: pcs) P Pe μ c₀ F N (fun p hp => by
    rcases List.mem_cons.mp hp with rfl | hp
    · exact hx
    · exact hk p hp) hp turn done hE
end Mine
namespace Mine
noncomputable def S (l : List Nat) : Str := ⟨l.toArray⟩
theorem S_len (l : List Nat) : (S l).length = l.length := by show l.toArray.size = _; simp
theorem S_cps (l : List Nat) : (S l).cps.toList = l := rfl
theorem S_inj {a b : List Nat} : S a = S b ↔ a = b := by
  constructor
  · intro h; have := congrArg (fun z : Str => z.cps.toList) h; simpa [S] using this
  · rintro rfl; rfl
theorem slice_from (l : List Nat) (k : Nat) (h : k ≤ l.length) : Txt.slice (S l) (some (k : Int)) none = S (l.drop k) := by
  rw [slice_from_eq (b := ((l.length : Nat) : Int)) (Int.natCast_nonneg _) (by rw [S_len]; (first | lia | omega)) (by rw [S_len])]
  rw [S_cps, Int.toNat_natCast]
  unfold S
  congr 2
  rw [List.take_of_length_le (by rw [List.length_drop]; (first | lia | omega))]
theorem slice_all (l : List Nat) : Txt.slice (S l) none none = S l := by
  unfold Txt.slice
  rw [if_pos]
  have e : (Builtin.Str.strSliceIndices none none 1 (S l).length) = List.range (S l).length := by
    unfold Builtin.Str.strSliceIndices sliceRange
    simp only [show (1 : Int) > 0 by decide, if_true, Int.ediv_one]
    by_cases h : (0 : Int) < ((S l).length : Int)
    · rw [if_pos h]
      have : (((S l).length : Int) - 0 + 1 - 1).toNat = (S l).length := by (first | lia | omega)
      rw [this]
      conv => rhs; rw [← List.map_id (List.range (S l).length)]
      apply List.map_congr_left
      intro a _
      simp
    · rw [if_neg h]
      have : (S l).length = 0 := by (first | lia | omega)
      rw [this]; rfl
  rw [e]
  simp
theorem slice_neg (l : List Nat) (j : Nat) (h0 : 0 < j) (h : j ≤ l.length) : Txt.slice (S l) none (some (-(j : Int))) = S (l.take (l.length - j)) := by
  have e : Builtin.Str.strSliceIndices none (some (-(j : Int))) 1 (S l).length = Builtin.Str.strSliceIndices none (some (((l.length - j : Nat) : Int))) 1 (S l).length := by
    unfold Builtin.Str.strSliceIndices
    rw [S_len]
    have h1 : (-(j : Int)) < 0 := by (first | lia | omega)
    have h2 : ¬ (((l.length - j : Nat) : Int) < 0) := by (first | lia | omega)
    have h3 : -(j : Int) + (l.length : Nat) = ((l.length - j : Nat) : Int) := by (first | lia | omega)
    simp only [h1, h2, if_true, if_false, h3]
  have e2 : Txt.slice (S l) none (some (-(j : Int))) = Txt.slice (S l) none (some (((l.length - j : Nat) : Int))) := by
    unfold Txt.slice
    rw [e]
  rw [e2]
  have := slice_closes_toL (x := S l) (j := ((l.length - j : Nat) : Int)) (Int.natCast_nonneg _) (by rw [S_len]; (first | lia | omega))
  rw [eq_of_beq this, S_cps]
  simp [S]
theorem item_at (l : List Nat) (k : Nat) (h : k < l.length) : Txt.item (S l) (k : Int) = S [l.getD k 0] := by
  unfold Txt.item Txt.charAt
  rw [S_len]
  have e : seqIndex? (k : Int) l.length = some k := by
    unfold seqIndex?
    have h1 : ¬ ((k : Int) < 0) := by (first | lia | omega)
    simp only [h1, if_false]
    rw [if_pos (by simp; (first | lia | omega))]
    simp
  rw [e]
  simp [S, List.getD, h]
theorem item_neg (l : List Nat) (j : Nat) (h : j < l.length) : Txt.item (S l) (-(j : Int) - 1) = S [l.getD (l.length - 1 - j) 0] := by
  unfold Txt.item Txt.charAt
  rw [S_len]
  have e : seqIndex? (-(j : Int) - 1) l.length = some (l.length - 1 - j) := by
    unfold seqIndex?
    have h1 : (-(j : Int) - 1) < 0 := by (first | lia | omega)
    simp only [h1, if_true]
    rw [if_pos (by simp; (first | lia | omega))]
    congr 1
    (first | lia | omega)
  rw [e]
  have : l.length - 1 - j < l.length := by (first | lia | omega)
  simp [S, List.getD, this]
section
variable {prog : Program} {w : World} {A : Around} {E : Value → Shared → Prop} {s : Shared} {h₀ : Heap} {L : Addr} {m : Str → Option Value} {news : List (Addr × Obj)} {value slice : PySem.Expr} {xs ys : List Nat} {k j : Nat} {t u : Tok} {Q : Value → Shared → Prop}
theorem sFrom (F : Fr h₀ L s.heap m) (N : News h₀ L s.heap news) (hk : k ≤ xs.length) (hl : xs.length ≤ 1000)
    (h : ∀ h' t' tk, Fr h₀ L h' m → News h₀ L h' news → Q (.str (S (xs.drop k)) t') { s with heap := h', toks := tk })
    (hs : subscripted slice false (.str (S xs) t) (.ref s.heap.objs.size) = operate [.ref s.heap.objs.size, .str (S xs) t] (getItem (.str (S xs) t) (.ref s.heap.objs.size)))
    (ht : ∀ r, letTemporaryGo value (.str (S xs) t) r = pure ()) :
    wpAny (model prog w) A (subscriptTail value slice (.str (S xs) t) (.ref s.heap.objs.size)) Q E { s with heap := s.heap.push { cls := .type "slice", data := .fields #[.int (k : Int) u, .none, .none] } } :=
  slice_strN_sn F N (fun h' t' tk F' N' => by rw [slice_from xs k hk]; exact h h' t' tk F' N') hs ht (by rw [S_len]; unfold sizeLine; (first | lia | omega))
theorem sAll (F : Fr h₀ L s.heap m) (N : News h₀ L s.heap news) (hl : xs.length ≤ 1000)
    (h : ∀ h' t' tk, Fr h₀ L h' m → News h₀ L h' news → Q (.str (S xs) t') { s with heap := h', toks := tk })
    (hs : subscripted slice false (.str (S xs) t) (.ref s.heap.objs.size) = operate [.ref s.heap.objs.size, .str (S xs) t] (getItem (.str (S xs) t) (.ref s.heap.objs.size)))
    (ht : ∀ r, letTemporaryGo value (.str (S xs) t) r = pure ()) :
    wpAny (model prog w) A (subscriptTail value slice (.str (S xs) t) (.ref s.heap.objs.size)) Q E { s with heap := s.heap.push { cls := .type "slice", data := .fields #[.none, .none, .none] } } :=
  slice_strN_nn F N (fun h' t' tk F' N' => by rw [slice_all]; exact h h' t' tk F' N') hs ht (by rw [S_len]; unfold sizeLine; (first | lia | omega))
theorem sNeg (F : Fr h₀ L s.heap m) (N : News h₀ L s.heap news) (h0 : 0 < j) (hj : j ≤ xs.length) (hl : xs.length ≤ 1000)
    (h : ∀ h' t' tk, Fr h₀ L h' m → News h₀ L h' news → Q (.str (S (xs.take (xs.length - j))) t') { s with heap := h', toks := tk })
    (hs : subscripted slice false (.str (S xs) t) (.ref s.heap.objs.size) = operate [.ref s.heap.objs.size, .str (S xs) t] (getItem (.str (S xs) t) (.ref s.heap.objs.size)))
    (ht : ∀ r, letTemporaryGo value (.str (S xs) t) r = pure ()) :
    wpAny (model prog w) A (subscriptTail value slice (.str (S xs) t) (.ref s.heap.objs.size)) Q E { s with heap := s.heap.push { cls := .type "slice", data := .fields #[.none, .int (-(j : Int)) u, .none] } } :=
  slice_strN_ns F N (fun h' t' tk F' N' => by rw [slice_neg xs j h0 hj]; exact h h' t' tk F' N') hs ht (by rw [S_len]; unfold sizeLine; (first | lia | omega))
theorem sItem (hk : k < xs.length) (hl : xs.length ≤ 1000) (h : ∀ t' tk, Q (.str (S [xs.getD k 0]) t') { s with toks := tk })
    (hs : subscripted slice false (.str (S xs) t) (.int (k : Int) u) = operate [.str (S xs) t, .int (k : Int) u] (getItem (.str (S xs) t) (.int (k : Int) u)))
    (ht : ∀ r, letTemporaryGo value (.str (S xs) t) r = pure ()) :
    wpAny (model prog w) A (subscriptTail value slice (.str (S xs) t) (.int (k : Int) u)) Q E s :=
  item_str (by simp [fitsSsize]; (first | lia | omega)) (by rw [S_len]; (first | lia | omega)) (by rw [S_len]; (first | lia | omega)) (fun _ => by rw [item_at xs k hk]; exact h _ _) hs ht
theorem sItemN (hk : j < xs.length) (hl : xs.length ≤ 1000) (h : ∀ t' tk, Q (.str (S [xs.getD (xs.length - 1 - j) 0]) t') { s with toks := tk })
    (hs : subscripted slice false (.str (S xs) t) (.int (-(j : Int) - 1) u) = operate [.str (S xs) t, .int (-(j : Int) - 1) u] (getItem (.str (S xs) t) (.int (-(j : Int) - 1) u)))
    (ht : ∀ r, letTemporaryGo value (.str (S xs) t) r = pure ()) :
    wpAny (model prog w) A (subscriptTail value slice (.str (S xs) t) (.int (-(j : Int) - 1) u)) Q E s :=
  item_str (by simp [fitsSsize]; (first | lia | omega)) (by rw [S_len]; (first | lia | omega)) (by rw [S_len]; (first | lia | omega)) (fun _ => by rw [item_neg xs j hk]; exact h _ _) hs ht
theorem sTruthy {Q : Bool → Shared → Prop} (hl : xs.length ≤ 1000) (h : ∀ tk, Q (decide (0 < xs.length)) { s with toks := tk }) : wpAny (model prog w) A (truthy (.str (S xs) t)) Q E s :=
  PySem.P.truthy_str (by rw [S_len]; (first | lia | omega)) (by
    have e : (((S xs).length : Int) != 0) = decide (0 < xs.length) := by
      rw [S_len]
      cases xs with
      | nil => rfl
      | cons a r => simp; (first | lia | omega)
    rw [e]; exact h _)
theorem sEq (h : Q (.bool (decide (xs = ys))) s) : wpAny (model prog w) A (compareOp .Eq (.str (S xs) t) (.str (S ys) u)) Q E s :=
  PySem.P.eq_str (by
    have e : ((S xs).cps.toList == (S ys).cps.toList) = decide (xs = ys) := by rw [S_cps, S_cps]; by_cases h : xs = ys <;> simp [h]
    rw [e]; exact h)
theorem sLen (hl : xs.length ≤ 1000) (h : ∀ t' tk, Q (.int (xs.length : Nat) t') { s with toks := tk }) : wpAny (model prog w) A (call (.builtin "len") [.str (S xs) t]) Q E s :=
  PyProof.Rows.len_str (by rw [S_len]; (first | lia | omega)) (by rw [S_len]; exact h _ _)
end
end Mine
namespace Mine
noncomputable def orNone (j : Nat) (t : Tok) : Value := if j = 0 then .none else .int (-(j : Int)) t
section
variable {prog : Program} {w : World} {A : Around} {E : Value → Shared → Prop} {s : Shared} {h₀ : Heap} {L a : Addr} {m : Str → Option Value} {news : List (Addr × Obj)} {value slice : PySem.Expr} {xs : List Nat} {j k2 : Nat} {t u : Tok} {Q : Value → Shared → Prop} {cn : Str} {cs : Scope} {ccd : Value} {x : Str} {p1 p2 p3 : Pos}
theorem evalOrNone (F : Fr h₀ L s.heap m) (hv : m x = some (.int (-(j : Int)) t)) (h : Q (orNone j t) s)
    (hk : cs.kind = .function) (hl : (envOf cn cs L a ccd).kindOf x = some .local) (hd : (x == ("__debug__" : Str)) = false) :
    wpAny (model prog w) A (eval (.BoolOp .Or [.Name x p1, .Constant .none k2 p2] p3) (envOf cn cs L a ccd)) Q E s := by
  refine PyProof.Rows.BoolOp_or (ld F hv ?_ hk hl hd)
  refine PyProof.Rows.truthy_int ?_
  by_cases hj : j = 0
  · subst hj
    have e : ((-((0 : Nat) : Int)) != 0) = false := rfl
    rw [e]
    simp only [Bool.false_eq_true, if_false]
    refine PyProof.Rows.BoolOp_one (wpAny_Constant_none ?_)
    simpa [orNone] using h
  · have e : ((-(j : Int)) != 0) = true := by simp; (first | lia | omega)
    rw [e]
    simp only [if_true]
    simpa [orNone, hj] using h
theorem sOr (F : Fr h₀ L s.heap m) (N : News h₀ L s.heap news) (hj : j ≤ xs.length) (hl : xs.length ≤ 1000)
    (h : ∀ h' t' tk, Fr h₀ L h' m → News h₀ L h' news → Q (.str (S (xs.take (xs.length - j))) t') { s with heap := h', toks := tk })
    (hs : subscripted slice false (.str (S xs) t) (.ref s.heap.objs.size) = operate [.ref s.heap.objs.size, .str (S xs) t] (getItem (.str (S xs) t) (.ref s.heap.objs.size)))
    (ht : ∀ r, letTemporaryGo value (.str (S xs) t) r = pure ()) :
    wpAny (model prog w) A (subscriptTail value slice (.str (S xs) t) (.ref s.heap.objs.size)) Q E { s with heap := s.heap.push { cls := .type "slice", data := .fields #[.none, orNone j u, .none] } } := by
  unfold orNone
  by_cases h0 : j = 0
  · subst h0
    rw [if_pos rfl]
    refine sAll F N hl (fun h' t' tk F' N' => ?_) hs ht
    have := h h' t' tk F' N'
    rwa [Nat.sub_zero, List.take_length] at this
  · rw [if_neg h0]
    exact sNeg F N (Nat.pos_of_ne_zero h0) hj hl h hs ht
theorem sItemM (h0 : 0 < j) (hj : j ≤ xs.length) (hl : xs.length ≤ 1000) (h : ∀ t' tk, Q (.str (S [xs.getD (xs.length - j) 0]) t') { s with toks := tk })
    (hs : subscripted slice false (.str (S xs) t) (.int (-(j : Int)) u) = operate [.str (S xs) t, .int (-(j : Int)) u] (getItem (.str (S xs) t) (.int (-(j : Int)) u)))
    (ht : ∀ r, letTemporaryGo value (.str (S xs) t) r = pure ()) :
    wpAny (model prog w) A (subscriptTail value slice (.str (S xs) t) (.int (-(j : Int)) u)) Q E s := by
  obtain ⟨i, rfl⟩ : ∃ i, j = i + 1 := ⟨j - 1, by (first | lia | omega)⟩
  have e : (-((i + 1 : Nat) : Int)) = -(i : Int) - 1 := by (first | lia | omega)
  rw [e] at hs ⊢
  refine sItemN (by (first | lia | omega)) hl (fun t' tk => ?_) hs ht
  have := h t' tk
  rwa [show xs.length - (i + 1) = xs.length - 1 - i from by (first | lia | omega)] at this
theorem isubIs {a b v : Int} (e : Is (a - b) v) (h : Q (.int v s.toks) { s with toks := s.toks + 1 }) : wpAny (model prog w) A (inplaceOp .Sub (.int a t) (.int b u)) Q E s := PyProof.Rows.isub_int (by rw [show a - b = v from e]; exact h)
end
end Mine
namespace Mine
noncomputable def preLen : List Nat → List Nat → Nat
  | a :: r, b :: t => if a = b then preLen r t + 1 else 0
  | _, _ => 0
theorem preLen_nil_r (l : List Nat) : preLen l [] = 0 := by cases l <;> rfl
theorem preLen_step {xs ys : List Nat} {k : Nat} (h1 : k < xs.length) (h2 : k < ys.length) (h : [xs.getD k 0] = [ys.getD k 0]) : preLen (xs.drop k) (ys.drop k) = 1 + preLen (xs.drop (k + 1)) (ys.drop (k + 1)) := by
  rw [List.drop_eq_getElem_cons h1, List.drop_eq_getElem_cons h2]
  simp [List.getD, h1, h2] at h
  simp [preLen, h]
  (first | lia | omega)
theorem preLen_stop {xs ys : List Nat} {k : Nat} (h1 : k < xs.length) (h2 : k < ys.length) (h : ¬ [xs.getD k 0] = [ys.getD k 0]) : preLen (xs.drop k) (ys.drop k) = 0 := by
  rw [List.drop_eq_getElem_cons h1, List.drop_eq_getElem_cons h2]
  simp [List.getD, h1, h2] at h
  simp [preLen, h]
theorem preLen_end1 {xs ys : List Nat} {k : Nat} (h1 : ¬ 0 < (xs.drop k).length) : preLen (xs.drop k) (ys.drop k) = 0 := by
  have : xs.drop k = [] := by cases h : xs.drop k <;> simp_all
  rw [this]; rfl
theorem preLen_end2 {xs ys : List Nat} {k : Nat} (h1 : ¬ 0 < (ys.drop k).length) : preLen (xs.drop k) (ys.drop k) = 0 := by
  have : ys.drop k = [] := by cases h : ys.drop k <;> simp_all
  rw [this]; exact preLen_nil_r _
end Mine
namespace Mine
noncomputable def costN (c d : Nat) : Int := subCost (S [c]) (S [d])
noncomputable def innerGo (c : Nat) : List Nat → List Int → Int → Int → Int → List Int × Int × Int
  | a :: as, r :: rs, dist, res, mn =>
    let res' := min (min res r + 2) (dist + costN c a)
    let g := innerGo c as rs r res' (if res' < mn then res' else mn)
    (res' :: g.1, g.2)
  | _, _, _, res, mn => ([], res, mn)
noncomputable def outerGo (al : List Nat) (mc : Int) : List Nat → List Int → Int → Int → Int
  | [], _, res, _ => res
  | c :: bs, row, _, bi =>
    let g := innerGo c al row (bi * 2) (bi * 2) 9223372036854775807
    if mc < g.2.2 then mc + 1 else outerGo al mc bs g.1 g.2.1 (bi + 1)
noncomputable def levDP (al bl : List Nat) (mc : Int) : Int := outerGo al mc bl ((List.range al.length).map fun i : Nat => (2 * ((i : Int) + 1))) 0 0
noncomputable def lev2 (al bl : List Nat) (mc : Int) : Int := if mc < ((bl.length : Int) - al.length) * 2 then mc + 1 else levDP al bl mc
noncomputable def lev1 (al bl : List Nat) (mc : Int) : Int :=
  if ¬ 0 < al.length then 2 * ((al.length : Int) + bl.length)
  else if ¬ 0 < bl.length then 2 * ((al.length : Int) + bl.length)
  else if 40 < (al.length : Int) then mc + 1
  else if 40 < (bl.length : Int) then mc + 1
  else if (bl.length : Int) < al.length then lev2 bl al mc else lev2 al bl mc
noncomputable def cutEnd (al bl : List Nat) : List Nat := al.take (al.length - preLen al.reverse bl.reverse)
noncomputable def cutEnd2 (al bl : List Nat) : List Nat := bl.take (bl.length - preLen al.reverse bl.reverse)
noncomputable def lev (xs ys : List Nat) (mc : Int) : Int :=
  if xs = ys then 0
  else lev1 (cutEnd (xs.drop (preLen xs ys)) (ys.drop (preLen xs ys))) (cutEnd2 (xs.drop (preLen xs ys)) (ys.drop (preLen xs ys))) mc
theorem rev_get {l : List Nat} {j : Nat} (h : j < l.length) : l.getD (l.length - (j + 1)) 0 = l.reverse.getD j 0 := by
  simp [List.getD, List.getElem?_reverse h, show l.length - (j + 1) = l.length - 1 - j from by (first | lia | omega)]
noncomputable def SwapJ (g : Heap) (L : Addr) (s : Shared) (target mc : Int) (tm : Tok) (s' : Shared) : Prop :=
  ∃ (al bl : List Nat) (ta tb : Tok) (h' : Heap) (tk : Nat) (u : Str → Option Value), s' = { s with heap := h', toks := tk } ∧ Fr g L h' (kstB u [("a", .str (S al) ta), ("b", .str (S bl) tb), ("max_cost", .int mc tm)]) ∧ al.length ≤ bl.length ∧ bl.length ≤ 40 ∧ 0 < al.length ∧ target = lev2 al bl mc
theorem swJ {g : Heap} {L : Addr} {s : Shared} {target mc : Int} {tm : Tok} {h' : Heap} {tk : Nat} {m' : Str → Option Value} {al bl : List Nat} {ta tb : Tok} (F : Fr g L h' m') (hk : ∀ p ∈ [(("a" : Str), Value.str (S al) ta), ("b", .str (S bl) tb), ("max_cost", .int mc tm)], m' p.1 = some p.2)
    (h1 : al.length ≤ bl.length) (h2 : bl.length ≤ 40) (h3 : 0 < al.length) (h4 : target = lev2 al bl mc) : SwapJ g L s target mc tm { s with heap := h', toks := tk } :=
  ⟨al, bl, ta, tb, h', tk, m', rfl, by rw [kstB_self hk]; exact F, h1, h2, h3, h4⟩
theorem lev1_a {al bl : List Nat} {mc target : Int} (e : target = lev1 al bl mc) (h : ¬ 0 < al.length) : 2 * ((al.length : Int) + bl.length) = target := by rw [e]; exact (if_pos h).symm
theorem lev1_b {al bl : List Nat} {mc target : Int} (e : target = lev1 al bl mc) (h : 0 < al.length) (h' : ¬ 0 < bl.length) : 2 * ((al.length : Int) + bl.length) = target := by
  rw [e]; unfold lev1; rw [if_neg (fun z => z h), if_pos h']
theorem lev1_c {al bl : List Nat} {mc target : Int} (e : target = lev1 al bl mc) (h : 0 < al.length) (h' : 0 < bl.length) (h2 : 40 < (al.length : Int)) : mc + 1 = target := by
  rw [e]; unfold lev1; rw [if_neg (fun z => z h), if_neg (fun z => z h'), if_pos h2]
theorem lev1_d {al bl : List Nat} {mc target : Int} (e : target = lev1 al bl mc) (h : 0 < al.length) (h' : 0 < bl.length) (h2 : ¬ 40 < (al.length : Int)) (h3 : 40 < (bl.length : Int)) : mc + 1 = target := by
  rw [e]; unfold lev1; rw [if_neg (fun z => z h), if_neg (fun z => z h'), if_neg h2, if_pos h3]
theorem lev1_e {al bl : List Nat} {mc target : Int} (e : target = lev1 al bl mc) (h : 0 < al.length) (h' : 0 < bl.length) (h2 : ¬ 40 < (al.length : Int)) (h3 : ¬ 40 < (bl.length : Int)) (h4 : (bl.length : Int) < al.length) : target = lev2 bl al mc := by
  rw [e]; unfold lev1; rw [if_neg (fun z => z h), if_neg (fun z => z h'), if_neg h2, if_neg h3, if_pos h4]
theorem lev1_f {al bl : List Nat} {mc target : Int} (e : target = lev1 al bl mc) (h : 0 < al.length) (h' : 0 < bl.length) (h2 : ¬ 40 < (al.length : Int)) (h3 : ¬ 40 < (bl.length : Int)) (h4 : ¬ (bl.length : Int) < al.length) : target = lev2 al bl mc := by
  rw [e]; unfold lev1; rw [if_neg (fun z => z h), if_neg (fun z => z h'), if_neg h2, if_neg h3, if_neg h4]
theorem lev2_a {al bl : List Nat} {mc : Int} (h : mc < ((bl.length : Int) - al.length) * 2) : mc + 1 = lev2 al bl mc := (if_pos h).symm
theorem lev2_b {al bl : List Nat} {mc : Int} (h : ¬ mc < ((bl.length : Int) - al.length) * 2) : lev2 al bl mc = levDP al bl mc := if_neg h
theorem ifJ {M : Model} {A : Around} {E : Value → Shared → Prop} {s : Shared} {env : Env} {t : Expr} {b : List Stmt} {pos : Pos} {Q : Flow → Shared → Prop} {J : Shared → Prop} (h : wpAny M A (exec (.If t b [] pos) env) (fun f s' => f = .next ∧ J s') E s) (k : ∀ s', J s' → Q .next s') :
    wpAny M A (exec (.If t b [] pos) env) Q E s := wpAny_mono h (fun f s' ⟨e, hj⟩ => e ▸ k s' hj) fun _ _ x => x
end Mine
namespace Mine
theorem ints_of_get : ∀ (vs : List Value) (ns : List Int), vs.length = ns.length → (∀ (j : Nat) (v : Value), vs[j]? = some v → ∃ t : Tok, v = Value.int (ns.getD j 0) t) → IntsAre vs ns
  | [], [], _, _ => .nil
  | v :: vs, n :: ns, hl, h => by
    obtain ⟨t, rfl⟩ := h 0 v rfl
    exact .cons _ _ (ints_of_get vs ns (by simpa using hl) fun j w hw => by simpa using h (j + 1) w (by simpa using hw))
theorem rsz (n : Nat) : Builtin.Range.rangeSize 0 (n : Int) 1 = (n : Int) := by
  unfold Builtin.Range.rangeSize
  simp only [show (1 : Int) > 0 by decide, if_true, Int.ediv_one]
  split <;> (first | lia | omega)
theorem rsm (n : Nat) (h : n < 2 ^ 30) : Builtin.Range.small 0 (n : Int) 1 = true := small_one (by (first | lia | omega)) (by (first | lia | omega)) (by (first | lia | omega)) (by (first | lia | omega))
theorem rsz2 (n : Nat) : Builtin.Range.rangeSize 2 (((2 * (n + 1) : Nat)) : Int) 2 = (n : Int) := by
  unfold Builtin.Range.rangeSize
  simp only [show (2 : Int) > 0 by decide, if_true]
  split <;> (first | lia | omega)
theorem rsmG {b n : Int} (hb : -(2 ^ 62) ≤ b) (hb' : b < 2 ^ 62) (hn : Builtin.Range.rangeSize 2 b 2 = n) (h0 : 0 ≤ n) (h1 : n < 2 ^ 62) : Builtin.Range.small 2 b 2 = true := by
  unfold Builtin.Range.small
  rw [hn]
  simp only [Builtin.Range.rangeFitsLong, Bool.and_eq_true, Bool.or_eq_true, decide_eq_true_eq, beq_iff_eq, show (2 : Int) > 0 by decide, if_true]
  (first | lia | omega)
theorem rsm2 (n : Nat) (h : n < 2 ^ 30) : Builtin.Range.small 2 (((2 * (n + 1) : Nat)) : Int) 2 = true :=
  rsmG (by (first | lia | omega)) (by (first | lia | omega)) (rsz2 n) (by (first | lia | omega)) (by (first | lia | omega))
section
variable {prog : Program} {w : World} {A : Around} {E : Value → Shared → Prop} {s : Shared} {env : Env} {h₀ : Heap} {L : Addr} {m : Str → Option Value} {news : List (Addr × Obj)} {x : Str} {body : List Stmt}
theorem rng1 {n : Nat} {t : Tok} {Q : Value → Shared → Prop} (F : Fr h₀ L s.heap m) (N : News h₀ L s.heap news)
    (h : ∀ r h' tk t₁ u₁ v₁, IsRange h' r 0 (n : Int) 1 t₁ u₁ v₁ → Fr h₀ L h' m → News h₀ L h' news → Q (.ref r) { s with heap := h', toks := tk }) :
    wpAny (model prog w) A (call (.type "range") [.int (n : Int) t]) Q E s := range1_rows F N fun h' tk t₁ u₁ v₁ R F' N' _ => h _ h' tk t₁ u₁ v₁ R F' N'
theorem rng3 {a b c : Int} {t u v : Tok} {Q : Value → Shared → Prop} (F : Fr h₀ L s.heap m) (N : News h₀ L s.heap news) (hc : c ≠ 0) (hc2 : c.natAbs < 1073741824)
    (h : ∀ r h' tk t₁ u₁ v₁, IsRange h' r a b c t₁ u₁ v₁ → Fr h₀ L h' m → News h₀ L h' news → Q (.ref r) { s with heap := h', toks := tk }) :
    wpAny (model prog w) A (call (.type "range") [.int a t, .int b u, .int c v]) Q E s := range3_rows F N hc (fun h' tk t₁ u₁ v₁ R F' N' _ => h _ h' tk t₁ u₁ v₁ R F' N') (.inl (PyProof.noPylong_small hc2))
theorem listRng2 {r : Addr} {n : Nat} {t u v : Tok} {Q : Value → Shared → Prop} (hh : A.handled = none) (F : Fr h₀ L s.heap m) (N : News h₀ L s.heap news) (hr : IsRange s.heap r 2 (((2 * (n + 1) : Nat)) : Int) 2 t u v) (hn : n ≤ 1000)
    (h : ∀ D us c h' tk, Fr h₀ L h' m → News h₀ L h' ((D, listOf (List.toArray us) c) :: news) → (∀ p ∈ news, p.1 < D) → IntsAre us ((List.range n).map fun i : Nat => (2 * ((i : Int) + 1))) → Q (.ref D) { s with heap := h', toks := tk }) :
    wpAny (model prog w) A (call (.type "list") [.ref r]) Q E s := by
  refine call_list_range hh hr (rsm2 n (by (first | lia | omega))) (rsz2 n) (by (first | lia | omega)) fun h' tk acc c hk hD hI => ?_
  have hD' : h'.get? s.heap.objs.size = some (listOf (List.toArray acc.toList) c) := by rw [Array.toArray_toList]; exact hD
  refine h _ acc.toList c h' tk (F.keeps hk) (news_pushed F N hk hD' rfl) (fun p hp => Heap.lt_size (N p hp).1) (ints_of_get _ _ (by simp [hI.1]) fun j v hj => ?_)
  obtain ⟨t', rfl⟩ := hI.2 j v (by rw [← hj, Array.getElem?_toList])
  have hjn : j < n := by
    have := (List.getElem?_eq_some_iff.mp hj).1
    rw [Array.length_toList, hI.1] at this
    exact this
  refine ⟨t', ?_⟩
  have : ((List.range n).map fun i : Nat => (2 * ((i : Int) + 1))).getD j 0 = 2 * ((j : Int) + 1) := by simp [List.getD, hjn]
  rw [this]
  congr 1
  (first | lia | omega)
theorem loopRng {σ : Type} {Q : Flow → Shared → Prop} {r : Addr} {n : Nat} {t u v : Tok} {m₀ : Str → Option Value} (Led : σ → List (Addr × Obj)) (ps : σ → List (Str × Value)) (P : Nat → σ → Prop) (c₀ : σ)
    (hh : A.handled = none) (hr : IsRange s.heap r 0 (n : Int) 1 t u v) (hn : n < 2 ^ 30) (F : Fr h₀ env.locals s.heap m₀) (N : News h₀ env.locals s.heap (Led c₀)) (hk : ∀ p ∈ ps c₀, m₀ p.1 = some p.2) (hp : P 0 c₀)
    (turn : ∀ i ti (c : σ) (u : Str → Option Value) h tk own, i < n → OwnOff own ((Led c₀).map (·.1)) → P i c → Fr h₀ env.locals h (fun y => if y = x then some (.int (i : Nat) ti) else kstB u (ps c) y) → News h₀ env.locals h (Led c ++ own) →
      wpAny (model prog w) A (execs body env) (InvPostN h₀ env.locals (LEnd h₀ env.locals Led ps (P (i + 1))) own ((Led c₀).map (·.1)) { s with heap := h, toks := tk } Q) E { s with heap := h, toks := tk })
    (done : ∀ (c : σ) (u : Str → Option Value) h tk, P n c → Fr h₀ env.locals h (kstB u (ps c)) → News h₀ env.locals h (Led c) → Q .next { s with heap := h, toks := tk }) :
    wpAny (model prog w) A (pyIter (.ref r)) (fun it s₂ => LoopAtV prog w A h₀ env x body Q E it s₂) E s := by
  refine wpAny_pyIter_range hr (rsm n hn) ?_
  have W : Walks prog w A s.heap.objs.size [s.heap.objs.size] [s.heap.objs.size] n (fun i v => i < n ∧ ∃ t, v = .int ((0 : Int) + i * 1) t)
      (fun i h => IsRangeIter h s.heap.objs.size (0 + (i : Nat) * 1) ((n : Int) - (i : Nat)) 1) := (Walks.range hh _ 0 1 n).bound
  refine loopS Led ps P c₀ W ?_ ?_ ?_ (by show IsRangeIter _ _ _ _ _; rw [rsz]; simpa using Heap.get?_push_size _ rfl) (F.push _) (fun p hp => ⟨Heap.get?_push_of_some _ (N p hp).1, (N p hp).2⟩) hk hp ?_ ?_
  · intro hm
    exact absurd F.ns.lt ((List.mem_singleton.mp hm) ▸ Nat.lt_irrefl _)
  · intro b hb
    rw [List.mem_singleton.mp hb]
    exact next_is_new F
  · intro p hp hI
    exact absurd (Heap.lt_size (N p hp).1) ((List.mem_singleton.mp hI) ▸ Nat.lt_irrefl _)
  · rintro i v c u h tk own hi ⟨_, t, rfl⟩ ho hP F₁ N₁
    have e1 : (0 : Int) + (i : Int) * 1 = ((i : Nat) : Int) := by (first | lia | omega)
    rw [e1] at F₁
    exact turn i t c u h tk own hi ho hP F₁ N₁
  · intro c u h tk hP F₁ N₁
    exact done c u h tk hP F₁ N₁
theorem min2 {a b : Int} {t u : Tok} {Q : Value → Shared → Prop} (hh : A.handled = none) (F : Fr h₀ L s.heap m) (N : News h₀ L s.heap news)
    (h : ∀ h' tk t', Fr h₀ L h' m → News h₀ L h' news → Q (.int (min a b) t') { s with heap := h', toks := tk }) :
    wpAny (model prog w) A (call (.builtin "min") [.int a t, .int b u]) Q E s := min_two_N hh F N fun h' tk F' N' => by
  have e : (if b < a then b else a) = min a b := by split <;> (first | lia | omega)
  rw [e]; exact h h' tk _ F' N'
theorem max2 {a b : Int} {t u : Tok} {Q : Value → Shared → Prop} (hh : A.handled = none) (F : Fr h₀ L s.heap m) (N : News h₀ L s.heap news)
    (h : ∀ h' tk t', Fr h₀ L h' m → News h₀ L h' news → Q (.int (max a b) t') { s with heap := h', toks := tk }) :
    wpAny (model prog w) A (call (.builtin "max") [.int a t, .int b u]) Q E s := max_two_N hh F N fun h' tk F' N' => by
  have e : (if b > a then b else a) = max a b := by split <;> (first | lia | omega)
  rw [e]; exact h h' tk _ F' N'
end
end Mine
theorem Mine.rows3_0 : True := by
  k_with_none
  (k_with "call builtin:max" => (k_here; (with_reducible show wpAny _ _ (call (Value.builtin _) [Value.int _ _, Value.int _ _, Value.int _ _]) _ _ _); (with_unfolding_all refine' Mine.max3 ?zz_k1 ?zz_k2 ?zz_k3 ?_; (case zz_k1 => rfl); (case zz_k2 => k_asm); (case zz_k3 => k_asm); k_whole); intro _ _ _ _ _))
  (k_with "call builtin:min" => (k_here; (with_reducible show wpAny _ _ (call (Value.builtin _) [Value.int _ _, Value.int _ _, Value.int _ _]) _ _ _); (with_unfolding_all refine' Mine.min3 ?zz_k1 ?zz_k2 ?zz_k3 ?_; (case zz_k1 => rfl); (case zz_k2 => k_asm); (case zz_k3 => k_asm); k_whole); intro _ _ _ _ _))
  (k_with "binaryOp Mult ref int" => (k_here; k_dflt (refine' Mine.mulOne ?zz_k1 ?zz_k2 ?zz_k3 ?zz_k4 ?zz_k5 ?_; (case zz_k1 => k_asm); (case zz_k2 => k_asm); (case zz_k3 => k_mem); (case zz_k4 => first | (first | lia | omega) | assumption | l_fact); (case zz_k5 => first | (first | lia | omega) | assumption | l_fact); k_whole); intro _ _ _ _ _ l1 _; (try k_lt l1); (try k_sweep)))
  (k_with "call builtin:divmod" => (k_here; (with_reducible show wpAny _ _ (call (Value.builtin _) [Value.int _ _, Value.int _ _]) _ _ _); refine divmod_N (by assumption) (by assumption) (by side_arith) ?_; intro _ _ _))
  (k_with "call builtin:len" => (k_here; (with_reducible show wpAny _ _ (call (Value.builtin _) [Value.ref _]) _ _ _); k_dflt (refine' Mine.lenN ?zz_k1 ?zz_k2 ?zz_k3 ?zz_k4 ?_; (case zz_k1 => k_asm); (case zz_k2 => k_mem); (case zz_k3 => with_reducible assumption); (case zz_k4 => ((try simp only [List.length_append, List.length_cons, List.length_nil, List.length_replicate, List.length_map]); (first | lia | omega))); k_whole); intro _ _))
  (k_with "binaryOp Sub int int" => (k_here; with_reducible refine' Mine.subIs ?zz_k1 ?_; (case zz_k1 => assumption)))
  (k_with "binaryOp Add int int" => (k_here; with_reducible refine' Mine.addIs ?zz_k1 ?_; (case zz_k1 => assumption)))
  (k_with "binaryOp Mult int int" => (k_here; with_reducible refine' Mine.mulIs ?zz_k1 ?zz_k2 ?_; (case zz_k1 => assumption); (case zz_k2 => exact Mine.bits64 (by (first | lia | omega)))))
  (k_with "binaryOp RShift int int" => (k_here; with_reducible refine' Mine.shrIs ?zz_k1 ?zz_k2 ?_; (case zz_k1 => assumption); (case zz_k2 => (first | lia | omega))))
  (k_with "binaryOp LShift int int" => (k_here; with_reducible refine' Mine.shlIs ?zz_k1 ?zz_k2 ?zz_k3 ?zz_k4 ?_; (case zz_k1 => assumption); (case zz_k2 => (first | lia | omega)); (case zz_k3 => (first | lia | omega)); (case zz_k4 => (first | lia | omega))))
  (k_with "binaryOp BitXor int int" => (k_here; with_reducible refine' Mine.xorIs ?zz_k1 ?_; (case zz_k1 => assumption)))
  (k_with "exec FunctionDef" => (k_here; kn_here; k_dflt (refine' nestDef_K ?zz_d0 ?zz_k0 ?zz_a0 ?_; (case zz_d0 => exact rfl); (case zz_k0 => exact rfl); (case zz_a0 => exact rfl)); (k_dflt (refine' Mine.nestBoth ?zz_F ?zz_N ?zz_T ?zz_C ?zz_cd ?zz_hs ?zz_ht ?zz_hP ?zz_hc ?zz_cl ?_; (case zz_F => k_asm); (case zz_N => k_asm); (case zz_T => k_asm); (case zz_cd => exact rfl); (case zz_C => kn_code); (case zz_hs => exact rfl); (case zz_ht => assumption); (case zz_hP => (dsimp only [List.dropLast]; k_all)); (case zz_hc => (dsimp only [List.dropLast]; k_all)); (case zz_cl => exact rfl); k_whole); intro _ _ _ _ _ _ _ _ _ _ N' _ _ l1 l2 _ _ _; (dsimp only [List.dropLast, List.append, HAppend.hAppend, Append.append] at N' l1 l2); (simp only [List.forall_mem_cons, List.forall_mem_nil, and_true] at l1 l2); (repeat (obtain ⟨_, l1⟩ := l1)); (repeat (obtain ⟨_, l2⟩ := l2)))))
  (k_with "call builtin:list.append" => (k_here; (with_reducible show wpAny _ _ (call (Value.builtin _) [Value.ref _, _]) _ _ _); k_dflt (refine' Mine.appendL ?zz_k1 ?zz_k2 ?zz_k3 ?zz_k4 ?_; (case zz_k1 => k_asm); (case zz_k2 => k_asm); (case zz_k3 => k_upd); (case zz_k4 => first | (first | lia | omega) | (simp only [List.length_nil, List.length_cons]; (first | lia | omega))); k_whole); intro _ _ _; (try k_sweep)))
  (k_with "call builtin:list.reverse" => (k_here; (with_reducible show wpAny _ _ (call (Value.builtin _) _) _ _ _); (try dsimp only); k_dflt (refine' Mine.reverseL ?zz_k1 ?zz_k2 ?zz_k3 ?zz_k4 ?zz_k5 ?_; (case zz_k1 => k_asm); (case zz_k2 => k_asm); (case zz_k3 => k_upd); (case zz_k4 => with_reducible assumption); (case zz_k5 => (first | lia | omega)); k_whole); intro _ _ _ _; (try k_sweep)))
  (k_with "unaryOp Invert int" => (k_here; with_reducible refine' Mine.invIs ?zz_k1 ?_; (case zz_k1 => assumption)))
  (k_with "exec While" => (k_here; refine Mine.halt ?_))
  (k_with "subscriptTail Name Slice str ref" => (k_here; (try dsimp only); (with_reducible show wpAny _ _ (subscriptTail _ (Expr.Slice (some _) none none _) (Value.str (Mine.S _) _) _) _ _ _); k_dflt (refine' Mine.sFrom (s := ⟨_, _, _, _, _⟩) ?zz_F ?zz_N ?zz_hk ?zz_hl ?_ ?zz_hs ?zz_ht; (case zz_hk => first | (first | lia | omega) | (simp only [List.length_drop, List.length_take, List.length_reverse] at *; (first | lia | omega))); (case zz_F => k_asm); (case zz_N => k_asm); (case zz_hl => first | (first | lia | omega) | (simp only [List.length_drop, List.length_take, List.length_reverse] at *; (first | lia | omega))); (case zz_hs => with_unfolding_all rfl); (case zz_ht => (intro _; with_unfolding_all rfl)); k_whole); intro _ _ _ _ _; (try k_sweep)))
  (k_with "subscriptTail Name Slice str ref" => (k_here; (try dsimp only); (with_reducible show wpAny _ _ (subscriptTail _ (Expr.Slice none (some _) none _) (Value.str (Mine.S _) _) _) _ _ _); k_dflt (first | (refine' Mine.sAll (s := ⟨_, _, _, _, _⟩) ?zz_F ?zz_N ?zz_hl ?_ ?zz_hs ?zz_ht; (case zz_F => k_asm); (case zz_N => k_asm); (case zz_hl => first | (first | lia | omega) | (simp only [List.length_drop, List.length_take, List.length_reverse] at *; (first | lia | omega))); (case zz_hs => with_unfolding_all rfl); (case zz_ht => (intro _; with_unfolding_all rfl)); k_whole) | (refine' Mine.sNeg (s := ⟨_, _, _, _, _⟩) ?zz_F ?zz_N ?zz_h0 ?zz_hj ?zz_hl ?_ ?zz_hs ?zz_ht; (case zz_h0 => (first | lia | omega)); (case zz_hj => first | (first | lia | omega) | (simp only [List.length_drop, List.length_take, List.length_reverse] at *; (first | lia | omega))); (case zz_F => k_asm); (case zz_N => k_asm); (case zz_hl => first | (first | lia | omega) | (simp only [List.length_drop, List.length_take, List.length_reverse] at *; (first | lia | omega))); (case zz_hs => with_unfolding_all rfl); (case zz_ht => (intro _; with_unfolding_all rfl)); k_whole)); intro _ _ _ _ _; (try k_sweep)))
  (k_with "subscriptTail Name Name str int" => (k_here; (try dsimp only); (with_reducible show wpAny _ _ (subscriptTail _ _ (Value.str (Mine.S _) _) (Value.int _ _)) _ _ _); k_dflt (refine' Mine.sItem ?zz_hk ?zz_hl ?_ ?zz_hs ?zz_ht; (case zz_hk => first | (first | lia | omega) | (simp only [List.length_drop, List.length_take, List.length_reverse] at *; (first | lia | omega))); (case zz_hl => first | (first | lia | omega) | (simp only [List.length_drop, List.length_take, List.length_reverse] at *; (first | lia | omega))); (case zz_hs => with_unfolding_all rfl); (case zz_ht => (intro _; with_unfolding_all rfl)); k_whole); intro _ _))
  (k_with "subscriptTail Name BinOp str int" => (k_here; (try dsimp only); (with_reducible show wpAny _ _ (subscriptTail _ _ (Value.str (Mine.S _) _) (Value.int _ _)) _ _ _); k_dflt (refine' Mine.sItemN ?zz_hk ?zz_hl ?_ ?zz_hs ?zz_ht; (case zz_hk => first | (first | lia | omega) | (simp only [List.length_drop, List.length_take, List.length_reverse] at *; (first | lia | omega))); (case zz_hl => first | (first | lia | omega) | (simp only [List.length_drop, List.length_take, List.length_reverse] at *; (first | lia | omega))); (case zz_hs => with_unfolding_all rfl); (case zz_ht => (intro _; with_unfolding_all rfl)); k_whole); intro _ _))
  (k_with "truthy str" => (k_here; (with_reducible show wpAny _ _ (truthy (Value.str (Mine.S _) _)) _ _ _); k_dflt (refine' Mine.sTruthy ?zz_hl ?_; (case zz_hl => first | (first | lia | omega) | (simp only [List.length_drop, List.length_take, List.length_reverse] at *; (first | lia | omega))); k_whole); intro _))
  (k_with "compareOp Eq str str" => (k_here; (with_reducible show wpAny _ _ (compareOp _ (Value.str (Mine.S _) _) (Value.str (Mine.S _) _)) _ _ _); k_dflt (refine' Mine.sEq ?_; k_whole)))
  (k_with "call builtin:len" => (k_here; (with_reducible show wpAny _ _ (call (Value.builtin _) [Value.str (Mine.S _) _]) _ _ _); k_dflt (refine' Mine.sLen ?zz_hl ?_; (case zz_hl => first | (first | lia | omega) | (simp only [List.length_drop, List.length_take, List.length_reverse] at *; (first | lia | omega))); k_whole); intro _ _))
  (k_with "eval BoolOp" => (k_here; k_dflt (refine' Mine.evalOrNone ?zz_F ?zz_hv ?_ ?zz_hk ?zz_hl ?zz_hd; (case zz_F => k_asm); (case zz_hv => exact rfl); (case zz_hk => exact rfl); (case zz_hl => exact rfl); (case zz_hd => decide); k_whole)))
  (k_with "subscriptTail Name Slice str ref" => (k_here; (try dsimp only); (with_reducible show wpAny _ _ (subscriptTail _ (Expr.Slice none (some _) none _) (Value.str (Mine.S _) _) _) _ _ _); k_dflt (refine' Mine.sOr (s := ⟨_, _, _, _, _⟩) ?zz_F ?zz_N ?zz_hj ?zz_hl ?_ ?zz_hs ?zz_ht; (case zz_hj => first | (first | lia | omega) | (simp only [List.length_drop, List.length_take, List.length_reverse] at *; (first | lia | omega))); (case zz_F => k_asm); (case zz_N => k_asm); (case zz_hl => first | (first | lia | omega) | (simp only [List.length_drop, List.length_take, List.length_reverse] at *; (first | lia | omega))); (case zz_hs => with_unfolding_all rfl); (case zz_ht => (intro _; with_unfolding_all rfl)); k_whole); intro _ _ _ _ _; (try k_sweep)))
  (k_with "subscriptTail Name BinOp str int" => (k_here; (try dsimp only); (with_reducible show wpAny _ _ (subscriptTail _ _ (Value.str (Mine.S _) _) (Value.int (-(Nat.cast _)) _)) _ _ _); k_dflt (refine' Mine.sItemM ?zz_h0 ?zz_hj ?zz_hl ?_ ?zz_hs ?zz_ht; (case zz_h0 => (first | lia | omega)); (case zz_hj => first | (first | lia | omega) | (simp only [List.length_drop, List.length_take, List.length_reverse] at *; (first | lia | omega))); (case zz_hl => first | (first | lia | omega) | (simp only [List.length_drop, List.length_take, List.length_reverse] at *; (first | lia | omega))); (case zz_hs => with_unfolding_all rfl); (case zz_ht => (intro _; with_unfolding_all rfl)); k_whole); intro _ _))
  (k_with "inplaceOp Sub int int" => (k_here; with_reducible refine' Mine.isubIs ?zz_k1 ?_; (case zz_k1 => assumption)))
  (k_with "call builtin:min" => (k_here; (with_reducible show wpAny _ _ (call (Value.builtin _) [Value.int _ _, Value.int _ _]) _ _ _); k_dflt (refine' Mine.min2 ?zz_k1 ?zz_k2 ?zz_k3 ?_; (case zz_k1 => exact rfl); (case zz_k2 => k_asm); (case zz_k3 => k_asm); k_whole); intro _ _ _ _ _))
  (k_with "call builtin:max" => (k_here; (with_reducible show wpAny _ _ (call (Value.builtin _) [Value.int _ _, Value.int _ _]) _ _ _); k_dflt (refine' Mine.max2 ?zz_k1 ?zz_k2 ?zz_k3 ?_; (case zz_k1 => exact rfl); (case zz_k2 => k_asm); (case zz_k3 => k_asm); k_whole); intro _ _ _ _ _))
  (k_with "call type:range" => (k_here; (with_reducible show wpAny _ _ (call (Value.type _) [Value.int (Nat.cast _) _]) _ _ _); k_dflt (refine' Mine.rng1 ?zz_k1 ?zz_k2 ?_; (case zz_k1 => k_asm); (case zz_k2 => k_asm); k_whole); intro _ _ _ _ _ _ _ _ _))
  (k_with "call type:range" => (k_here; (with_reducible show wpAny _ _ (call (Value.type _) [Value.int _ _, Value.int _ _, Value.int _ _]) _ _ _); k_dflt (refine' Mine.rng3 ?zz_k1 ?zz_k2 ?zz_k3 ?zz_k4 ?_; (case zz_k1 => k_asm); (case zz_k2 => k_asm); (case zz_k3 => decide); (case zz_k4 => decide); k_whole); intro _ _ _ _ _ _ _ _ _))
  (k_with "call type:list" => (k_here; (with_reducible show wpAny _ _ (call (Value.type _) [Value.ref _]) _ _ _); k_dflt (refine' Mine.listRng2 ?zz_k1 ?zz_k2 ?zz_k3 ?zz_k4 ?zz_k5 ?_; (case zz_k1 => exact rfl); (case zz_k2 => k_asm); (case zz_k3 => k_asm); (case zz_k4 => assumption); (case zz_k5 => (first | lia | omega)); k_whole); intro _ _ _ _ _ _ _ l1 _; (try k_lt l1)))
  trivial
local macro_rules | `(tactic| walk_at "pyIter ref") => `(tactic| (k_here; (with_reducible rename IsRange _ _ _ _ _ _ _ _ => R'); refine Mine.halt ?_))
namespace Mine
section
variable {w : World} {p : Program} {loose : List Str} {mean : ExcName → Option Value} {mg mb : Str → Option Value} {dp un : Nat} {gd : Option (List Code)} {env : Env} {outer : List Env} {A₀ : Around} {base h₀ : Heap} {L : Addr} {m : Str → Option Value} {s : Shared} {Q E : Value → Shared → Prop} {news : List (Addr × Obj)}
theorem useSub {c d : Nat} {tx ty : Tok}
    (B : Below A₀ base outer h₀) (F : Fr h₀ L s.heap m) (X : (Mine.hd.heap_39 w.params).In h₀) (N : News h₀ L s.heap news) (T : Top p loose mean mg mb h₀) (hf : env.frame = some L) (hke : env.scope.kind = .function) (hdp : dp + 1 < recursionLimit) (hun : un + 8 < cLine)
    (h : ∀ t h' tk', Fr h₀ L h' m → News h₀ L h' news → Q (.int (costN c d) t) { s with heap := h', toks := tk' }) :
    wpAny (model PySem.Challenge.rw_pg0238_01.row.prog w) (Ar dp un gd (env :: outer)) (call (.ref 77) [.str (S [c]) tx, .str (S [d]) ty]) Q E s := by
  refine CC.use (mu := []) (rest := news) (sub_spec w (S [c]) (S [d]) tx ty (Nat.le_of_eq (S_len _)) (Nat.le_of_eq (S_len _))) B F X N T hf hke (fun q hq => hq) (fun _ _ _ q => nomatch q) hdp hun fun v n' h' tk' P F' N' _ => ?_
  obtain ⟨e, t, ev⟩ := P
  subst e ev
  exact h t h' tk' F' N'
end
structure RowSt where
  vs : List Value
  ns : List Int
  e : Nat
  res : Int
  tr : Tok
structure InSt where
  vs : List Value
  done : List Int
  e : Nat
  dist : Int
  td : Tok
  res : Int
  tr : Tok
  mn : Int
  tmn : Tok
noncomputable def PO (al bl : List Nat) (mc target : Int) (i : Nat) (c : RowSt) : Prop := IntsAre c.vs c.ns ∧ c.ns.length = al.length ∧ outerGo al mc (bl.drop i) c.ns c.res i = target
noncomputable def PI (ch : Nat) (al : List Nat) (row : List Int) (d0 r0 m0 : Int) (i : Nat) (c : InSt) : Prop :=
  IntsAre c.vs (c.done ++ row.drop i) ∧ c.done.length = i ∧ innerGo ch al row d0 r0 m0 = (c.done ++ (innerGo ch (al.drop i) (row.drop i) c.dist c.res c.mn).1, (innerGo ch (al.drop i) (row.drop i) c.dist c.res c.mn).2)
end Mine
namespace Mine
theorem outer_step {al bl : List Nat} {mc target res res' mn : Int} {i : Nat} {ns done : List Int} (hi : i < bl.length) (h : outerGo al mc (bl.drop i) ns res i = target)
    (hg : innerGo (bl.getD i 0) al ns ((i : Int) * 2) ((i : Int) * 2) 9223372036854775807 = (done, res', mn)) : (mc < mn → mc + 1 = target) ∧ (¬ mc < mn → outerGo al mc (bl.drop (i + 1)) done res' ((i + 1 : Nat) : Int) = target) := by
  rw [List.drop_eq_getElem_cons hi] at h
  have e : bl[i] = bl.getD i 0 := by simp [List.getD, hi]
  rw [e] at h
  simp only [outerGo, hg] at h
  constructor
  · intro h1; rw [if_pos h1] at h; exact h
  · intro h1; rw [if_neg h1] at h; exact h
theorem inner_end {ch : Nat} {al : List Nat} {row : List Int} {d0 r0 m0 : Int} {c : InSt} (h : PI ch al row d0 r0 m0 al.length c) (hl : row.length = al.length) : IntsAre c.vs c.done ∧ c.done.length = al.length ∧ innerGo ch al row d0 r0 m0 = (c.done, c.res, c.mn) := by
  obtain ⟨h1, h2, h3⟩ := h
  rw [← hl, List.drop_length] at h1 h3
  rw [hl] at h3
  rw [List.append_nil] at h1
  refine ⟨h1, h2, ?_⟩
  rw [h3, List.drop_length]
  simp [innerGo]
theorem innerGo_cons {ch : Nat} {al : List Nat} {row : List Int} {d r m : Int} {i : Nat} (h1 : i < al.length) (h2 : i < row.length) : innerGo ch (al.drop i) (row.drop i) d r m =
    (min (min r (row.getD i 0) + 2) (d + costN ch (al.getD i 0)) :: (innerGo ch (al.drop (i + 1)) (row.drop (i + 1)) (row.getD i 0) (min (min r (row.getD i 0) + 2) (d + costN ch (al.getD i 0))) (if min (min r (row.getD i 0) + 2) (d + costN ch (al.getD i 0)) < m then min (min r (row.getD i 0) + 2) (d + costN ch (al.getD i 0)) else m)).1,
      (innerGo ch (al.drop (i + 1)) (row.drop (i + 1)) (row.getD i 0) (min (min r (row.getD i 0) + 2) (d + costN ch (al.getD i 0))) (if min (min r (row.getD i 0) + 2) (d + costN ch (al.getD i 0)) < m then min (min r (row.getD i 0) + 2) (d + costN ch (al.getD i 0)) else m)).2) := by
  rw [List.drop_eq_getElem_cons h1, List.drop_eq_getElem_cons h2]
  have e1 : al[i] = al.getD i 0 := by simp [List.getD, h1]
  have e2 : row[i] = row.getD i 0 := by simp [List.getD, h2]
  rw [e1, e2, innerGo]
theorem inner_step {ch : Nat} {al : List Nat} {row : List Int} {d0 r0 m0 : Int} {i : Nat} {c : InSt} (h : PI ch al row d0 r0 m0 i c) (hi : i < al.length) (hl : row.length = al.length) {vs' : List Value} {r res' mn' : Int} {e' : Nat} {td' tr' tm' : Tok}
    (hr : r = (c.done ++ row.drop i).getD i 0) (hres : res' = min (min c.res r + 2) (c.dist + costN ch (al.getD i 0))) (hv : IntsAre vs' ((c.done ++ row.drop i).set i res')) (hm : mn' = if res' < c.mn then res' else c.mn) :
    PI ch al row d0 r0 m0 (i + 1) ⟨vs', c.done ++ [res'], e', r, td', res', tr', mn', tm'⟩ := by
  obtain ⟨h1, h2, h3⟩ := h
  have hi2 : i < row.length := by (first | lia | omega)
  have er : r = row.getD i 0 := by
    rw [hr, ← h2]
    simp [List.getD, List.getElem?_append_right]
  refine ⟨?_, by simp [h2], ?_⟩
  · have : (c.done ++ row.drop i).set i res' = c.done ++ [res'] ++ row.drop (i + 1) := by
      rw [List.set_append_right _ _ (Nat.le_of_eq h2), h2, Nat.sub_self, List.drop_eq_getElem_cons hi2, List.set_cons_zero, List.append_assoc, List.singleton_append]
    rw [← this]; exact hv
  · rw [h3, innerGo_cons hi hi2, ← er, ← hres, ← hm]
    simp
end Mine
theorem Mine.rows3_1 : True := by
  (k_with "exec If" => (k_here; (with_reducible show wpAny _ _ (exec (Stmt.If (Expr.Compare (Expr.Call _ _ _ _) [CmpOp.Lt] _ _) _ _ _) _) _ _ _); (fail_if_success (with_reducible show wpAny _ _ _ (fun f s' => f = Flow.next ∧ _) _ _)); refine Mine.halt ?_))
  (k_with "call ref" => (k_here; (with_reducible show wpAny _ _ (call (Value.ref 77) [Value.str _ _, Value.str _ _]) _ _ _); k_dflt (refine' Mine.useSub ?zz_cB ?zz_cF ?zz_cX ?zz_cN ?zz_cT ?zz_cf ?zz_ck ?zz_cdp ?zz_cun ?_; (case zz_cN => k_asm); (case zz_cB => k_asm); (case zz_cF => k_asm); (case zz_cX => k_asm); (case zz_cT => k_asm); (case zz_cf => exact rfl); (case zz_ck => exact rfl); (case zz_cdp => ktr_room); (case zz_cun => ktr_units); k_whole); intro _ _ _ _ _))
  (k_with "setItem ref int" => (k_here; (with_reducible show wpAny _ _ (setItem (Value.ref _) (Value.int _ _) (Value.int _ _)) _ _ _); k_dflt (refine' ksa_set ?zz_k1 ?zz_k2 ?zz_k3 ?zz_k4 ?zz_k5 ?zz_k6 ?zz_k7 ?_; (case zz_k1 => k_asm); (case zz_k2 => k_asm); (case zz_k3 => exact Upd.head (by assumption)); (case zz_k4 => with_reducible assumption); (case zz_k5 => (first | lia | omega)); (case zz_k6 => (first | lia | omega)); (case zz_k7 => (first | lia | omega)); k_whole); intro _ _ _ _ _ _; (try k_sweep)))
  (k_with "execs cons" => (k_here; k_fold))
  (k_with "eval ListComp" => (k_here; k_fold))
  trivial
namespace Mine
theorem lev_spec (w : World) (xs ys : List Nat) (mc : Nat) (tx ty tm : Tok) (hx : xs.length ≤ 100) (hy : ys.length ≤ 100) : C3 w 84 3 40 [] [.str (S xs) tx, .str (S ys) ty, .int mc tm] (fun v n' => n' = [] ∧ ∃ t, v = .int (lev xs ys mc) t) := by
  have htgt : xs ≠ ys → lev xs ys mc = lev1 (cutEnd (xs.drop (preLen xs ys)) (ys.drop (preLen xs ys))) (cutEnd2 (xs.drop (preLen xs ys)) (ys.drop (preLen xs ys))) mc := fun h => if_neg h
  have hzero : xs = ys → 0 = lev xs ys mc := fun h => (if_pos h).symm
  generalize lev xs ys (mc : Int) = target at *
  intro p loose mean mg mb dp un gd fr base g s R B X T st sz N hd hu hret
  k_dflt (refine' enterP ?k1 ?kst ?ksz ?kN ?kX ?kT ?k6 ?k7 ?k8 ?k9 ?kB ?_ ?c2 ?c3 ?c4 ?c5; (case k1 => exact B); (case kst => exact st); (case ksz => exact sz); (case kN => exact N); (case kX => exact X); (case kT => exact T); (case k6 => k_is); (case k7 => k_is); (case k8 => ktr_room); (case k9 => exact BindsTo.of_eq rfl); (case c5 => decide); (case kB => exact locs rfl); (case c2 => exact rfl); (case c3 => exact rfl); (case c4 => exact rfl); k_whole; intro L' h' F' N' l0; (try dsimp only); (try k_lt l0); (try k_fold))
  repeat' (first | (k_unfold; (try dsimp only)) | walk1 | (dsimp only; walk1))
  · try dsimp only
    exact hret _ _ _ _ ⟨rfl, _, congrArg (fun z => Value.int z _) (hzero (by assumption))⟩ (Fr.keep (by k_asm)) outE
  have htgt := htgt (by assumption)
  clear hzero
  refine goOn ?_
  k_dflt (refine' whileK (σ := Nat × Tok) [] "pre" (fun c => .int c.1 c.2) [("a", .str (S xs) tx), ("b", .str (S ys) ty), ("max_cost", .int mc tm)] (fun c => c.1 ≤ xs.length ∧ c.1 ≤ ys.length ∧ preLen xs ys = c.1 + preLen (xs.drop c.1) (ys.drop c.1)) (fun c => c.1 ≤ xs.length ∧ c.1 ≤ ys.length ∧ preLen xs ys = c.1) (fun c => xs.length - c.1) (0, _) ?F ?N ?hx ?hk ?hp ?turn ?done ?hE; (case F => k_asm); (case N => k_asm); (case hx => exact rfl); (case hk => repeat' (first | exact List.forall_mem_nil _ | (refine' List.forall_mem_cons.mpr ⟨?_, ?_⟩) | exact rfl)); (case hp => exact ⟨Nat.zero_le _, Nat.zero_le _, by simp⟩); (case hE => passes_own))
  case turn =>
    intro c u h tk hP F1 N1
    obtain ⟨k, tc⟩ := c
    dsimp only at hP F1
    obtain ⟨hk1, hk2, hk3⟩ := hP
    have i1 : Is ((k : Int) + 1) ((k + 1 : Nat) : Int) := rfl
    repeat' (first | (k_unfold; (try dsimp only)) | walk1 | (dsimp only; walk1))
    · have hkx : k < xs.length := by simp only [List.length_drop] at *; (first | lia | omega)
      have hky : k < ys.length := by simp only [List.length_drop] at *; (first | lia | omega)
      have hst := preLen_step hkx hky (by assumption)
      k_dflt (refine' wEnd (k + 1, _) ?F ?N ?hk ?hn ?hp ?hm; (case F => k_asm); (case N => k_asm); (case hk => repeat' (first | exact List.forall_mem_nil _ | (refine' List.forall_mem_cons.mpr ⟨?_, ?_⟩) | exact rfl)); (case hn => repeat' (first | exact List.forall_mem_nil _ | (refine' List.forall_mem_cons.mpr ⟨?_, ?_⟩) | k_mem)); (case hp => exact ⟨hkx, hky, by show preLen xs ys = k + 1 + preLen (xs.drop (k + 1)) (ys.drop (k + 1)); rw [hk3, hst]; (first | lia | omega)⟩); (case hm => (show xs.length - (k + 1) < xs.length - k; (first | lia | omega))))
    · k_dflt (refine' wExit ?F ?N ?hk ?hn ?hp; (case F => k_asm); (case N => k_asm); (case hk => repeat' (first | exact List.forall_mem_nil _ | (refine' List.forall_mem_cons.mpr ⟨?_, ?_⟩) | exact rfl)); (case hn => repeat' (first | exact List.forall_mem_nil _ | (refine' List.forall_mem_cons.mpr ⟨?_, ?_⟩) | k_mem)); (case hp => exact ⟨hk1, hk2, by rw [hk3, preLen_stop (by simp only [List.length_drop] at *; (first | lia | omega)) (by simp only [List.length_drop] at *; (first | lia | omega)) (by assumption)]; rfl⟩))
    · k_dflt (refine' wExit ?F ?N ?hk ?hn ?hp; (case F => k_asm); (case N => k_asm); (case hk => repeat' (first | exact List.forall_mem_nil _ | (refine' List.forall_mem_cons.mpr ⟨?_, ?_⟩) | exact rfl)); (case hn => repeat' (first | exact List.forall_mem_nil _ | (refine' List.forall_mem_cons.mpr ⟨?_, ?_⟩) | k_mem)); (case hp => exact ⟨hk1, hk2, by rw [hk3, preLen_end2 (by assumption)]; rfl⟩))
    · k_dflt (refine' wExit ?F ?N ?hk ?hn ?hp; (case F => k_asm); (case N => k_asm); (case hk => repeat' (first | exact List.forall_mem_nil _ | (refine' List.forall_mem_cons.mpr ⟨?_, ?_⟩) | exact rfl)); (case hn => repeat' (first | exact List.forall_mem_nil _ | (refine' List.forall_mem_cons.mpr ⟨?_, ?_⟩) | k_mem)); (case hp => exact ⟨hk1, hk2, by rw [hk3, preLen_end1 (by assumption)]; rfl⟩))
  case done =>
    intro c u h tk hP F1 N1
    obtain ⟨k, tc⟩ := c
    dsimp only at hP F1
    obtain ⟨hk1, hk2, hk3⟩ := hP
    repeat' (first | (k_unfold; (try dsimp only)) | walk1 | (dsimp only; walk1))
    refine goOn ?_
    have la : (xs.drop k).length ≤ 100 := by rw [List.length_drop]; (first | lia | omega)
    have lb : (ys.drop k).length ≤ 100 := by rw [List.length_drop]; (first | lia | omega)
    rw [hk3] at htgt
    clear hk3
    generalize xs.drop k = al at *
    generalize ys.drop k = bl at *
    k_dflt (refine' whileK (σ := Nat × Tok) [] "post" (fun c => .int (-(c.1 : Int)) c.2) [("a", .str (S al) _), ("b", .str (S bl) _), ("max_cost", .int mc tm)] (fun c => c.1 ≤ al.length ∧ c.1 ≤ bl.length ∧ preLen al.reverse bl.reverse = c.1 + preLen (al.reverse.drop c.1) (bl.reverse.drop c.1)) (fun c => c.1 ≤ al.length ∧ c.1 ≤ bl.length ∧ preLen al.reverse bl.reverse = c.1) (fun c => al.length - c.1) (0, _) ?F ?N ?hx ?hk ?hp ?turn ?done ?hE; (case F => k_asm); (case N => k_asm); (case hx => exact rfl); (case hk => repeat' (first | exact List.forall_mem_nil _ | (refine' List.forall_mem_cons.mpr ⟨?_, ?_⟩) | exact rfl)); (case hp => exact ⟨Nat.zero_le _, Nat.zero_le _, by simp⟩); (case hE => passes_own))
    case turn =>
      intro c u h tk hP F1 N1
      obtain ⟨j, tc⟩ := c
      dsimp only at hP F1
      obtain ⟨hj1, hj2, hj3⟩ := hP
      have i1 : Is (-(j : Int) - 1) (-((j + 1 : Nat) : Int)) := by unfold Is; (first | lia | omega)
      repeat' (first | (k_unfold; (try dsimp only)) | walk1 | (dsimp only; walk1))
      · have hjx : j < al.reverse.length := by simp only [List.length_take, List.length_reverse] at *; (first | lia | omega)
        have hjy : j < bl.reverse.length := by simp only [List.length_take, List.length_reverse] at *; (first | lia | omega)
        have hst := preLen_step hjx hjy (by rw [← rev_get (by simpa using hjx), ← rev_get (by simpa using hjy)]; assumption)
        rw [List.length_reverse] at hjx hjy
        k_dflt (refine' wEnd (j + 1, _) ?F ?N ?hk ?hn ?hp ?hm; (case F => k_asm); (case N => k_asm); (case hk => repeat' (first | exact List.forall_mem_nil _ | (refine' List.forall_mem_cons.mpr ⟨?_, ?_⟩) | exact rfl)); (case hn => repeat' (first | exact List.forall_mem_nil _ | (refine' List.forall_mem_cons.mpr ⟨?_, ?_⟩) | k_mem)); (case hp => exact ⟨hjx, hjy, by show preLen al.reverse bl.reverse = j + 1 + preLen (al.reverse.drop (j + 1)) (bl.reverse.drop (j + 1)); rw [hj3, hst]; (first | lia | omega)⟩); (case hm => (show al.length - (j + 1) < al.length - j; (first | lia | omega))))
      · have hjx : j < al.reverse.length := by simp only [List.length_take, List.length_reverse] at *; (first | lia | omega)
        have hjy : j < bl.reverse.length := by simp only [List.length_take, List.length_reverse] at *; (first | lia | omega)
        have hst := preLen_stop hjx hjy (by rw [← rev_get (by simpa using hjx), ← rev_get (by simpa using hjy)]; assumption)
        k_dflt (refine' wExit ?F ?N ?hk ?hn ?hp; (case F => k_asm); (case N => k_asm); (case hk => repeat' (first | exact List.forall_mem_nil _ | (refine' List.forall_mem_cons.mpr ⟨?_, ?_⟩) | exact rfl)); (case hn => repeat' (first | exact List.forall_mem_nil _ | (refine' List.forall_mem_cons.mpr ⟨?_, ?_⟩) | k_mem)); (case hp => exact ⟨hj1, hj2, by rw [hj3, hst]; rfl⟩))
      · have hst := preLen_end2 (xs := al.reverse) (ys := bl.reverse) (k := j) (by simp only [List.length_take, List.length_drop, List.length_reverse] at *; (first | lia | omega))
        k_dflt (refine' wExit ?F ?N ?hk ?hn ?hp; (case F => k_asm); (case N => k_asm); (case hk => repeat' (first | exact List.forall_mem_nil _ | (refine' List.forall_mem_cons.mpr ⟨?_, ?_⟩) | exact rfl)); (case hn => repeat' (first | exact List.forall_mem_nil _ | (refine' List.forall_mem_cons.mpr ⟨?_, ?_⟩) | k_mem)); (case hp => exact ⟨hj1, hj2, by rw [hj3, hst]; rfl⟩))
      · have hst := preLen_end1 (xs := al.reverse) (ys := bl.reverse) (k := j) (by simp only [List.length_take, List.length_drop, List.length_reverse] at *; (first | lia | omega))
        k_dflt (refine' wExit ?F ?N ?hk ?hn ?hp; (case F => k_asm); (case N => k_asm); (case hk => repeat' (first | exact List.forall_mem_nil _ | (refine' List.forall_mem_cons.mpr ⟨?_, ?_⟩) | exact rfl)); (case hn => repeat' (first | exact List.forall_mem_nil _ | (refine' List.forall_mem_cons.mpr ⟨?_, ?_⟩) | k_mem)); (case hp => exact ⟨hj1, hj2, by rw [hj3, hst]; rfl⟩))
    case done =>
      intro c u h tk hP F1 N1
      obtain ⟨j, tc⟩ := c
      dsimp only at hP F1
      obtain ⟨hj1, hj2, hj3⟩ := hP
      have e1 : cutEnd al bl = al.take (al.length - j) := by unfold cutEnd; rw [hj3]
      have e2 : cutEnd2 al bl = bl.take (bl.length - j) := by unfold cutEnd2; rw [hj3]
      rw [e1, e2] at htgt
      have la2 : (al.take (al.length - j)).length ≤ 100 := by rw [List.length_take]; (first | lia | omega)
      have lb2 : (bl.take (bl.length - j)).length ≤ 100 := by rw [List.length_take]; (first | lia | omega)
      clear e1 e2 hj3
      repeat' (first | (k_unfold; (try dsimp only)) | walk1 | (dsimp only; walk1))
      · try dsimp only
        exact hret _ _ _ _ ⟨rfl, _, congrArg (fun z => Value.int z _) (lev1_c htgt (by assumption) (by assumption) (by assumption))⟩ (Fr.keep (by k_asm)) outE
      · try dsimp only
        exact hret _ _ _ _ ⟨rfl, _, congrArg (fun z => Value.int z _) (lev1_d htgt (by assumption) (by assumption) (by assumption) (by assumption))⟩ (Fr.keep (by k_asm)) outE
      · refine goOn (ifJ (J := SwapJ g L' s target mc tm) ?_ ?_)
        · repeat' (first | (k_unfold; (try dsimp only)) | walk1 | (dsimp only; walk1))
          · exact swJ (by k_asm) (by repeat' (first | exact List.forall_mem_nil _ | (refine' List.forall_mem_cons.mpr ⟨?_, ?_⟩) | exact rfl)) (by (first | lia | omega)) (by (first | lia | omega)) (by assumption) (lev1_e htgt (by assumption) (by assumption) (by assumption) (by assumption) (by assumption))
          · exact swJ (by k_asm) (by repeat' (first | exact List.forall_mem_nil _ | (refine' List.forall_mem_cons.mpr ⟨?_, ?_⟩) | exact rfl)) (by (first | lia | omega)) (by (first | lia | omega)) (by assumption) (lev1_f htgt (by assumption) (by assumption) (by assumption) (by assumption) (by assumption))
        · clear htgt la2 lb2 la lb hj1 hj2 hk1 hk2
          rintro s' ⟨al, bl, ta, tb, h', tk, u, rfl, F1, h1, h2, h3, htgt⟩
          have N1 : News g L' h' [] := fun _ q => nomatch q
          have i1 : Is ((al.length : Int) + 1) ((al.length + 1 : Nat) : Int) := by unfold Is; (first | lia | omega)
          have i2 : Is (2 * ((al.length + 1 : Nat) : Int)) ((2 * (al.length + 1) : Nat) : Int) := by unfold Is; (first | lia | omega)
          repeat' (first | (k_unfold; (try dsimp only)) | walk1 | (dsimp only; walk1))
          · try dsimp only
            exact hret _ _ _ _ ⟨rfl, _, congrArg (fun z => Value.int z _) ((lev2_a (by assumption)).trans htgt.symm)⟩ (Fr.keep (by k_asm)) outE
          have hT : levDP al bl mc = target := (htgt.trans (lev2_b (by assumption))).symm
          rename_i D0 us0 c0 _ _ iX0 _ _ _ _ _ _ _ _ _ _ _ _ _ _ _
          refine goOn ?_
          k_dflt (refine' loopRng (σ := RowSt) (fun c => [(D0, listOf c.vs.toArray c.e)]) (fun c => [("a", .str (S al) ta), ("b", .str (S bl) tb), ("max_cost", .int mc tm), ("row", .ref D0), ("result", .int c.res c.tr)]) (PO al bl mc target) ⟨us0, ((List.range al.length).map fun i : Nat => (2 * ((i : Int) + 1))), c0, 0, _⟩ ?hh ?hr ?hn ?F ?N ?hk ?hp ?turn ?done; (case hh => exact rfl); (case hr => assumption); (case hn => (first | lia | omega)); (case F => k_asm); (case N => k_asm); (case hk => repeat' (first | exact List.forall_mem_nil _ | (refine' List.forall_mem_cons.mpr ⟨?_, ?_⟩) | exact rfl)); (case hp => exact ⟨iX0, by simp, hT⟩))
          case turn =>
            intro i ti c u h tk own hi ho hP F1 N1
            obtain ⟨vs, ns, e, res, tr⟩ := c
            obtain ⟨hP1, hP2, hP3⟩ := hP
            dsimp only at hP1 hP2 hP3 F1 N1
            repeat' (first | (k_unfold; (try dsimp only)) | walk1 | (dsimp only; walk1))
            rename_i tch _ _ _ _ _ _ _ _ _ _ _ _ _ _ _ _ _ _
            refine goOn ?_
            k_dflt (refine' loopRng (σ := InSt) (fun c => (D0, listOf c.vs.toArray c.e) :: own) (fun c => [("a", .str (S al) ta), ("b", .str (S bl) tb), ("max_cost", .int mc tm), ("row", .ref D0), ("bchar", .str (S [bl.getD i 0]) tch), ("distance", .int c.dist c.td), ("result", .int c.res c.tr), ("minimum", .int c.mn c.tmn)]) (PI (bl.getD i 0) al ns ((i : Int) * 2) ((i : Int) * 2) 9223372036854775807) ⟨vs, [], e, (i : Int) * 2, _, (i : Int) * 2, _, 9223372036854775807, _⟩ ?hh2 ?hr2 ?hn2 ?F2 ?N2 ?hk2 ?hp2 ?turn2 ?done2; (case hh2 => exact rfl); (case hr2 => assumption); (case hn2 => (first | lia | omega)); (case F2 => k_asm); (case N2 => k_asm); (case hk2 => repeat' (first | exact List.forall_mem_nil _ | (refine' List.forall_mem_cons.mpr ⟨?_, ?_⟩) | exact rfl)); (case hp2 => exact ⟨hP1, rfl, rfl⟩))
            case turn2 =>
              intro j tj c u h tk own2 hj ho2 hQ F2 N2
              have hst := @inner_step _ _ _ _ _ _ j c hQ hj hP2
              obtain ⟨vsj, done, ej, dj, tdj, rj, trj, mnj, tmj⟩ := c
              obtain ⟨hQ1, hQ2, -⟩ := hQ
              dsimp only at hQ1 hQ2 F2 N2 hst
              have hlen : (done ++ List.drop j ns).length = al.length := by rw [List.length_append, List.length_drop, hQ2, hP2]; (first | lia | omega)
              rw [List.cons_append] at N2
              have hoff : ∀ q ∈ own ++ own2, q.1 ≠ D0 := fun q hq => (List.mem_append.mp hq).elim (fun z => ho q z _ (.head _)) fun z => ho2 q z _ (.head _)
              have hin1 : ∀ q ∈ own, q ∈ own ++ own2 := fun q hq => List.mem_append_left _ hq
              have hin2 : ∀ q ∈ own2, q ∈ own ++ own2 := fun q hq => List.mem_append_right _ hq
              generalize own ++ own2 = ow at N2 hoff hin1 hin2
              repeat' (first | (k_unfold; (try dsimp only)) | walk1 | (dsimp only; walk1))
              · k_dflt (refine' turnEndN ⟨_, _, ej, _, _, _, _, _, _⟩ ?Fz0 ?Nz0 ?hkz0 ?hnz0 ?hoz0 ?haz0 ?hpz0; (case Fz0 => k_asm); (case Nz0 => k_asm); (case hkz0 => repeat' (first | exact List.forall_mem_nil _ | (refine' List.forall_mem_cons.mpr ⟨?_, ?_⟩) | exact rfl)); (case hnz0 => exact List.forall_mem_cons.mpr ⟨by k_mem, fun p hp => List.mem_cons_of_mem _ (hin1 p hp)⟩); (case hoz0 => exact fun p hp => List.mem_cons_of_mem _ (hin2 p hp)); (case haz0 => exact rfl); (case hpz0 => exact hst rfl rfl (by assumption) (if_pos (by assumption)).symm))
              · k_dflt (refine' turnEndN ⟨_, _, ej, _, _, _, _, _, _⟩ ?Fz1 ?Nz1 ?hkz1 ?hnz1 ?hoz1 ?haz1 ?hpz1; (case Fz1 => k_asm); (case Nz1 => k_asm); (case hkz1 => repeat' (first | exact List.forall_mem_nil _ | (refine' List.forall_mem_cons.mpr ⟨?_, ?_⟩) | exact rfl)); (case hnz1 => exact List.forall_mem_cons.mpr ⟨by k_mem, fun p hp => List.mem_cons_of_mem _ (hin1 p hp)⟩); (case hoz1 => exact fun p hp => List.mem_cons_of_mem _ (hin2 p hp)); (case haz1 => exact rfl); (case hpz1 => exact hst rfl rfl (by assumption) (if_neg (by assumption)).symm))
            case done2 =>
              intro c u h tk hQ F2 N2
              obtain ⟨hE1, hE2, hE3⟩ := inner_end hQ hP2
              obtain ⟨hO1, hO2⟩ := outer_step hi hP3 hE3
              obtain ⟨vsj, done, ej, dj, tdj, rj, trj, mnj, tmj⟩ := c
              clear hQ
              dsimp only at hE1 hE2 hE3 hO1 hO2 F2 N2
              repeat' (first | (k_unfold; (try dsimp only)) | walk1 | (dsimp only; walk1))
              · exact hret _ _ _ _ ⟨rfl, _, congrArg (fun z => Value.int z _) (hO1 (by assumption))⟩ (Fr.keep (by k_asm)) outE
              · k_dflt (refine' turnEndN ⟨vsj, done, ej, rj, trj⟩ ?Fy ?Ny ?hky ?hny ?hoy ?hay ?hpy; (case Fy => k_asm); (case Ny => k_asm); (case hky => repeat' (first | exact List.forall_mem_nil _ | (refine' List.forall_mem_cons.mpr ⟨?_, ?_⟩) | exact rfl)); (case hny => repeat' (first | exact List.forall_mem_nil _ | (refine' List.forall_mem_cons.mpr ⟨?_, ?_⟩) | k_mem)); (case hoy => (intro p hp; k_ownIn)); (case hay => exact rfl); (case hpy => exact ⟨hE1, hE2, hO2 (by assumption)⟩))
          case done =>
            intro c u h tk hP F1 N1
            obtain ⟨vs, ns, e, res, tr⟩ := c
            obtain ⟨hP1, hP2, hP3⟩ := hP
            dsimp only at hP1 hP2 hP3 F1 N1
            repeat' (first | (k_unfold; (try dsimp only)) | walk1 | (dsimp only; walk1))
            dsimp only
            rw [List.drop_length] at hP3
            exact hret _ _ _ _ ⟨rfl, _, congrArg (fun z => Value.int z _) hP3⟩ (Fr.keep (by k_asm)) outE
      · try dsimp only
        exact hret _ _ _ _ ⟨rfl, _, congrArg (fun z => Value.int z _) (lev1_b htgt (by assumption) (by assumption))⟩ (Fr.keep (by k_asm)) outE
      · try dsimp only
        exact hret _ _ _ _ ⟨rfl, _, congrArg (fun z => Value.int z _) (lev1_a htgt (by assumption))⟩ (Fr.keep (by k_asm)) outE
end Mine
namespace Mine
theorem genT {M : Model} {A : Around} {α : Type} {t : Sem α} {Q : α → Shared → Prop} {E : Value → Shared → Prop} {hp : Heap} {k : Nat} {s : Shared} (h : ∀ tk, tk ≠ 0 → wpAny M A t Q E { s with heap := hp, toks := tk }) : wpAny M A t Q E { s with heap := hp, toks := k + 1 } := h _ (Nat.succ_ne_zero _)
end Mine
theorem Mine.rows4_0 : True := by
  k_with_none
  (k_with "call builtin:max" => (k_here; (with_reducible show wpAny _ _ (call (Value.builtin _) [Value.int _ _, Value.int _ _, Value.int _ _]) _ _ _); (with_unfolding_all refine' Mine.max3 ?zz_k1 ?zz_k2 ?zz_k3 ?_; (case zz_k1 => rfl); (case zz_k2 => k_asm); (case zz_k3 => k_asm); k_whole); intro _ _ _ _ _))
  (k_with "call builtin:min" => (k_here; (with_reducible show wpAny _ _ (call (Value.builtin _) [Value.int _ _, Value.int _ _, Value.int _ _]) _ _ _); (with_unfolding_all refine' Mine.min3 ?zz_k1 ?zz_k2 ?zz_k3 ?_; (case zz_k1 => rfl); (case zz_k2 => k_asm); (case zz_k3 => k_asm); k_whole); intro _ _ _ _ _))
  (k_with "binaryOp Mult ref int" => (k_here; k_dflt (refine' Mine.mulOne ?zz_k1 ?zz_k2 ?zz_k3 ?zz_k4 ?zz_k5 ?_; (case zz_k1 => k_asm); (case zz_k2 => k_asm); (case zz_k3 => k_mem); (case zz_k4 => first | (first | lia | omega) | assumption | l_fact); (case zz_k5 => first | (first | lia | omega) | assumption | l_fact); k_whole); intro _ _ _ _ _ l1 _; (try k_lt l1); (try k_sweep)))
  (k_with "call builtin:divmod" => (k_here; (with_reducible show wpAny _ _ (call (Value.builtin _) [Value.int _ _, Value.int _ _]) _ _ _); refine divmod_N (by assumption) (by assumption) (by side_arith) ?_; intro _ _ _))
  (k_with "call builtin:len" => (k_here; (with_reducible show wpAny _ _ (call (Value.builtin _) [Value.ref _]) _ _ _); k_dflt (refine' Mine.lenN ?zz_k1 ?zz_k2 ?zz_k3 ?zz_k4 ?_; (case zz_k1 => k_asm); (case zz_k2 => k_mem); (case zz_k3 => with_reducible assumption); (case zz_k4 => ((try simp only [List.length_append, List.length_cons, List.length_nil, List.length_replicate, List.length_map]); (first | lia | omega))); k_whole); intro _ _))
  (k_with "binaryOp Sub int int" => (k_here; with_reducible refine' Mine.subIs ?zz_k1 ?_; (case zz_k1 => assumption)))
  (k_with "binaryOp Add int int" => (k_here; with_reducible refine' Mine.addIs ?zz_k1 ?_; (case zz_k1 => assumption)))
  (k_with "binaryOp Mult int int" => (k_here; with_reducible refine' Mine.mulIs ?zz_k1 ?zz_k2 ?_; (case zz_k1 => assumption); (case zz_k2 => exact Mine.bits64 (by (first | lia | omega)))))
  (k_with "binaryOp RShift int int" => (k_here; with_reducible refine' Mine.shrIs ?zz_k1 ?zz_k2 ?_; (case zz_k1 => assumption); (case zz_k2 => (first | lia | omega))))
  (k_with "binaryOp LShift int int" => (k_here; with_reducible refine' Mine.shlIs ?zz_k1 ?zz_k2 ?zz_k3 ?zz_k4 ?_; (case zz_k1 => assumption); (case zz_k2 => (first | lia | omega)); (case zz_k3 => (first | lia | omega)); (case zz_k4 => (first | lia | omega))))
  (k_with "binaryOp BitXor int int" => (k_here; with_reducible refine' Mine.xorIs ?zz_k1 ?_; (case zz_k1 => assumption)))
  (k_with "exec FunctionDef" => (k_here; kn_here; k_dflt (refine' nestDef_K ?zz_d0 ?zz_k0 ?zz_a0 ?_; (case zz_d0 => exact rfl); (case zz_k0 => exact rfl); (case zz_a0 => exact rfl)); (k_dflt (refine' Mine.nestBoth ?zz_F ?zz_N ?zz_T ?zz_C ?zz_cd ?zz_hs ?zz_ht ?zz_hP ?zz_hc ?zz_cl ?_; (case zz_F => k_asm); (case zz_N => k_asm); (case zz_T => k_asm); (case zz_cd => exact rfl); (case zz_C => kn_code); (case zz_hs => exact rfl); (case zz_ht => assumption); (case zz_hP => (dsimp only [List.dropLast]; k_all)); (case zz_hc => (dsimp only [List.dropLast]; k_all)); (case zz_cl => exact rfl); k_whole); intro _ _ _ _ _ _ _ _ _ _ N' _ _ l1 l2 _ _ _; (dsimp only [List.dropLast, List.append, HAppend.hAppend, Append.append] at N' l1 l2); (simp only [List.forall_mem_cons, List.forall_mem_nil, and_true] at l1 l2); (repeat (obtain ⟨_, l1⟩ := l1)); (repeat (obtain ⟨_, l2⟩ := l2)))))
  (k_with "call builtin:list.append" => (k_here; (with_reducible show wpAny _ _ (call (Value.builtin _) [Value.ref _, _]) _ _ _); k_dflt (refine' Mine.appendL ?zz_k1 ?zz_k2 ?zz_k3 ?zz_k4 ?_; (case zz_k1 => k_asm); (case zz_k2 => k_asm); (case zz_k3 => k_upd); (case zz_k4 => first | (first | lia | omega) | (simp only [List.length_nil, List.length_cons]; (first | lia | omega))); k_whole); intro _ _ _; (try k_sweep)))
  (k_with "call builtin:list.reverse" => (k_here; (with_reducible show wpAny _ _ (call (Value.builtin _) _) _ _ _); (try dsimp only); k_dflt (refine' Mine.reverseL ?zz_k1 ?zz_k2 ?zz_k3 ?zz_k4 ?zz_k5 ?_; (case zz_k1 => k_asm); (case zz_k2 => k_asm); (case zz_k3 => k_upd); (case zz_k4 => with_reducible assumption); (case zz_k5 => (first | lia | omega)); k_whole); intro _ _ _ _; (try k_sweep)))
  (k_with "unaryOp Invert int" => (k_here; with_reducible refine' Mine.invIs ?zz_k1 ?_; (case zz_k1 => assumption)))
  (k_with "execs cons" => (k_here; (with_reducible refine' Mine.genT (s := ⟨_, _, _, _, _⟩) ?_); intro _ _))
  (k_with "execs nil" => (k_here; (with_reducible refine' Mine.genT (s := ⟨_, _, _, _, _⟩) ?_); intro _ _))
  (k_with "execs cons" => (k_here; k_fold))
  (k_with "eval ListComp" => (k_here; k_fold))
  trivial
namespace Mine
noncomputable abbrev fr (a b : Int) : UInt64 := PySem.Float64.ofFrac (decide (a < 0) != decide (b < 0)) a.natAbs b.natAbs
noncomputable abbrev mx3 (r g b : Int) : Int := max (max r g) b
noncomputable abbrev mn3 (r g b : Int) : Int := min (min r g) b
noncomputable def hsvH (r g b : Int) : UInt64 :=
  if mn3 r g b = mx3 r g b then 0
  else if r = mx3 r g b then (PySem.Float64.divmod (PySem.Float64.div (PySem.Float64.sub (fr (mx3 r g b - b) (mx3 r g b - mn3 r g b)) (fr (mx3 r g b - g) (mx3 r g b - mn3 r g b))) 4618441417868443648) 4607182418800017408).2
  else if g = mx3 r g b then (PySem.Float64.divmod (PySem.Float64.div (PySem.Float64.sub (PySem.Float64.add 4611686018427387904 (fr (mx3 r g b - r) (mx3 r g b - mn3 r g b))) (fr (mx3 r g b - b) (mx3 r g b - mn3 r g b))) 4618441417868443648) 4607182418800017408).2
  else (PySem.Float64.divmod (PySem.Float64.div (PySem.Float64.sub (PySem.Float64.add 4616189618054758400 (fr (mx3 r g b - g) (mx3 r g b - mn3 r g b))) (fr (mx3 r g b - r) (mx3 r g b - mn3 r g b))) 4618441417868443648) 4607182418800017408).2
noncomputable def hsvS (r g b : Int) : UInt64 := if mn3 r g b = mx3 r g b then 0 else fr (mx3 r g b - mn3 r g b) (mx3 r g b)
noncomputable def HsvOk (r g b : Int) : Prop := mn3 r g b ≠ mx3 r g b → mx3 r g b ≠ 0 ∧ PySem.Float64.isInf (fr (mx3 r g b - mn3 r g b) (mx3 r g b)) = false ∧ PySem.Float64.isInf (fr (mx3 r g b - r) (mx3 r g b - mn3 r g b)) = false ∧ PySem.Float64.isInf (fr (mx3 r g b - g) (mx3 r g b - mn3 r g b)) = false ∧ PySem.Float64.isInf (fr (mx3 r g b - b) (mx3 r g b - mn3 r g b)) = false
noncomputable instance (r g b : Int) : Decidable (HsvOk r g b) := by unfold HsvOk; infer_instance
section
variable {r g b : Int}
theorem hsvH_0 (h : mn3 r g b = mx3 r g b) : 0 = hsvH r g b := by unfold hsvH; rw [if_pos h]
theorem hsvS_0 (h : mn3 r g b = mx3 r g b) : 0 = hsvS r g b := by unfold hsvS; rw [if_pos h]
theorem hsvS_1 (h : mn3 r g b ≠ mx3 r g b) : fr (mx3 r g b - mn3 r g b) (mx3 r g b) = hsvS r g b := by unfold hsvS; rw [if_neg h]
theorem hsvH_1 (h : mn3 r g b ≠ mx3 r g b) (h1 : r = mx3 r g b) : (PySem.Float64.divmod (PySem.Float64.div (PySem.Float64.sub (fr (mx3 r g b - b) (mx3 r g b - mn3 r g b)) (fr (mx3 r g b - g) (mx3 r g b - mn3 r g b))) 4618441417868443648) 4607182418800017408).2 = hsvH r g b := by unfold hsvH; rw [if_neg h, if_pos h1]
theorem hsvH_2 (h : mn3 r g b ≠ mx3 r g b) (h1 : r ≠ mx3 r g b) (h2 : g = mx3 r g b) : (PySem.Float64.divmod (PySem.Float64.div (PySem.Float64.sub (PySem.Float64.add 4611686018427387904 (fr (mx3 r g b - r) (mx3 r g b - mn3 r g b))) (fr (mx3 r g b - b) (mx3 r g b - mn3 r g b))) 4618441417868443648) 4607182418800017408).2 = hsvH r g b := by unfold hsvH; rw [if_neg h, if_neg h1, if_pos h2]
theorem hsvH_3 (h : mn3 r g b ≠ mx3 r g b) (h1 : r ≠ mx3 r g b) (h2 : g ≠ mx3 r g b) : (PySem.Float64.divmod (PySem.Float64.div (PySem.Float64.sub (PySem.Float64.add 4616189618054758400 (fr (mx3 r g b - g) (mx3 r g b - mn3 r g b))) (fr (mx3 r g b - r) (mx3 r g b - mn3 r g b))) 4618441417868443648) 4607182418800017408).2 = hsvH r g b := by unfold hsvH; rw [if_neg h, if_neg h1, if_neg h2]
end
theorem hsv_spec (w : World) (r g b : Int) (tr tg tb : Tok) (hok : HsvOk r g b) : C3 w 63 3 40 [] [.int r tr, .int g tg, .int b tb]
    (fun v n' => ∃ D x y t1 t2 t3, v = .ref D ∧ n' = [(D, tupOf [.float x t1, .float y t2, .int (mx3 r g b) t3])] ∧ x = hsvH r g b ∧ y = hsvS r g b ∧ (mn3 r g b ≠ mx3 r g b → t2 ≠ 0)) := by
  intro p loose mean mg mb dp un gd fr base g s R B X T st sz N hd hu hret
  k_dflt (refine' enterP ?k1 ?kst ?ksz ?kN ?kX ?kT ?k6 ?k7 ?k8 ?k9 ?kB ?_ ?c2 ?c3 ?c4 ?c5; (case k1 => exact B); (case kst => exact st); (case ksz => exact sz); (case kN => exact N); (case kX => exact X); (case kT => exact T); (case k6 => k_is); (case k7 => k_is); (case k8 => ktr_room); (case k9 => exact BindsTo.of_eq rfl); (case c5 => decide); (case kB => exact locs rfl); (case c2 => exact rfl); (case c3 => exact rfl); (case c4 => exact rfl); k_whole; intro L' h' F' N' l0; (try dsimp only); (try k_lt l0); (try k_fold))
  repeat' (first | (k_unfold; (try dsimp only)) | walk1 | (dsimp only; walk1))
  · exact hret _ _ _ _ ⟨_, _, _, _, _, _, rfl, rfl, hsvH_0 (by assumption), hsvS_0 (by assumption), fun h => absurd (by assumption) h⟩ (Fr.keep (by k_asm)) (out (by k_asm))
  · exact absurd (by assumption) (hok (by assumption)).1
  · exact absurd ((hok (by assumption)).2.1.symm.trans (by assumption)) Bool.false_ne_true
  · exact absurd ((hok (by assumption)).2.2.1.symm.trans (by assumption)) Bool.false_ne_true
  · exact absurd ((hok (by assumption)).2.2.2.1.symm.trans (by assumption)) Bool.false_ne_true
  · exact absurd ((hok (by assumption)).2.2.2.2.symm.trans (by assumption)) Bool.false_ne_true
  · k_dflt (refine' hret _ _ _ _ ⟨_, _, _, _, _, _, rfl, rfl, hsvH_1 (by assumption) (by assumption), hsvS_1 (by assumption), ?t⟩ (Fr.keep ?F) (out ?N); (case F => k_asm); (case N => k_asm); (case t => (intro _; assumption)))
  · k_dflt (refine' hret _ _ _ _ ⟨_, _, _, _, _, _, rfl, rfl, hsvH_2 (by assumption) (by assumption) (by assumption), hsvS_1 (by assumption), ?t⟩ (Fr.keep ?F) (out ?N); (case F => k_asm); (case N => k_asm); (case t => (intro _; assumption)))
  · k_dflt (refine' hret _ _ _ _ ⟨_, _, _, _, _, _, rfl, rfl, hsvH_3 (by assumption) (by assumption) (by assumption), hsvS_1 (by assumption), ?t⟩ (Fr.keep ?F) (out ?N); (case F => k_asm); (case N => k_asm); (case t => (intro _; assumption)))
end Mine
theorem Mine.rows5_0 : True := by
  k_with_none
  (k_with "call builtin:max" => (k_here; (with_reducible show wpAny _ _ (call (Value.builtin _) [Value.int _ _, Value.int _ _, Value.int _ _]) _ _ _); (with_unfolding_all refine' Mine.max3 ?zz_k1 ?zz_k2 ?zz_k3 ?_; (case zz_k1 => rfl); (case zz_k2 => k_asm); (case zz_k3 => k_asm); k_whole); intro _ _ _ _ _))
  (k_with "call builtin:min" => (k_here; (with_reducible show wpAny _ _ (call (Value.builtin _) [Value.int _ _, Value.int _ _, Value.int _ _]) _ _ _); (with_unfolding_all refine' Mine.min3 ?zz_k1 ?zz_k2 ?zz_k3 ?_; (case zz_k1 => rfl); (case zz_k2 => k_asm); (case zz_k3 => k_asm); k_whole); intro _ _ _ _ _))
  (k_with "binaryOp Mult ref int" => (k_here; k_dflt (refine' Mine.mulOne ?zz_k1 ?zz_k2 ?zz_k3 ?zz_k4 ?zz_k5 ?_; (case zz_k1 => k_asm); (case zz_k2 => k_asm); (case zz_k3 => k_mem); (case zz_k4 => first | (first | lia | omega) | assumption | l_fact); (case zz_k5 => first | (first | lia | omega) | assumption | l_fact); k_whole); intro _ _ _ _ _ l1 _; (try k_lt l1); (try k_sweep)))
  (k_with "call builtin:divmod" => (k_here; (with_reducible show wpAny _ _ (call (Value.builtin _) [Value.int _ _, Value.int _ _]) _ _ _); refine divmod_N (by assumption) (by assumption) (by side_arith) ?_; intro _ _ _))
  (k_with "call builtin:len" => (k_here; (with_reducible show wpAny _ _ (call (Value.builtin _) [Value.ref _]) _ _ _); k_dflt (refine' Mine.lenN ?zz_k1 ?zz_k2 ?zz_k3 ?zz_k4 ?_; (case zz_k1 => k_asm); (case zz_k2 => k_mem); (case zz_k3 => with_reducible assumption); (case zz_k4 => ((try simp only [List.length_append, List.length_cons, List.length_nil, List.length_replicate, List.length_map]); (first | lia | omega))); k_whole); intro _ _))
  (k_with "binaryOp Sub int int" => (k_here; with_reducible refine' Mine.subIs ?zz_k1 ?_; (case zz_k1 => assumption)))
  (k_with "binaryOp Add int int" => (k_here; with_reducible refine' Mine.addIs ?zz_k1 ?_; (case zz_k1 => assumption)))
  (k_with "binaryOp Mult int int" => (k_here; with_reducible refine' Mine.mulIs ?zz_k1 ?zz_k2 ?_; (case zz_k1 => assumption); (case zz_k2 => exact Mine.bits64 (by (first | lia | omega)))))
  (k_with "binaryOp RShift int int" => (k_here; with_reducible refine' Mine.shrIs ?zz_k1 ?zz_k2 ?_; (case zz_k1 => assumption); (case zz_k2 => (first | lia | omega))))
  (k_with "binaryOp LShift int int" => (k_here; with_reducible refine' Mine.shlIs ?zz_k1 ?zz_k2 ?zz_k3 ?zz_k4 ?_; (case zz_k1 => assumption); (case zz_k2 => (first | lia | omega)); (case zz_k3 => (first | lia | omega)); (case zz_k4 => (first | lia | omega))))
  (k_with "binaryOp BitXor int int" => (k_here; with_reducible refine' Mine.xorIs ?zz_k1 ?_; (case zz_k1 => assumption)))
  (k_with "exec FunctionDef" => (k_here; kn_here; k_dflt (refine' nestDef_K ?zz_d0 ?zz_k0 ?zz_a0 ?_; (case zz_d0 => exact rfl); (case zz_k0 => exact rfl); (case zz_a0 => exact rfl)); (k_dflt (refine' Mine.nestBoth ?zz_F ?zz_N ?zz_T ?zz_C ?zz_cd ?zz_hs ?zz_ht ?zz_hP ?zz_hc ?zz_cl ?_; (case zz_F => k_asm); (case zz_N => k_asm); (case zz_T => k_asm); (case zz_cd => exact rfl); (case zz_C => kn_code); (case zz_hs => exact rfl); (case zz_ht => assumption); (case zz_hP => (dsimp only [List.dropLast]; k_all)); (case zz_hc => (dsimp only [List.dropLast]; k_all)); (case zz_cl => exact rfl); k_whole); intro _ _ _ _ _ _ _ _ _ _ N' _ _ l1 l2 _ _ _; (dsimp only [List.dropLast, List.append, HAppend.hAppend, Append.append] at N' l1 l2); (simp only [List.forall_mem_cons, List.forall_mem_nil, and_true] at l1 l2); (repeat (obtain ⟨_, l1⟩ := l1)); (repeat (obtain ⟨_, l2⟩ := l2)))))
  (k_with "call builtin:list.append" => (k_here; (with_reducible show wpAny _ _ (call (Value.builtin _) [Value.ref _, _]) _ _ _); k_dflt (refine' Mine.appendL ?zz_k1 ?zz_k2 ?zz_k3 ?zz_k4 ?_; (case zz_k1 => k_asm); (case zz_k2 => k_asm); (case zz_k3 => k_upd); (case zz_k4 => first | (first | lia | omega) | (simp only [List.length_nil, List.length_cons]; (first | lia | omega))); k_whole); intro _ _ _; (try k_sweep)))
  (k_with "call builtin:list.reverse" => (k_here; (with_reducible show wpAny _ _ (call (Value.builtin _) _) _ _ _); (try dsimp only); k_dflt (refine' Mine.reverseL ?zz_k1 ?zz_k2 ?zz_k3 ?zz_k4 ?zz_k5 ?_; (case zz_k1 => k_asm); (case zz_k2 => k_asm); (case zz_k3 => k_upd); (case zz_k4 => with_reducible assumption); (case zz_k5 => (first | lia | omega)); k_whole); intro _ _ _ _; (try k_sweep)))
  (k_with "unaryOp Invert int" => (k_here; with_reducible refine' Mine.invIs ?zz_k1 ?_; (case zz_k1 => assumption)))
  (k_with "execs cons" => (k_here; k_fold))
  (k_with "eval ListComp" => (k_here; k_fold))
  trivial
namespace Mine
inductive FI where
  | i (n : Int)
  | f (b : UInt64)
noncomputable def FI.val : FI → Tok → Value
  | .i n, t => .int n t
  | .f b, t => .float b t
noncomputable abbrev one64 : UInt64 := 4607182418800017408
noncomputable abbrev h6 (h : UInt64) : UInt64 := PySem.Float64.mul h 4618441417868443648
noncomputable abbrev i6 (h : UInt64) : Int := PySem.Flt.toInt PySem.Float64.truncOf (h6 h)
noncomputable abbrev f6 (h : UInt64) : UInt64 := PySem.Float64.sub (h6 h) (PySem.Float64.ofInt (i6 h))
noncomputable abbrev rgbP (y v : UInt64) : UInt64 := PySem.Float64.mul v (PySem.Float64.sub one64 y)
noncomputable abbrev rgbQ (h y v : UInt64) : UInt64 := PySem.Float64.mul v (PySem.Float64.sub one64 (PySem.Float64.mul y (f6 h)))
noncomputable abbrev rgbT (h y v : UInt64) : UInt64 := PySem.Float64.mul v (PySem.Float64.sub one64 (PySem.Float64.mul y (PySem.Float64.sub one64 (f6 h))))
noncomputable def rgbF (c : Bool) (h y : UInt64) (v : Int) : FI × FI × FI :=
  if c = true then (.i v, .i v, .i v)
  else if (i6 h).fmod 6 = 0 then (.i v, .f (rgbT h y (PySem.Float64.ofInt v)), .f (rgbP y (PySem.Float64.ofInt v)))
  else if (i6 h).fmod 6 = 1 then (.f (rgbQ h y (PySem.Float64.ofInt v)), .i v, .f (rgbP y (PySem.Float64.ofInt v)))
  else if (i6 h).fmod 6 = 2 then (.f (rgbP y (PySem.Float64.ofInt v)), .i v, .f (rgbT h y (PySem.Float64.ofInt v)))
  else if (i6 h).fmod 6 = 3 then (.f (rgbP y (PySem.Float64.ofInt v)), .f (rgbQ h y (PySem.Float64.ofInt v)), .i v)
  else if (i6 h).fmod 6 = 4 then (.f (rgbT h y (PySem.Float64.ofInt v)), .f (rgbP y (PySem.Float64.ofInt v)), .i v)
  else (.i v, .f (rgbP y (PySem.Float64.ofInt v)), .f (rgbQ h y (PySem.Float64.ofInt v)))
noncomputable def RgbOk (c : Bool) (h : UInt64) (v : Int) : Prop := c = false → PySem.Float64.isNaN (h6 h) = false ∧ PySem.Float64.isInf (h6 h) = false ∧ ¬ (2 ^ 1024 - 2 ^ 970 ≤ (i6 h).natAbs) ∧ ¬ (2 ^ 1024 - 2 ^ 970 ≤ v.natAbs)
noncomputable instance (c : Bool) (h : UInt64) (v : Int) : Decidable (RgbOk c h v) := by unfold RgbOk; infer_instance
theorem six {z : Int} (h0 : z.fmod 6 ≠ 0) (h1 : z.fmod 6 ≠ 1) (h2 : z.fmod 6 ≠ 2) (h3 : z.fmod 6 ≠ 3) (h4 : z.fmod 6 ≠ 4) (h5 : z.fmod 6 ≠ 5) : False := by
  rw [Int.fmod_eq_emod_of_nonneg _ (by decide)] at *
  (first | lia | omega)
section
variable {c : Bool} {h y : UInt64} {v : Int}
theorem rgb_g (e : c = true) : rgbF c h y v = (.i v, .i v, .i v) := by unfold rgbF; rw [if_pos e]
theorem ne_t {b : Bool} (e : b = false) : ¬ b = true := by rw [e]; decide
theorem rgb_0 (e : c = false) (a : (i6 h).fmod 6 = 0) : rgbF c h y v = (.i v, .f (rgbT h y (PySem.Float64.ofInt v)), .f (rgbP y (PySem.Float64.ofInt v))) := by unfold rgbF; rw [if_neg (ne_t e), if_pos a]
theorem rgb_1 (e : c = false) (a : (i6 h).fmod 6 = 1) : rgbF c h y v = (.f (rgbQ h y (PySem.Float64.ofInt v)), .i v, .f (rgbP y (PySem.Float64.ofInt v))) := by unfold rgbF; rw [if_neg (ne_t e), if_neg (by rw [a]; decide), if_pos a]
theorem rgb_2 (e : c = false) (a : (i6 h).fmod 6 = 2) : rgbF c h y v = (.f (rgbP y (PySem.Float64.ofInt v)), .i v, .f (rgbT h y (PySem.Float64.ofInt v))) := by unfold rgbF; rw [if_neg (ne_t e), if_neg (by rw [a]; decide), if_neg (by rw [a]; decide), if_pos a]
theorem rgb_3 (e : c = false) (a : (i6 h).fmod 6 = 3) : rgbF c h y v = (.f (rgbP y (PySem.Float64.ofInt v)), .f (rgbQ h y (PySem.Float64.ofInt v)), .i v) := by unfold rgbF; rw [if_neg (ne_t e), if_neg (by rw [a]; decide), if_neg (by rw [a]; decide), if_neg (by rw [a]; decide), if_pos a]
theorem rgb_4 (e : c = false) (a : (i6 h).fmod 6 = 4) : rgbF c h y v = (.f (rgbT h y (PySem.Float64.ofInt v)), .f (rgbP y (PySem.Float64.ofInt v)), .i v) := by unfold rgbF; rw [if_neg (ne_t e), if_neg (by rw [a]; decide), if_neg (by rw [a]; decide), if_neg (by rw [a]; decide), if_neg (by rw [a]; decide), if_pos a]
theorem rgb_5 (e : c = false) (a : (i6 h).fmod 6 = 5) : rgbF c h y v = (.i v, .f (rgbP y (PySem.Float64.ofInt v)), .f (rgbQ h y (PySem.Float64.ofInt v))) := by unfold rgbF; rw [if_neg (ne_t e), if_neg (by rw [a]; decide), if_neg (by rw [a]; decide), if_neg (by rw [a]; decide), if_neg (by rw [a]; decide), if_neg (by rw [a]; decide)]
end
theorem rgb_spec (w : World) (h y : UInt64) (v : Int) (th ty tv : Tok) (hok : RgbOk (PySem.Float64.cmp y 0 == some Ordering.eq) h v) : C3 w 70 3 40 [] [.float h th, .float y ty, .int v tv]
    (fun z n' => ∃ D x1 x2 x3 t1 t2 t3, z = .ref D ∧ n' = [(D, tupOf [FI.val x1 t1, FI.val x2 t2, FI.val x3 t3])] ∧ rgbF (PySem.Float64.cmp y 0 == some Ordering.eq) h y v = (x1, x2, x3)) := by
  intro p loose mean mg mb dp un gd fr base g s R B X T st sz N hd hu hret
  k_dflt (refine' enterP ?k1 ?kst ?ksz ?kN ?kX ?kT ?k6 ?k7 ?k8 ?k9 ?kB ?_ ?c2 ?c3 ?c4 ?c5; (case k1 => exact B); (case kst => exact st); (case ksz => exact sz); (case kN => exact N); (case kX => exact X); (case kT => exact T); (case k6 => k_is); (case k7 => k_is); (case k8 => ktr_room); (case k9 => exact BindsTo.of_eq rfl); (case c5 => decide); (case kB => exact locs rfl); (case c2 => exact rfl); (case c3 => exact rfl); (case c4 => exact rfl); k_whole; intro L' h' F' N' l0; (try dsimp only); (try k_lt l0); (try k_fold))
  repeat' (first | (k_unfold; (try dsimp only)) | walk1 | (dsimp only; walk1))
  · exact hret _ _ _ _ ⟨_, .i v, .i v, .i v, _, _, _, rfl, rfl, rgb_g (by assumption)⟩ (Fr.keep (by k_asm)) (out (by k_asm))
  · exact absurd ((hok (by assumption)).1.symm.trans (by assumption)) Bool.false_ne_true
  · exact absurd ((hok (by assumption)).2.1.symm.trans (by assumption)) Bool.false_ne_true
  · exact absurd (by assumption) (hok (by assumption)).2.2.1
  · exact absurd (by assumption) (hok (by assumption)).2.2.2
  · exact hret _ _ _ _ ⟨_, .i v, .f _, .f _, _, _, _, rfl, rfl, rgb_0 (by assumption) (by assumption)⟩ (Fr.keep (by k_asm)) (out (by k_asm))
  · exact hret _ _ _ _ ⟨_, .f _, .i v, .f _, _, _, _, rfl, rfl, rgb_1 (by assumption) (by assumption)⟩ (Fr.keep (by k_asm)) (out (by k_asm))
  · exact hret _ _ _ _ ⟨_, .f _, .i v, .f _, _, _, _, rfl, rfl, rgb_2 (by assumption) (by assumption)⟩ (Fr.keep (by k_asm)) (out (by k_asm))
  · exact hret _ _ _ _ ⟨_, .f _, .f _, .i v, _, _, _, rfl, rfl, rgb_3 (by assumption) (by assumption)⟩ (Fr.keep (by k_asm)) (out (by k_asm))
  · exact hret _ _ _ _ ⟨_, .f _, .f _, .i v, _, _, _, rfl, rfl, rgb_4 (by assumption) (by assumption)⟩ (Fr.keep (by k_asm)) (out (by k_asm))
  · exact hret _ _ _ _ ⟨_, .i v, .f _, .f _, _, _, _, rfl, rfl, rgb_5 (by assumption) (by assumption)⟩ (Fr.keep (by k_asm)) (out (by k_asm))
  · exact (six (by assumption) (by assumption) (by assumption) (by assumption) (by assumption) (by assumption)).elim
end Mine
theorem Mine.rows6 : True := by
  k_with_none
  trivial
namespace Mine
theorem ints_of_mem : ∀ (ws : List Value), (∀ v ∈ ws, ∃ (n : Int) (t : Tok), v = Value.int n t) → ∃ ms : List Int, IntsAre ws ms ∧ ms.length = ws.length
  | [], _ => ⟨[], .nil, rfl⟩
  | v :: ws, h => by
    obtain ⟨n, t, rfl⟩ := h v (.head _)
    obtain ⟨ms, hm, hl⟩ := ints_of_mem ws fun z hz => h z (.tail _ hz)
    exact ⟨n :: ms, .cons n t hm, by simp [hl]⟩
theorem mem_of_ints : ∀ {vs : List Value} {ns : List Int}, IntsAre vs ns → ∀ v ∈ vs, ∃ (n : Int) (t : Tok), v = Value.int n t
  | _, _, .cons n t h, v, hv => by
    rcases List.mem_cons.mp hv with rfl | hv
    · exact ⟨n, t, rfl⟩
    · exact mem_of_ints h v hv
theorem slicePick_mem {items : Array Value} {lo hi st : Option Int} {v : Value} (h : v ∈ (slicePick items lo hi st).toList) : v ∈ items.toList := by
  unfold slicePick at h
  obtain ⟨i, _, hi⟩ := List.mem_filterMap.mp h
  exact Array.mem_toList_iff.mpr (Array.mem_of_getElem? hi)
section
variable {prog : Program} {w : World} {A : Around} {E : Value → Shared → Prop} {s : Shared} {h₀ : Heap} {L l : Addr} {m : Str → Option Value} {news : List (Addr × Obj)} {value slice : PySem.Expr} {vs : List Value} {ns : List Int} {vl vu vk : Value} {lo up st : Option Int} {ops : List Value} {Q : Value → Shared → Prop}
theorem stepSl (F : Fr h₀ L s.heap m) (N : News h₀ L s.heap news) (hl : s.heap.IsList l vs.toArray) (pl : IsPart vl lo) (pu : IsPart vu up) (pk : IsPart vk st) (h0 : st ≠ some 0) (hi : IntsAre vs ns) (hn : ns.length ≤ 1000)
    (h : ∀ D ws ms h', Fr h₀ L h' m → News h₀ L h' ((D, listOf (List.toArray ws) 0) :: news) → (∀ p ∈ news, p.1 < D) → IntsAre ws ms → ms.length ≤ 1000 → Q (.ref D) { s with heap := h' })
    (hs : subscripted slice false (.ref l) (.ref s.heap.objs.size) = operate ops (getItem (.ref l) (.ref s.heap.objs.size))) (ht : ∀ r, letTemporaryGo value (.ref l) r = pure ()) :
    wpAny (model prog w) A (subscriptTail value slice (.ref l) (.ref s.heap.objs.size)) Q E { s with heap := s.heap.push { cls := .type "slice", data := .fields #[vl, vu, vk] } } := by
  have hz : vs.toArray.size ≤ 1000 := by rw [List.size_toArray, hi.length]; exact hn
  have hp := slicePick_size_le vs.toArray lo up st
  obtain ⟨ms, hm, hlen⟩ := ints_of_mem (slicePick vs.toArray lo up st).toList fun v hv => mem_of_ints hi v (slicePick_mem hv)
  refine slice_list3 F N hl pl pu pk h0 (fun h' F' N' => h _ (slicePick vs.toArray lo up st).toList ms h' F' ?_ (fun p hp => Nat.lt_succ_of_lt (Heap.lt_size (N p hp).1)) hm (by rw [hlen, Array.length_toList]; (first | lia | omega))) hs ht (by unfold sizeLine; (first | lia | omega))
  rw [Array.toArray_toList]
  exact N'
end
end Mine
namespace Mine
theorem neA {a D : Nat} {o : Obj} {l : List (Addr × Obj)} (h : ∀ q ∈ l, q.1 ≠ D) (m : (a, o) ∈ l) : a ≠ D := h _ m
theorem neA' {a D : Nat} {o : Obj} {l : List (Addr × Obj)} (h : ∀ q ∈ l, q.1 ≠ D) (m : (a, o) ∈ l) : D ≠ a := (h _ m).symm
theorem ltA {a D : Nat} {o : Obj} {l : List (Addr × Obj)} (h : ∀ q ∈ l, q.1 < D) (m : (a, o) ∈ l) : a ≠ D := Nat.ne_of_lt (h _ m)
theorem ltA' {a D : Nat} {o : Obj} {l : List (Addr × Obj)} (h : ∀ q ∈ l, q.1 < D) (m : (a, o) ∈ l) : D ≠ a := (Nat.ne_of_lt (h _ m)).symm
theorem offI {I C D : Addr} : ∀ {l : List (Addr × Obj)}, LCg.Off3 I C D l → ∀ q ∈ l, q.1 ≠ I
  | [], _, _, hq => nomatch hq
  | _ :: _, h, q, hq => by
    rcases List.mem_cons.mp hq with rfl | hq
    · exact h.1.1
    · exact offI h.2 q hq
theorem offC {I C D : Addr} : ∀ {l : List (Addr × Obj)}, LCg.Off3 I C D l → ∀ q ∈ l, q.1 ≠ C
  | [], _, _, hq => nomatch hq
  | _ :: _, h, q, hq => by
    rcases List.mem_cons.mp hq with rfl | hq
    · exact h.1.2.1
    · exact offC h.2 q hq
theorem offD {I C D : Addr} : ∀ {l : List (Addr × Obj)}, LCg.Off3 I C D l → ∀ q ∈ l, q.1 ≠ D
  | [], _, _, hq => nomatch hq
  | _ :: _, h, q, hq => by
    rcases List.mem_cons.mp hq with rfl | hq
    · exact h.1.2.2
    · exact offD h.2 q hq
theorem off1D {D : Addr} : ∀ {l : List (Addr × Obj)}, LCg.Off1 D l → ∀ q ∈ l, q.1 ≠ D
  | [], _, _, hq => nomatch hq
  | _ :: _, h, q, hq => by
    rcases List.mem_cons.mp hq with rfl | hq
    · exact h.1
    · exact off1D h.2 q hq
end Mine
local macro_rules | `(tactic| k_lt $_) => `(tactic| skip)
local macro_rules | `(tactic| k_ne) => `(tactic| (refine neN ?_; (try dsimp only); first | exact Mine.neA (by assumption) (by k_mem) | exact Mine.neA' (by assumption) (by k_mem) | exact Mine.ltA (by assumption) (by k_mem) | exact Mine.ltA' (by assumption) (by k_mem) | assumption | (apply Ne.symm; assumption)))
local macro_rules | `(tactic| lcg_off) => `(tactic| assumption)
namespace Mine
section
variable {prog : Program} {w : World} {A : Around} {E : Value → Shared → Prop} {s : Shared} {xs ys : List Nat} {a : Int} {t u : Tok} {Q : Value → Shared → Prop}
theorem S_add (xs ys : List Nat) : S xs ++ S ys = S (xs ++ ys) := by
  show Str.mk _ = Str.mk _
  congr 1
  simp [S_cps]
theorem iaddS (hx : xs.length ≤ 1000) (hy : ys.length ≤ 1000) (h : ∀ t' k, Q (.str (S (xs ++ ys)) t') { s with toks := k }) : wpAny (model prog w) A (inplaceOp .Add (.str (S xs) t) (.str (S ys) u)) Q E s := by
  refine PyProof.Rows.SBL.iadd (fun t' k _ => ?_) (by rw [S_len, S_len]; unfold sizeLine; (first | lia | omega))
  rw [S_add]
  exact h t' k
theorem chrS (h0 : 0 ≤ a) (h1 : a ≤ 1000) (h : ∀ t' k, Q (.str (S [a.toNat]) t') { s with toks := k }) : wpAny (model prog w) A (call (.builtin "chr") [.int a t]) Q E s :=
  PyProof.Rows.chr_of_range h0 (by (first | lia | omega)) (h _ _)
end
noncomputable def ltr (bits : List Int) (i : Nat) : Nat := if i < bits.length ∧ bits.getD i 0 = 1 then 65 + i else 97 + i
noncomputable def wdL (n k : Nat) : List Nat := (List.range k).map (ltr (digs 1 (ndig n 1) n))
structure Wd1St where
  ws : List Nat
  t : Tok
noncomputable def Wd1P (bits : List Int) (i : Nat) (c : Wd1St) : Prop := c.ws = (List.range i).map (ltr bits)
theorem wd1_len {bits : List Int} {i : Nat} {c : Wd1St} (h : Wd1P bits i c) : c.ws.length = i := by rw [h]; simp
theorem wd1_a {bits : List Int} {i : Nat} {ws : List Nat} {t t' : Tok} (h : Wd1P bits i ⟨ws, t⟩) (h1 : i < bits.length) (h2 : bits.getD i 0 = 1) : Wd1P bits (i + 1) ⟨ws ++ [(65 + (i : Int)).toNat], t'⟩ := by
  show ws ++ _ = _
  rw [show ws = _ from h, List.range_succ, List.map_append]
  have : ltr bits i = (65 + (i : Int)).toNat := by unfold ltr; rw [if_pos ⟨h1, h2⟩]; (first | lia | omega)
  simp [this]
theorem wd1_b {bits : List Int} {i : Nat} {ws : List Nat} {t t' : Tok} (h : Wd1P bits i ⟨ws, t⟩) (h1 : i < bits.length → ¬ bits.getD i 0 = 1) : Wd1P bits (i + 1) ⟨ws ++ [(97 + (i : Int)).toNat], t'⟩ := by
  show ws ++ _ = _
  rw [show ws = _ from h, List.range_succ, List.map_append]
  have : ltr bits i = (97 + (i : Int)).toNat := by unfold ltr; rw [if_neg (fun h => h1 h.1 h.2)]; (first | lia | omega)
  simp [this]
end Mine
theorem Mine.rows7_0 : True := by
  k_with_none
  (k_with "call builtin:max" => (k_here; (with_reducible show wpAny _ _ (call (Value.builtin _) [Value.int _ _, Value.int _ _, Value.int _ _]) _ _ _); (with_unfolding_all refine' Mine.max3 ?zz_k1 ?zz_k2 ?zz_k3 ?_; (case zz_k1 => rfl); (case zz_k2 => k_asm); (case zz_k3 => k_asm); k_whole); intro _ _ _ _ _))
  (k_with "call builtin:min" => (k_here; (with_reducible show wpAny _ _ (call (Value.builtin _) [Value.int _ _, Value.int _ _, Value.int _ _]) _ _ _); (with_unfolding_all refine' Mine.min3 ?zz_k1 ?zz_k2 ?zz_k3 ?_; (case zz_k1 => rfl); (case zz_k2 => k_asm); (case zz_k3 => k_asm); k_whole); intro _ _ _ _ _))
  (k_with "binaryOp Mult ref int" => (k_here; k_dflt (refine' Mine.mulOne ?zz_k1 ?zz_k2 ?zz_k3 ?zz_k4 ?zz_k5 ?_; (case zz_k1 => k_asm); (case zz_k2 => k_asm); (case zz_k3 => k_mem); (case zz_k4 => first | (first | lia | omega) | assumption | l_fact); (case zz_k5 => first | (first | lia | omega) | assumption | l_fact); k_whole); intro _ _ _ _ _ l1 _; (try k_lt l1); (try k_sweep)))
  (k_with "call builtin:divmod" => (k_here; (with_reducible show wpAny _ _ (call (Value.builtin _) [Value.int _ _, Value.int _ _]) _ _ _); refine divmod_N (by assumption) (by assumption) (by side_arith) ?_; intro _ _ _))
  (k_with "call builtin:len" => (k_here; (with_reducible show wpAny _ _ (call (Value.builtin _) [Value.ref _]) _ _ _); k_dflt (refine' Mine.lenN ?zz_k1 ?zz_k2 ?zz_k3 ?zz_k4 ?_; (case zz_k1 => k_asm); (case zz_k2 => k_mem); (case zz_k3 => with_reducible assumption); (case zz_k4 => ((try simp only [List.length_append, List.length_cons, List.length_nil, List.length_replicate, List.length_map]); (first | lia | omega))); k_whole); intro _ _))
  (k_with "binaryOp Sub int int" => (k_here; with_reducible refine' Mine.subIs ?zz_k1 ?_; (case zz_k1 => assumption)))
  (k_with "binaryOp Add int int" => (k_here; with_reducible refine' Mine.addIs ?zz_k1 ?_; (case zz_k1 => assumption)))
  (k_with "binaryOp Mult int int" => (k_here; with_reducible refine' Mine.mulIs ?zz_k1 ?zz_k2 ?_; (case zz_k1 => assumption); (case zz_k2 => exact Mine.bits64 (by (first | lia | omega)))))
  (k_with "binaryOp RShift int int" => (k_here; with_reducible refine' Mine.shrIs ?zz_k1 ?zz_k2 ?_; (case zz_k1 => assumption); (case zz_k2 => (first | lia | omega))))
  (k_with "binaryOp LShift int int" => (k_here; with_reducible refine' Mine.shlIs ?zz_k1 ?zz_k2 ?zz_k3 ?zz_k4 ?_; (case zz_k1 => assumption); (case zz_k2 => (first | lia | omega)); (case zz_k3 => (first | lia | omega)); (case zz_k4 => (first | lia | omega))))
  (k_with "binaryOp BitXor int int" => (k_here; with_reducible refine' Mine.xorIs ?zz_k1 ?_; (case zz_k1 => assumption)))
  (k_with "exec FunctionDef" => (k_here; kn_here; k_dflt (refine' nestDef_K ?zz_d0 ?zz_k0 ?zz_a0 ?_; (case zz_d0 => exact rfl); (case zz_k0 => exact rfl); (case zz_a0 => exact rfl)); (k_dflt (refine' Mine.nestBoth ?zz_F ?zz_N ?zz_T ?zz_C ?zz_cd ?zz_hs ?zz_ht ?zz_hP ?zz_hc ?zz_cl ?_; (case zz_F => k_asm); (case zz_N => k_asm); (case zz_T => k_asm); (case zz_cd => exact rfl); (case zz_C => kn_code); (case zz_hs => exact rfl); (case zz_ht => assumption); (case zz_hP => (dsimp only [List.dropLast]; k_all)); (case zz_hc => (dsimp only [List.dropLast]; k_all)); (case zz_cl => exact rfl); k_whole); intro _ _ _ _ _ _ _ _ _ _ N' _ _ l1 l2 _ _ _; (dsimp only [List.dropLast, List.append, HAppend.hAppend, Append.append] at N' l1 l2); (simp only [List.forall_mem_cons, List.forall_mem_nil, and_true] at l1 l2); (repeat (obtain ⟨_, l1⟩ := l1)); (repeat (obtain ⟨_, l2⟩ := l2)))))
  (k_with "call builtin:list.append" => (k_here; (with_reducible show wpAny _ _ (call (Value.builtin _) [Value.ref _, _]) _ _ _); k_dflt (refine' Mine.appendL ?zz_k1 ?zz_k2 ?zz_k3 ?zz_k4 ?_; (case zz_k1 => k_asm); (case zz_k2 => k_asm); (case zz_k3 => k_upd); (case zz_k4 => first | (first | lia | omega) | (simp only [List.length_nil, List.length_cons]; (first | lia | omega))); k_whole); intro _ _ _; (try k_sweep)))
  (k_with "call builtin:list.reverse" => (k_here; (with_reducible show wpAny _ _ (call (Value.builtin _) _) _ _ _); (try dsimp only); k_dflt (refine' Mine.reverseL ?zz_k1 ?zz_k2 ?zz_k3 ?zz_k4 ?zz_k5 ?_; (case zz_k1 => k_asm); (case zz_k2 => k_asm); (case zz_k3 => k_upd); (case zz_k4 => with_reducible assumption); (case zz_k5 => (first | lia | omega)); k_whole); intro _ _ _ _; (try k_sweep)))
  (k_with "unaryOp Invert int" => (k_here; with_reducible refine' Mine.invIs ?zz_k1 ?_; (case zz_k1 => assumption)))
  (k_with "call builtin:min" => (k_here; (with_reducible show wpAny _ _ (call (Value.builtin _) [Value.int _ _, Value.int _ _]) _ _ _); k_dflt (refine' Mine.min2 ?zz_k1 ?zz_k2 ?zz_k3 ?_; (case zz_k1 => exact rfl); (case zz_k2 => k_asm); (case zz_k3 => k_asm); k_whole); intro _ _ _ _ _))
  (k_with "call builtin:max" => (k_here; (with_reducible show wpAny _ _ (call (Value.builtin _) [Value.int _ _, Value.int _ _]) _ _ _); k_dflt (refine' Mine.max2 ?zz_k1 ?zz_k2 ?zz_k3 ?_; (case zz_k1 => exact rfl); (case zz_k2 => k_asm); (case zz_k3 => k_asm); k_whole); intro _ _ _ _ _))
  (k_with "call type:range" => (k_here; (with_reducible show wpAny _ _ (call (Value.type _) [Value.int (Nat.cast _) _]) _ _ _); k_dflt (refine' Mine.rng1 ?zz_k1 ?zz_k2 ?_; (case zz_k1 => k_asm); (case zz_k2 => k_asm); k_whole); intro _ _ _ _ _ _ _ _ _))
  (k_with "call type:range" => (k_here; (with_reducible show wpAny _ _ (call (Value.type _) [Value.int _ _, Value.int _ _, Value.int _ _]) _ _ _); k_dflt (refine' Mine.rng3 ?zz_k1 ?zz_k2 ?zz_k3 ?zz_k4 ?_; (case zz_k1 => k_asm); (case zz_k2 => k_asm); (case zz_k3 => decide); (case zz_k4 => decide); k_whole); intro _ _ _ _ _ _ _ _ _))
  (k_with "call type:list" => (k_here; (with_reducible show wpAny _ _ (call (Value.type _) [Value.ref _]) _ _ _); k_dflt (refine' Mine.listRng2 ?zz_k1 ?zz_k2 ?zz_k3 ?zz_k4 ?zz_k5 ?_; (case zz_k1 => exact rfl); (case zz_k2 => k_asm); (case zz_k3 => k_asm); (case zz_k4 => assumption); (case zz_k5 => (first | lia | omega)); k_whole); intro _ _ _ _ _ _ _ l1 _; (try k_lt l1)))
  (k_with "exec If" => (k_here; (with_reducible show wpAny _ _ (exec (Stmt.If (Expr.Compare (Expr.Call _ _ _ _) [CmpOp.Lt] _ _) _ _ _) _) _ _ _); (fail_if_success (with_reducible show wpAny _ _ _ (fun f s' => f = Flow.next ∧ _) _ _)); refine Mine.halt ?_))
  (k_with "inplaceOp Add str str" => (k_here; (with_reducible show wpAny _ _ (inplaceOp _ (Value.str (Mine.S _) _) (Value.str (Mine.S _) _)) _ _ _); k_dflt (refine' Mine.iaddS ?zz_k1 ?zz_k2 ?_; (case zz_k1 => (first | lia | omega)); (case zz_k2 => (simp only [List.length_cons, List.length_nil]; (first | lia | omega))); k_whole); intro _ _))
  (k_with "call builtin:chr" => (k_here; (with_reducible show wpAny _ _ (call (Value.builtin "chr") [Value.int _ _]) _ _ _); k_dflt (refine' Mine.chrS ?zz_k1 ?zz_k2 ?_; (case zz_k1 => (first | lia | omega)); (case zz_k2 => (first | lia | omega)); k_whole); intro _ _))
  (k_with "call ref" => (k_here; (with_reducible show wpAny _ _ (call (Value.ref 35) [Value.int _ _, Value.int 1 _]) _ _ _); k_dflt (refine' Mine.useI2d (y := 1) ?zz_h1 ?zz_h2 ?zz_h3 ?zz_cN ?zz_p1 ?zz_cTS ?zz_p2 ?zz_cB ?zz_cF ?zz_cX ?zz_cT ?zz_cf ?zz_ck ?zz_cd ?zz_cdp ?zz_cun ?_; (case zz_cN => k_asm); (case zz_p1 => repeat' (first | exact Mine.Pick.head | refine' Mine.Pick.tail ?_)); (case zz_cTS => assumption); (case zz_p2 => repeat' (first | exact Mine.Pick.head | refine' Mine.Pick.tail ?_)); (case zz_cB => k_asm); (case zz_cF => k_asm); (case zz_cX => k_asm); (case zz_cT => k_asm); (case zz_cf => exact rfl); (case zz_ck => exact rfl); (case zz_cdp => ktr_room); (case zz_cun => ktr_units); (case zz_h1 => first | assumption | (first | lia | omega)); (case zz_h2 => first | assumption | (first | lia | omega)); (case zz_h3 => first | assumption | (first | lia | omega)); (case zz_cd => repeat' (first | exact List.forall_mem_nil _ | (refine' List.forall_mem_cons.mpr ⟨?_, ?_⟩) | k_ne)); k_whole); intro _ _ _ _ _ _ _ _ _ _ _ _ _ _ _ _))
  (k_with "execs cons" => (k_here; k_fold))
  (k_with "eval ListComp" => (k_here; k_fold))
  trivial
namespace Mine
theorem wd1_spec (w : World) (n k : Nat) (tn tk : Tok) (hn : n < 2 ^ 40) (hk : k ≤ 20) (p44 : Array Value) (c44 : Addr) (o44 : Obj) (h44 : T44 p44 c44 o44) :
    C3 w 91 90 800 [(30, tabObj p44), (c44, o44)] [.int ((n : Int) + 1) tn, .int k tk] (fun v n' => ∃ t ps' c' oc', v = .str (S (wdL n k)) t ∧ n' = [(30, tabObj ps'), (c', oc')] ∧ T44 ps' c' oc') := by
  have i1 : Is ((n : Int) + 1 - 1) (n : Int) := by unfold Is; (first | lia | omega)
  have hlen : (digs 1 (ndig n 1) n).length ≤ 1000 := by
    have := ndig_spec n 1 (by (first | lia | omega)) (by decide)
    rw [digs_length]; unfold ndig; (first | lia | omega)
  intro p loose mean mg mb dp un gd fr base g s R B X T st sz N hd hu hret
  k_dflt (refine' enterP ?k1 ?kst ?ksz ?kN ?kX ?kT ?k6 ?k7 ?k8 ?k9 ?kB ?_ ?c2 ?c3 ?c4 ?c5; (case k1 => exact B); (case kst => exact st); (case ksz => exact sz); (case kN => exact N); (case kX => exact X); (case kT => exact T); (case k6 => k_is); (case k7 => k_is); (case k8 => ktr_room); (case k9 => exact BindsTo.of_eq rfl); (case c5 => decide); (case kB => exact locs rfl); (case c2 => exact rfl); (case c3 => exact rfl); (case c4 => exact rfl); k_whole; intro L' h' F' N' l0; (try dsimp only); (try k_lt l0); (try k_fold))
  repeat' (first | (k_unfold; (try dsimp only)) | walk1 | (dsimp only; walk1))
  rename_i r1 vs1 e1 ps1 c1 oc1 _ _ iX tX n1 n2 _ _ _ _ lF1 N1 r2 h2 tk2 t2 u2 v2 R2 F2 N2
  refine goOn ?_
  unfold wdL at hret
  generalize digs 1 (ndig n 1) n = bits at *
  k_dflt (refine' loopRng (σ := Wd1St) (fun c => [(r1, listOf vs1.toArray e1), (30, tabObj ps1), (c1, oc1)]) (fun c => [("bits", .ref r1), ("word", .str (S c.ws) c.t)]) (Wd1P bits) ⟨[], _⟩ ?hh ?hr ?hn ?F ?N ?hk ?hp ?turn ?done; (case hh => exact rfl); (case hr => assumption); (case hn => (first | lia | omega)); (case F => k_asm); (case N => k_asm); (case hk => repeat' (first | exact List.forall_mem_nil _ | (refine' List.forall_mem_cons.mpr ⟨?_, ?_⟩) | exact rfl)); (case hp => exact rfl))
  case turn =>
    intro i ti c u h tk own hi ho hP F1 N1
    have hwl := wd1_len hP
    obtain ⟨ws, t⟩ := c
    dsimp only at hwl F1 N1
    repeat' (first | (k_unfold; (try dsimp only)) | walk1 | (dsimp only; walk1))
    · k_dflt (refine' turnEndN ⟨_, _⟩ ?Fx ?Nx ?hkx ?hnx ?hox ?hax ?hpx; (case Fx => k_asm); (case Nx => k_asm); (case hkx => repeat' (first | exact List.forall_mem_nil _ | (refine' List.forall_mem_cons.mpr ⟨?_, ?_⟩) | exact rfl)); (case hnx => repeat' (first | exact List.forall_mem_nil _ | (refine' List.forall_mem_cons.mpr ⟨?_, ?_⟩) | k_mem)); (case hox => (intro p hp; k_ownIn)); (case hax => exact rfl); (case hpx => exact wd1_a hP (by (first | lia | omega)) (by assumption)))
    · k_dflt (refine' turnEndN ⟨_, _⟩ ?Fy ?Ny ?hky ?hny ?hoy ?hay ?hpy; (case Fy => k_asm); (case Ny => k_asm); (case hky => repeat' (first | exact List.forall_mem_nil _ | (refine' List.forall_mem_cons.mpr ⟨?_, ?_⟩) | exact rfl)); (case hny => repeat' (first | exact List.forall_mem_nil _ | (refine' List.forall_mem_cons.mpr ⟨?_, ?_⟩) | k_mem)); (case hoy => (intro p hp; k_ownIn)); (case hay => exact rfl); (case hpy => exact wd1_b hP (fun _ => by assumption)))
    · k_dflt (refine' turnEndN ⟨_, _⟩ ?Fz ?Nz ?hkz ?hnz ?hoz ?haz ?hpz; (case Fz => k_asm); (case Nz => k_asm); (case hkz => repeat' (first | exact List.forall_mem_nil _ | (refine' List.forall_mem_cons.mpr ⟨?_, ?_⟩) | exact rfl)); (case hnz => repeat' (first | exact List.forall_mem_nil _ | (refine' List.forall_mem_cons.mpr ⟨?_, ?_⟩) | k_mem)); (case hoz => (intro p hp; k_ownIn)); (case haz => exact rfl); (case hpz => exact wd1_b hP (fun hq => absurd hq (by (first | lia | omega)))))
  case done =>
    intro c u h tk hP F1 N1
    obtain ⟨ws, t⟩ := c
    cases hP
    repeat' (first | (k_unfold; (try dsimp only)) | walk1 | (dsimp only; walk1))
    k_dflt (refine' hret _ _ _ _ ⟨_, _, _, _, rfl, rfl, tX⟩ (Fr.keep ?F) (outS ?N (List.forall_mem_cons.mpr ⟨?m1, List.forall_mem_cons.mpr ⟨?m2, List.forall_mem_nil _⟩⟩)); (case F => k_asm); (case N => k_asm); (case m1 => k_mem); (case m2 => k_mem))
end Mine

namespace Mine
theorem wdL_len (n k : Nat) : (wdL n k).length = k := by simp [wdL]
section
variable {w : World} {p : Program} {loose : List Str} {mean : ExcName → Option Value} {mg mb : Str → Option Value} {dp un : Nat} {gd : Option (List Code)} {env : Env} {outer : List Env} {A₀ : Around} {base h₀ : Heap} {L : Addr} {m : Str → Option Value} {s : Shared} {Q E : Value → Shared → Prop} {news n1 n2 rest : List (Addr × Obj)}
theorem useWd1 {a b : Int} {ta tb : Tok} {ps : Array Value} {ct : Addr} {oct : Obj} (h0 : 1 ≤ a) (h1 : a ≤ 2 ^ 40) (h2 : 0 ≤ b) (h3 : b ≤ 20)
    (N : News h₀ L s.heap news) (p1 : Pick (30, tabObj ps) news n1) (hTS : T44 ps ct oct) (p2 : Pick (ct, oct) n1 rest)
    (B : Below A₀ base outer h₀) (F : Fr h₀ L s.heap m) (X : (Mine.hd.heap_39 w.params).In h₀) (T : Top p loose mean mg mb h₀) (hf : env.frame = some L) (hke : env.scope.kind = .function)
    (hd : ∀ q ∈ rest, ∀ r ∈ [(30, tabObj ps), (ct, oct)], q.1 ≠ r.1) (hdp : dp + 90 < recursionLimit) (hun : un + 800 < cLine)
    (h : ∀ t ps' c' oc' h' tk', Fr h₀ L h' m → News h₀ L h' ((30, tabObj ps') :: (c', oc') :: rest) → T44 ps' c' oc' → (∀ q ∈ rest, q.1 ≠ c') → Q (.str (S (wdL (a - 1).toNat b.toNat)) t) { s with heap := h', toks := tk' }) :
    wpAny (model PySem.Challenge.rw_pg0238_01.row.prog w) (Ar dp un gd (env :: outer)) (call (.ref 91) [.int a ta, .int b tb]) Q E s := by
  obtain ⟨n, rfl⟩ : ∃ n : Nat, a = (n : Int) + 1 := ⟨(a - 1).toNat, by (first | lia | omega)⟩
  obtain ⟨k, rfl⟩ : ∃ k : Nat, b = (k : Int) := ⟨b.toNat, by (first | lia | omega)⟩
  have e1 : ((n : Int) + 1 - 1).toNat = n := by (first | lia | omega)
  have e2 : (k : Int).toNat = k := by (first | lia | omega)
  rw [e1, e2] at h
  refine CC.useK (wd1_spec w n k ta tb (by (first | lia | omega)) (by (first | lia | omega)) ps ct oct hTS) (.cons p1 (.cons p2 .nil)) B F X N T hf hke hd hdp hun fun v n' h' tk' P F' N' D => ?_
  obtain ⟨t, ps', c', oc', rfl, rfl, t1⟩ := P
  exact h t ps' c' oc' h' tk' F' N' t1 (D (c', oc') (.tail _ (.head _)))
theorem useLevI {xs ys : List Nat} {mi : Int} {tx ty tm : Tok} (h0 : 0 ≤ mi) (hx : xs.length ≤ 100) (hy : ys.length ≤ 100)
    (B : Below A₀ base outer h₀) (F : Fr h₀ L s.heap m) (X : (Mine.hd.heap_39 w.params).In h₀) (N : News h₀ L s.heap news) (T : Top p loose mean mg mb h₀) (hf : env.frame = some L) (hke : env.scope.kind = .function) (hdp : dp + 3 < recursionLimit) (hun : un + 40 < cLine)
    (h : ∀ t h' tk', Fr h₀ L h' m → News h₀ L h' news → Q (.int (lev xs ys mi) t) { s with heap := h', toks := tk' }) :
    wpAny (model PySem.Challenge.rw_pg0238_01.row.prog w) (Ar dp un gd (env :: outer)) (call (.ref 84) [.str (S xs) tx, .str (S ys) ty, .int mi tm]) Q E s := by
  obtain ⟨mc, rfl⟩ : ∃ k : Nat, mi = (k : Int) := ⟨mi.toNat, by (first | lia | omega)⟩
  refine CC.use (mu := []) (rest := news) (lev_spec w xs ys mc tx ty tm hx hy) B F X N T hf hke (fun q hq => hq) (fun _ _ _ q => nomatch q) hdp hun fun v n' h' tk' P F' N' _ => ?_
  obtain ⟨e, t, ev⟩ := P
  subst e ev
  exact h t h' tk' F' N'
end
noncomputable def toldF (xs : List Nat) (m : Int) : Int :=
  if lev xs (wdL 1 (3 * m).toNat) (6 * m) < lev xs (wdL 0 (3 * m).toNat) (6 * m) then lev xs (wdL 0 (3 * m).toNat) (6 * m)
  else (6 * m - lev xs (wdL 0 (3 * m).toNat) (6 * m)).fmod (6 * m)
theorem told_a {xs : List Nat} {m : Int} (h : lev xs (wdL 1 (3 * m).toNat) (6 * m) < lev xs (wdL 0 (3 * m).toNat) (6 * m)) : lev xs (wdL 0 (3 * m).toNat) (6 * m) = toldF xs m := (if_pos h).symm
theorem told_b {xs : List Nat} {m : Int} (h : ¬ lev xs (wdL 1 (3 * m).toNat) (6 * m) < lev xs (wdL 0 (3 * m).toNat) (6 * m)) : (6 * m - lev xs (wdL 0 (3 * m).toNat) (6 * m)).fmod (6 * m) = toldF xs m := (if_neg h).symm
end Mine
theorem Mine.rows8_0 : True := by
  k_with_none
  (k_with "call builtin:max" => (k_here; (with_reducible show wpAny _ _ (call (Value.builtin _) [Value.int _ _, Value.int _ _, Value.int _ _]) _ _ _); (with_unfolding_all refine' Mine.max3 ?zz_k1 ?zz_k2 ?zz_k3 ?_; (case zz_k1 => rfl); (case zz_k2 => k_asm); (case zz_k3 => k_asm); k_whole); intro _ _ _ _ _))
  (k_with "call builtin:min" => (k_here; (with_reducible show wpAny _ _ (call (Value.builtin _) [Value.int _ _, Value.int _ _, Value.int _ _]) _ _ _); (with_unfolding_all refine' Mine.min3 ?zz_k1 ?zz_k2 ?zz_k3 ?_; (case zz_k1 => rfl); (case zz_k2 => k_asm); (case zz_k3 => k_asm); k_whole); intro _ _ _ _ _))
  (k_with "binaryOp Mult ref int" => (k_here; k_dflt (refine' Mine.mulOne ?zz_k1 ?zz_k2 ?zz_k3 ?zz_k4 ?zz_k5 ?_; (case zz_k1 => k_asm); (case zz_k2 => k_asm); (case zz_k3 => k_mem); (case zz_k4 => first | (first | lia | omega) | assumption | l_fact); (case zz_k5 => first | (first | lia | omega) | assumption | l_fact); k_whole); intro _ _ _ _ _ _ _; (try k_sweep)))
  (k_with "call builtin:divmod" => (k_here; (with_reducible show wpAny _ _ (call (Value.builtin _) [Value.int _ _, Value.int _ _]) _ _ _); refine divmod_N (by assumption) (by assumption) (by side_arith) ?_; intro _ _ _))
  (k_with "call builtin:len" => (k_here; (with_reducible show wpAny _ _ (call (Value.builtin _) [Value.ref _]) _ _ _); k_dflt (refine' Mine.lenN ?zz_k1 ?zz_k2 ?zz_k3 ?zz_k4 ?_; (case zz_k1 => k_asm); (case zz_k2 => k_mem); (case zz_k3 => with_reducible assumption); (case zz_k4 => ((try simp only [List.length_append, List.length_cons, List.length_nil, List.length_replicate, List.length_map]); (first | lia | omega))); k_whole); intro _ _))
  (k_with "binaryOp Sub int int" => (k_here; with_reducible refine' Mine.subIs ?zz_k1 ?_; (case zz_k1 => assumption)))
  (k_with "binaryOp Add int int" => (k_here; with_reducible refine' Mine.addIs ?zz_k1 ?_; (case zz_k1 => assumption)))
  (k_with "binaryOp Mult int int" => (k_here; with_reducible refine' Mine.mulIs ?zz_k1 ?zz_k2 ?_; (case zz_k1 => assumption); (case zz_k2 => exact Mine.bits64 (by (first | lia | omega)))))
  (k_with "binaryOp RShift int int" => (k_here; with_reducible refine' Mine.shrIs ?zz_k1 ?zz_k2 ?_; (case zz_k1 => assumption); (case zz_k2 => (first | lia | omega))))
  (k_with "binaryOp LShift int int" => (k_here; with_reducible refine' Mine.shlIs ?zz_k1 ?zz_k2 ?zz_k3 ?zz_k4 ?_; (case zz_k1 => assumption); (case zz_k2 => (first | lia | omega)); (case zz_k3 => (first | lia | omega)); (case zz_k4 => (first | lia | omega))))
  (k_with "binaryOp BitXor int int" => (k_here; with_reducible refine' Mine.xorIs ?zz_k1 ?_; (case zz_k1 => assumption)))
  (k_with "exec FunctionDef" => (k_here; kn_here; k_dflt (refine' nestDef_K ?zz_d0 ?zz_k0 ?zz_a0 ?_; (case zz_d0 => exact rfl); (case zz_k0 => exact rfl); (case zz_a0 => exact rfl)); (k_dflt (refine' Mine.nestBoth ?zz_F ?zz_N ?zz_T ?zz_C ?zz_cd ?zz_hs ?zz_ht ?zz_hP ?zz_hc ?zz_cl ?_; (case zz_F => k_asm); (case zz_N => k_asm); (case zz_T => k_asm); (case zz_cd => exact rfl); (case zz_C => kn_code); (case zz_hs => exact rfl); (case zz_ht => assumption); (case zz_hP => (dsimp only [List.dropLast]; k_all)); (case zz_hc => (dsimp only [List.dropLast]; k_all)); (case zz_cl => exact rfl); k_whole); intro _ _ _ _ _ _ _ _ _ _ N' _ _ l1 l2 _ _ _; (dsimp only [List.dropLast, List.append, HAppend.hAppend, Append.append] at N' l1 l2); (simp only [List.forall_mem_cons, List.forall_mem_nil, and_true] at l1 l2); (repeat (obtain ⟨_, l1⟩ := l1)); (repeat (obtain ⟨_, l2⟩ := l2)))))
  (k_with "call builtin:list.append" => (k_here; (with_reducible show wpAny _ _ (call (Value.builtin _) [Value.ref _, _]) _ _ _); k_dflt (refine' Mine.appendL ?zz_k1 ?zz_k2 ?zz_k3 ?zz_k4 ?_; (case zz_k1 => k_asm); (case zz_k2 => k_asm); (case zz_k3 => k_upd); (case zz_k4 => first | (first | lia | omega) | (simp only [List.length_nil, List.length_cons]; (first | lia | omega))); k_whole); intro _ _ _; (try k_sweep)))
  (k_with "call builtin:list.reverse" => (k_here; (with_reducible show wpAny _ _ (call (Value.builtin _) _) _ _ _); (try dsimp only); k_dflt (refine' Mine.reverseL ?zz_k1 ?zz_k2 ?zz_k3 ?zz_k4 ?zz_k5 ?_; (case zz_k1 => k_asm); (case zz_k2 => k_asm); (case zz_k3 => k_upd); (case zz_k4 => with_reducible assumption); (case zz_k5 => (first | lia | omega)); k_whole); intro _ _ _ _; (try k_sweep)))
  (k_with "unaryOp Invert int" => (k_here; with_reducible refine' Mine.invIs ?zz_k1 ?_; (case zz_k1 => assumption)))
  (k_with "exec While" => (k_here; refine Mine.halt ?_))
  (k_with "subscriptTail Name Slice str ref" => (k_here; (try dsimp only); (with_reducible show wpAny _ _ (subscriptTail _ (Expr.Slice (some _) none none _) (Value.str (Mine.S _) _) _) _ _ _); k_dflt (refine' Mine.sFrom (s := ⟨_, _, _, _, _⟩) ?zz_F ?zz_N ?zz_hk ?zz_hl ?_ ?zz_hs ?zz_ht; (case zz_hk => first | (first | lia | omega) | (simp only [List.length_drop, List.length_take, List.length_reverse] at *; (first | lia | omega))); (case zz_F => k_asm); (case zz_N => k_asm); (case zz_hl => first | (first | lia | omega) | (simp only [List.length_drop, List.length_take, List.length_reverse] at *; (first | lia | omega))); (case zz_hs => with_unfolding_all rfl); (case zz_ht => (intro _; with_unfolding_all rfl)); k_whole); intro _ _ _ _ _; (try k_sweep)))
  (k_with "subscriptTail Name Slice str ref" => (k_here; (try dsimp only); (with_reducible show wpAny _ _ (subscriptTail _ (Expr.Slice none (some _) none _) (Value.str (Mine.S _) _) _) _ _ _); k_dflt (first | (refine' Mine.sAll (s := ⟨_, _, _, _, _⟩) ?zz_F ?zz_N ?zz_hl ?_ ?zz_hs ?zz_ht; (case zz_F => k_asm); (case zz_N => k_asm); (case zz_hl => first | (first | lia | omega) | (simp only [List.length_drop, List.length_take, List.length_reverse] at *; (first | lia | omega))); (case zz_hs => with_unfolding_all rfl); (case zz_ht => (intro _; with_unfolding_all rfl)); k_whole) | (refine' Mine.sNeg (s := ⟨_, _, _, _, _⟩) ?zz_F ?zz_N ?zz_h0 ?zz_hj ?zz_hl ?_ ?zz_hs ?zz_ht; (case zz_h0 => (first | lia | omega)); (case zz_hj => first | (first | lia | omega) | (simp only [List.length_drop, List.length_take, List.length_reverse] at *; (first | lia | omega))); (case zz_F => k_asm); (case zz_N => k_asm); (case zz_hl => first | (first | lia | omega) | (simp only [List.length_drop, List.length_take, List.length_reverse] at *; (first | lia | omega))); (case zz_hs => with_unfolding_all rfl); (case zz_ht => (intro _; with_unfolding_all rfl)); k_whole)); intro _ _ _ _ _; (try k_sweep)))
  (k_with "subscriptTail Name Name str int" => (k_here; (try dsimp only); (with_reducible show wpAny _ _ (subscriptTail _ _ (Value.str (Mine.S _) _) (Value.int _ _)) _ _ _); k_dflt (refine' Mine.sItem ?zz_hk ?zz_hl ?_ ?zz_hs ?zz_ht; (case zz_hk => first | (first | lia | omega) | (simp only [List.length_drop, List.length_take, List.length_reverse] at *; (first | lia | omega))); (case zz_hl => first | (first | lia | omega) | (simp only [List.length_drop, List.length_take, List.length_reverse] at *; (first | lia | omega))); (case zz_hs => with_unfolding_all rfl); (case zz_ht => (intro _; with_unfolding_all rfl)); k_whole); intro _ _))
  (k_with "subscriptTail Name BinOp str int" => (k_here; (try dsimp only); (with_reducible show wpAny _ _ (subscriptTail _ _ (Value.str (Mine.S _) _) (Value.int _ _)) _ _ _); k_dflt (refine' Mine.sItemN ?zz_hk ?zz_hl ?_ ?zz_hs ?zz_ht; (case zz_hk => first | (first | lia | omega) | (simp only [List.length_drop, List.length_take, List.length_reverse] at *; (first | lia | omega))); (case zz_hl => first | (first | lia | omega) | (simp only [List.length_drop, List.length_take, List.length_reverse] at *; (first | lia | omega))); (case zz_hs => with_unfolding_all rfl); (case zz_ht => (intro _; with_unfolding_all rfl)); k_whole); intro _ _))
  (k_with "truthy str" => (k_here; (with_reducible show wpAny _ _ (truthy (Value.str (Mine.S _) _)) _ _ _); k_dflt (refine' Mine.sTruthy ?zz_hl ?_; (case zz_hl => first | (first | lia | omega) | (simp only [List.length_drop, List.length_take, List.length_reverse] at *; (first | lia | omega))); k_whole); intro _))
  (k_with "compareOp Eq str str" => (k_here; (with_reducible show wpAny _ _ (compareOp _ (Value.str (Mine.S _) _) (Value.str (Mine.S _) _)) _ _ _); k_dflt (refine' Mine.sEq ?_; k_whole)))
  (k_with "call builtin:len" => (k_here; (with_reducible show wpAny _ _ (call (Value.builtin _) [Value.str (Mine.S _) _]) _ _ _); k_dflt (refine' Mine.sLen ?zz_hl ?_; (case zz_hl => first | (first | lia | omega) | (simp only [List.length_drop, List.length_take, List.length_reverse] at *; (first | lia | omega))); k_whole); intro _ _))
  (k_with "eval BoolOp" => (k_here; k_dflt (refine' Mine.evalOrNone ?zz_F ?zz_hv ?_ ?zz_hk ?zz_hl ?zz_hd; (case zz_F => k_asm); (case zz_hv => exact rfl); (case zz_hk => exact rfl); (case zz_hl => exact rfl); (case zz_hd => decide); k_whole)))
  (k_with "subscriptTail Name Slice str ref" => (k_here; (try dsimp only); (with_reducible show wpAny _ _ (subscriptTail _ (Expr.Slice none (some _) none _) (Value.str (Mine.S _) _) _) _ _ _); k_dflt (refine' Mine.sOr (s := ⟨_, _, _, _, _⟩) ?zz_F ?zz_N ?zz_hj ?zz_hl ?_ ?zz_hs ?zz_ht; (case zz_hj => first | (first | lia | omega) | (simp only [List.length_drop, List.length_take, List.length_reverse] at *; (first | lia | omega))); (case zz_F => k_asm); (case zz_N => k_asm); (case zz_hl => first | (first | lia | omega) | (simp only [List.length_drop, List.length_take, List.length_reverse] at *; (first | lia | omega))); (case zz_hs => with_unfolding_all rfl); (case zz_ht => (intro _; with_unfolding_all rfl)); k_whole); intro _ _ _ _ _; (try k_sweep)))
  (k_with "subscriptTail Name BinOp str int" => (k_here; (try dsimp only); (with_reducible show wpAny _ _ (subscriptTail _ _ (Value.str (Mine.S _) _) (Value.int (-(Nat.cast _)) _)) _ _ _); k_dflt (refine' Mine.sItemM ?zz_h0 ?zz_hj ?zz_hl ?_ ?zz_hs ?zz_ht; (case zz_h0 => (first | lia | omega)); (case zz_hj => first | (first | lia | omega) | (simp only [List.length_drop, List.length_take, List.length_reverse] at *; (first | lia | omega))); (case zz_hl => first | (first | lia | omega) | (simp only [List.length_drop, List.length_take, List.length_reverse] at *; (first | lia | omega))); (case zz_hs => with_unfolding_all rfl); (case zz_ht => (intro _; with_unfolding_all rfl)); k_whole); intro _ _))
  (k_with "inplaceOp Sub int int" => (k_here; with_reducible refine' Mine.isubIs ?zz_k1 ?_; (case zz_k1 => assumption)))
  (k_with "call builtin:min" => (k_here; (with_reducible show wpAny _ _ (call (Value.builtin _) [Value.int _ _, Value.int _ _]) _ _ _); k_dflt (refine' Mine.min2 ?zz_k1 ?zz_k2 ?zz_k3 ?_; (case zz_k1 => exact rfl); (case zz_k2 => k_asm); (case zz_k3 => k_asm); k_whole); intro _ _ _ _ _))
  (k_with "call builtin:max" => (k_here; (with_reducible show wpAny _ _ (call (Value.builtin _) [Value.int _ _, Value.int _ _]) _ _ _); k_dflt (refine' Mine.max2 ?zz_k1 ?zz_k2 ?zz_k3 ?_; (case zz_k1 => exact rfl); (case zz_k2 => k_asm); (case zz_k3 => k_asm); k_whole); intro _ _ _ _ _))
  (k_with "call type:range" => (k_here; (with_reducible show wpAny _ _ (call (Value.type _) [Value.int (Nat.cast _) _]) _ _ _); k_dflt (refine' Mine.rng1 ?zz_k1 ?zz_k2 ?_; (case zz_k1 => k_asm); (case zz_k2 => k_asm); k_whole); intro _ _ _ _ _ _ _ _ _))
  (k_with "call type:range" => (k_here; (with_reducible show wpAny _ _ (call (Value.type _) [Value.int _ _, Value.int _ _, Value.int _ _]) _ _ _); k_dflt (refine' Mine.rng3 ?zz_k1 ?zz_k2 ?zz_k3 ?zz_k4 ?_; (case zz_k1 => k_asm); (case zz_k2 => k_asm); (case zz_k3 => decide); (case zz_k4 => decide); k_whole); intro _ _ _ _ _ _ _ _ _))
  (k_with "call type:list" => (k_here; (with_reducible show wpAny _ _ (call (Value.type _) [Value.ref _]) _ _ _); k_dflt (refine' Mine.listRng2 ?zz_k1 ?zz_k2 ?zz_k3 ?zz_k4 ?zz_k5 ?_; (case zz_k1 => exact rfl); (case zz_k2 => k_asm); (case zz_k3 => k_asm); (case zz_k4 => assumption); (case zz_k5 => (first | lia | omega)); k_whole); intro _ _ _ _ _ _ _ _ _))
  (k_with "call ref" => (k_here; (with_reducible show wpAny _ _ (call (Value.ref 91) [Value.int _ _, Value.int _ _]) _ _ _); k_dflt (refine' Mine.useWd1 ?zz_h0 ?zz_h1 ?zz_h2 ?zz_h3 ?zz_cN ?zz_p1 ?zz_cTS ?zz_p2 ?zz_cB ?zz_cF ?zz_cX ?zz_cT ?zz_cf ?zz_ck ?zz_cd ?zz_cdp ?zz_cun ?_; (case zz_cN => k_asm); (case zz_p1 => repeat' (first | exact Mine.Pick.head | refine' Mine.Pick.tail ?_)); (case zz_cTS => assumption); (case zz_p2 => repeat' (first | exact Mine.Pick.head | refine' Mine.Pick.tail ?_)); (case zz_cB => k_asm); (case zz_cF => k_asm); (case zz_cX => k_asm); (case zz_cT => k_asm); (case zz_cf => exact rfl); (case zz_ck => exact rfl); (case zz_cdp => ktr_room); (case zz_cun => ktr_units); (case zz_h0 => (first | lia | omega)); (case zz_h1 => (first | lia | omega)); (case zz_h2 => (first | lia | omega)); (case zz_h3 => (first | lia | omega)); (case zz_cd => repeat' (first | exact List.forall_mem_nil _ | (refine' List.forall_mem_cons.mpr ⟨?_, ?_⟩) | k_ne)); k_whole); intro _ _ _ _ _ _ _ _ _ _))
  (k_with "call ref" => (k_here; (with_reducible show wpAny _ _ (call (Value.ref 84) [Value.str (Mine.S _) _, Value.str (Mine.S _) _, Value.int _ _]) _ _ _); k_dflt (refine' Mine.useLevI ?zz_k0 ?zz_k1 ?zz_k2 ?zz_cB ?zz_cF ?zz_cX ?zz_cN ?zz_cT ?zz_cf ?zz_ck ?zz_cdp ?zz_cun ?_; (case zz_k0 => (first | lia | omega)); (case zz_k1 => first | (first | lia | omega) | (rw [Mine.wdL_len]; (first | lia | omega))); (case zz_k2 => first | (first | lia | omega) | (rw [Mine.wdL_len]; (first | lia | omega))); (case zz_cN => k_asm); (case zz_cB => k_asm); (case zz_cF => k_asm); (case zz_cX => k_asm); (case zz_cT => k_asm); (case zz_cf => exact rfl); (case zz_ck => exact rfl); (case zz_cdp => ktr_room); (case zz_cun => ktr_units); k_whole); intro _ _ _ _ _))
  (k_with "execs cons" => (k_here; k_fold))
  (k_with "eval ListComp" => (k_here; k_fold))
  trivial
namespace Mine
theorem told_spec (w : World) (xs : List Nat) (m : Nat) (tx tm : Tok) (hx : xs.length ≤ 20) (hm : 1 ≤ m) (hm2 : m ≤ 3) (p44 : Array Value) (c44 : Addr) (o44 : Obj) (h44 : T44 p44 c44 o44) :
    C3 w 110 92 850 [(30, tabObj p44), (c44, o44)] [.str (S xs) tx, .int m tm] (fun v n' => ∃ t ps' c' oc', v = .int (toldF xs m) t ∧ n' = [(30, tabObj ps'), (c', oc')] ∧ T44 ps' c' oc') := by
  intro p loose mean mg mb dp un gd fr base g s R B X T st sz N hd hu hret
  k_dflt (refine' enterP ?k1 ?kst ?ksz ?kN ?kX ?kT ?k6 ?k7 ?k8 ?k9 ?kB ?_ ?c2 ?c3 ?c4 ?c5; (case k1 => exact B); (case kst => exact st); (case ksz => exact sz); (case kN => exact N); (case kX => exact X); (case kT => exact T); (case k6 => k_is); (case k7 => k_is); (case k8 => ktr_room); (case k9 => exact BindsTo.of_eq rfl); (case c5 => decide); (case kB => exact locs rfl); (case c2 => exact rfl); (case c3 => exact rfl); (case c4 => exact rfl); k_whole; intro L' h' F' N' l0; (try dsimp only); (try k_lt l0); (try k_fold))
  repeat' (first | (k_unfold; (try dsimp only)) | walk1 | (dsimp only; walk1))
  · dsimp only
    k_dflt (refine' hret _ _ _ _ ⟨_, _, _, _, congrArg (fun z => Value.int z _) (told_a ?l), rfl, ?t⟩ (Fr.keep ?F) (outS ?N (List.forall_mem_cons.mpr ⟨?m1, List.forall_mem_cons.mpr ⟨?m2, List.forall_mem_nil _⟩⟩)); (case F => k_asm); (case N => k_asm); (case m1 => k_mem); (case t => assumption); (case m2 => k_mem); (case l => assumption))
  · dsimp only
    k_dflt (refine' hret _ _ _ _ ⟨_, _, _, _, congrArg (fun z => Value.int z _) (told_b ?l), rfl, ?t⟩ (Fr.keep ?F) (outS ?N (List.forall_mem_cons.mpr ⟨?m1, List.forall_mem_cons.mpr ⟨?m2, List.forall_mem_nil _⟩⟩)); (case F => k_asm); (case N => k_asm); (case m1 => k_mem); (case t => assumption); (case m2 => k_mem); (case l => assumption))
end Mine

namespace Mine
open PyProof.Rows.LCg PyProof.Rows.LCt
section
variable {prog : Program} {w : World} {A : Around} {E : Value → Shared → Prop} {s : Shared} {h₀ : Heap} {L : Addr} {m : Str → Option Value} {env : Env}
noncomputable def SrcS (prog : Program) (w : World) (A : Around) (h₀ : Heap) (L : Addr) (m : Str → Option Value) (env : Env) (ct elt : Expr) (x : Str) (scope : Scope) (cl : List (Str × Addr)) (Q : Value → Shared → Prop) (xv : Value) (s₁ : Shared) : Prop :=
  ∃ z t news, xv = .str z t ∧ A.handled = none ∧ Fr h₀ L s₁.heap m ∧ News h₀ L s₁.heap news ∧ z.cps.all (· < 128) = true ∧ z.cps.size ≤ sizeLine ∧
    ∀ s₂ : Shared, (∃ h, s₂ = { s₁ with heap := h }) → CompRestT prog w A h₀ L m env ct elt x scope cl s₂ (fun _ => True) (SignAt z) (FinE h₀ L m s₂ Q) z.cps.size 0 [] news
theorem compStr {ct elt iter : Expr} {x : Str} {px : Pos} {scope : Scope} {cl : List (Str × Addr)} {pos : Pos} {Q : Value → Shared → Prop} (F₀ : Fr h₀ L s.heap m)
    (hclos : closureFor scope env = pure cl) (hcell : ∀ y ∈ scope.names, y.2 ≠ .cell) (hkind : scope.kind = .function)
    (hnames : ∀ y ∈ scope.names, y.2 = .local → scope.names.lookup y.1 = some .local) (hx : scope.names.lookup x = some .local)
    (h : wpAny (model prog w) A (eval iter env) (fun v s' => Halt (SrcS prog w A h₀ L m env ct elt x scope cl Q v s')) E s)
    (hs : ∀ x, foldedSetIterable iter env x = pure x := by intro _; rfl) :
    wpAny (model prog w) A (eval (.ListComp elt [⟨.Name x px, iter, [ct], 0⟩] scope pos) env) Q E s := by
  rw [eval_ListComp]
  refine wpAny_comprehension_free (use := none) rfl hs hclos hkind hnames (wpAny_mono h (fun xv s₁ h₁ => ?_) fun _ _ e => e)
  obtain ⟨z, t, news, rfl, hh, F, N, ha, hsz, R⟩ := h₁
  refine wpAny_pyIter_ascii ha ?_
  have up : ∀ b o, s₁.heap.get? b = some o → (s₁.heap.push { cls := .type "str_ascii_iterator", data := .fields #[.str z t, .int 0 0] }).get? b = some o := fun b o e => Heap.get?_push_of_some _ e
  refine block_T (Walks.strAscii hh s₁.heap.objs.size z t) hsz (fun i h st => by obtain ⟨o, e, _⟩ := st; exact ⟨o, e⟩)
    (fun i g g' o nw st e e' _ _ _ => by obtain ⟨o1, e1, r1⟩ := st; rw [e] at e1; cases e1; exact ⟨o, e', r1⟩)
    hcell hkind hx ⟨_, Heap.get?_push_size _ rfl, rfl, rfl⟩ (fun b hb => ?_)
    (F.keeps up) (N.grown up) (Nat.ne_of_lt F.ns.lt) (next_is_new F) (fun p hp => Nat.ne_of_lt (Heap.lt_size (N p hp).1)) trivial (R _ ⟨_, rfl⟩) ?_
  · rw [List.mem_singleton.mp hb]
    show s₁.heap.objs.size < (s₁.heap.push _).objs.size
    rw [Heap.size_push]; exact Nat.lt_succ_self _
  · intro D C h tk m' ys news' F' N' o1 hn hC₀ hD₀ hCL hDL hCD offC fin
    refine ⟨m', hn, fun h'' hs'' => fin D h'' tk (F'.change hs'' hCL hC₀) (fun p hp => ?_) o1⟩
    refine ⟨hs''.extBut _ _ ?_ (N' p hp).1, (N' p hp).2⟩
    rcases List.mem_cons.mp hp with rfl | hp
    · exact Ne.symm hCD
    · exact offC p hp
theorem compFilt {ct elt : Expr} {x : Str} {scope : Scope} {cl : List (Str × Addr)} {news : List (Addr × Obj)} {Fin : List Value → List (Addr × Obj) → Prop} (xs : List Nat) (p : Nat → Bool)
    (hfin : ∀ ys : List Value, ys.length = (xs.filter p).length → Fin ys news)
    (turn : ∀ (c : Nat) (t : Tok) (I : Addr) (oI : Obj) (C : Addr) (oC : Obj) (D : Addr) (ys : List Value) (m₂ : Str → Option Value) (h : Heap) (tk : Nat) (E' : Value → Shared → Prop) (R1 R2 : Value → List (Addr × Obj) → Prop),
      c ∈ xs → NsObj oC m₂ → m₂ x = some (.str (S [c]) t) → Fr h₀ L h m → News h₀ L h ((I, oI) :: (C, oC) :: (D, lst ys) :: news) → Off3 I C D news → ((@Ne Nat I C) ∧ (@Ne Nat I D) ∧ (@Ne Nat C D)) →
      (p c = true → ∀ y, R1 y news) → (p c = false → R2 .none news) →
      wpAny (model prog w) A (isTrue ct (compEnvC scope cl C env) (eval ct (compEnvC scope cl C env))) (fun ok s' => if ok = true then
        wpAny (model prog w) A (eval elt (compEnvC scope cl C env)) (CompEnd h₀ L m { s with heap := h, toks := tk } I oI C oC D (lst ys) (fun _ => True) R1) E' s'
        else CompEnd h₀ L m { s with heap := h, toks := tk } I oI C oC D (lst ys) (fun _ => True) R2 Value.none s') E' { s with heap := h, toks := tk }) :
    ∀ (k i : Nat) (ys : List Value), i + k = xs.length → ys.length = ((xs.take i).filter p).length →
      CompRestT prog w A h₀ L m env ct elt x scope cl s (fun _ => True) (SignAt (S xs)) Fin k i ys news
  | 0, i, ys, hk, hy => by
    refine CompRestT.zero (hfin ys ?_)
    rw [hy, List.take_of_length_le (by (first | lia | omega))]
  | k + 1, i, ys, hk, hy => by
    refine CompRestT.succ fun v I oI C oC D m₂ h tk E' hv hC hx F N off ne => ?_
    obtain ⟨c, t, hc, rfl⟩ := hv
    have hi : i < xs.length := by (first | lia | omega)
    have e : xs[i] = c := by
      have : (S xs).cps[i]? = some xs[i] := by simp [S, hi]
      rw [this] at hc; exact Option.some.inj hc
    have hm : c ∈ xs := e ▸ List.getElem_mem hi
    have ht : xs.take (i + 1) = xs.take i ++ [c] := by rw [List.take_add_one, List.getElem?_eq_getElem hi, e]; rfl
    refine turn c t I oI C oC D ys m₂ h tk E' _ _ hm hC hx F N off ne (fun hp y => ?_) (fun hp => ?_)
    · refine compFilt xs p hfin turn k (i + 1) (ys ++ [y]) (by (first | lia | omega)) ?_
      rw [ht, List.filter_append, List.length_append, List.length_append, hy]
      simp [hp]
    · refine compFilt xs p hfin turn k (i + 1) ys (by (first | lia | omega)) ?_
      rw [ht, List.filter_append, List.length_append, hy]
      simp [hp]
end
theorem S_ascii {xs : List Nat} (ha : ∀ c ∈ xs, c < 128) : (S xs).cps.all (· < 128) = true := by
  simp only [S, List.all_toArray, List.all_eq_true]
  intro c hc
  exact decide_eq_true (ha c hc)
theorem S_lt {c : Nat} : (S [c]).cps.toList < (Str.ofString "a").cps.toList ↔ c < 97 := by
  rw [show (Str.ofString "a").cps.toList = [97] from by decide +kernel, S_cps, List.cons_lt_cons_iff]
  constructor
  · rintro (h | ⟨_, h⟩)
    · exact h
    · exact absurd h (List.not_lt_nil _)
  · exact fun h => .inl h
theorem lenY {prog : Program} {w : World} {A : Around} {E : Value → Shared → Prop} {s : Shared} {h₀ : Heap} {L : Addr} {news : List (Addr × Obj)} {l : Addr} {ys : List Value} {n : Nat} {Q : Value → Shared → Prop} (N : News h₀ L s.heap news) (hm : (l, LCg.lst ys) ∈ news) (hl : ys.length = n) (hfit : n < 2 ^ 62)
    (h : ∀ t tk, Q (.int (n : Nat) t) { s with toks := tk }) : wpAny (model prog w) A (call (.builtin "len") [.ref l]) Q E s := by
  have e : ys.toArray.size = n := by simp [hl]
  refine Calls.call_len_list (PySem.IsL.isList (n := ys.length) (N _ hm).1) (by (first | lia | omega)) ?_
  rw [e]
  exact h _ _
end Mine
theorem Mine.rows9_0 : True := by
  k_with_none
  (k_with "call builtin:max" => (k_here; (with_reducible show wpAny _ _ (call (Value.builtin _) [Value.int _ _, Value.int _ _, Value.int _ _]) _ _ _); (with_unfolding_all refine' Mine.max3 ?zz_k1 ?zz_k2 ?zz_k3 ?_; (case zz_k1 => rfl); (case zz_k2 => k_asm); (case zz_k3 => k_asm); k_whole); intro _ _ _ _ _))
  (k_with "call builtin:min" => (k_here; (with_reducible show wpAny _ _ (call (Value.builtin _) [Value.int _ _, Value.int _ _, Value.int _ _]) _ _ _); (with_unfolding_all refine' Mine.min3 ?zz_k1 ?zz_k2 ?zz_k3 ?_; (case zz_k1 => rfl); (case zz_k2 => k_asm); (case zz_k3 => k_asm); k_whole); intro _ _ _ _ _))
  (k_with "binaryOp Mult ref int" => (k_here; k_dflt (refine' Mine.mulOne ?zz_k1 ?zz_k2 ?zz_k3 ?zz_k4 ?zz_k5 ?_; (case zz_k1 => k_asm); (case zz_k2 => k_asm); (case zz_k3 => k_mem); (case zz_k4 => first | (first | lia | omega) | assumption | l_fact); (case zz_k5 => first | (first | lia | omega) | assumption | l_fact); k_whole); intro _ _ _ _ _ _ _; (try k_sweep)))
  (k_with "call builtin:divmod" => (k_here; (with_reducible show wpAny _ _ (call (Value.builtin _) [Value.int _ _, Value.int _ _]) _ _ _); refine divmod_N (by assumption) (by assumption) (by side_arith) ?_; intro _ _ _))
  (k_with "call builtin:len" => (k_here; (with_reducible show wpAny _ _ (call (Value.builtin _) [Value.ref _]) _ _ _); k_dflt (refine' Mine.lenN ?zz_k1 ?zz_k2 ?zz_k3 ?zz_k4 ?_; (case zz_k1 => k_asm); (case zz_k2 => k_mem); (case zz_k3 => with_reducible assumption); (case zz_k4 => ((try simp only [List.length_append, List.length_cons, List.length_nil, List.length_replicate, List.length_map]); (first | lia | omega))); k_whole); intro _ _))
  (k_with "binaryOp Sub int int" => (k_here; with_reducible refine' Mine.subIs ?zz_k1 ?_; (case zz_k1 => assumption)))
  (k_with "binaryOp Add int int" => (k_here; with_reducible refine' Mine.addIs ?zz_k1 ?_; (case zz_k1 => assumption)))
  (k_with "binaryOp Mult int int" => (k_here; with_reducible refine' Mine.mulIs ?zz_k1 ?zz_k2 ?_; (case zz_k1 => assumption); (case zz_k2 => exact Mine.bits64 (by (first | lia | omega)))))
  (k_with "binaryOp RShift int int" => (k_here; with_reducible refine' Mine.shrIs ?zz_k1 ?zz_k2 ?_; (case zz_k1 => assumption); (case zz_k2 => (first | lia | omega))))
  (k_with "binaryOp LShift int int" => (k_here; with_reducible refine' Mine.shlIs ?zz_k1 ?zz_k2 ?zz_k3 ?zz_k4 ?_; (case zz_k1 => assumption); (case zz_k2 => (first | lia | omega)); (case zz_k3 => (first | lia | omega)); (case zz_k4 => (first | lia | omega))))
  (k_with "binaryOp BitXor int int" => (k_here; with_reducible refine' Mine.xorIs ?zz_k1 ?_; (case zz_k1 => assumption)))
  (k_with "exec FunctionDef" => (k_here; kn_here; k_dflt (refine' nestDef_K ?zz_d0 ?zz_k0 ?zz_a0 ?_; (case zz_d0 => exact rfl); (case zz_k0 => exact rfl); (case zz_a0 => exact rfl)); (k_dflt (refine' Mine.nestBoth ?zz_F ?zz_N ?zz_T ?zz_C ?zz_cd ?zz_hs ?zz_ht ?zz_hP ?zz_hc ?zz_cl ?_; (case zz_F => k_asm); (case zz_N => k_asm); (case zz_T => k_asm); (case zz_cd => exact rfl); (case zz_C => kn_code); (case zz_hs => exact rfl); (case zz_ht => assumption); (case zz_hP => (dsimp only [List.dropLast]; k_all)); (case zz_hc => (dsimp only [List.dropLast]; k_all)); (case zz_cl => exact rfl); k_whole); intro _ _ _ _ _ _ _ _ _ _ N' _ _ l1 l2 _ _ _; (dsimp only [List.dropLast, List.append, HAppend.hAppend, Append.append] at N' l1 l2); (simp only [List.forall_mem_cons, List.forall_mem_nil, and_true] at l1 l2); (repeat (obtain ⟨_, l1⟩ := l1)); (repeat (obtain ⟨_, l2⟩ := l2)))))
  (k_with "call builtin:list.append" => (k_here; (with_reducible show wpAny _ _ (call (Value.builtin _) [Value.ref _, _]) _ _ _); k_dflt (refine' Mine.appendL ?zz_k1 ?zz_k2 ?zz_k3 ?zz_k4 ?_; (case zz_k1 => k_asm); (case zz_k2 => k_asm); (case zz_k3 => k_upd); (case zz_k4 => first | (first | lia | omega) | (simp only [List.length_nil, List.length_cons]; (first | lia | omega))); k_whole); intro _ _ _; (try k_sweep)))
  (k_with "call builtin:list.reverse" => (k_here; (with_reducible show wpAny _ _ (call (Value.builtin _) _) _ _ _); (try dsimp only); k_dflt (refine' Mine.reverseL ?zz_k1 ?zz_k2 ?zz_k3 ?zz_k4 ?zz_k5 ?_; (case zz_k1 => k_asm); (case zz_k2 => k_asm); (case zz_k3 => k_upd); (case zz_k4 => with_reducible assumption); (case zz_k5 => (first | lia | omega)); k_whole); intro _ _ _ _; (try k_sweep)))
  (k_with "unaryOp Invert int" => (k_here; with_reducible refine' Mine.invIs ?zz_k1 ?_; (case zz_k1 => assumption)))
  (k_with "exec While" => (k_here; refine Mine.halt ?_))
  (k_with "subscriptTail Name Slice str ref" => (k_here; (try dsimp only); (with_reducible show wpAny _ _ (subscriptTail _ (Expr.Slice (some _) none none _) (Value.str (Mine.S _) _) _) _ _ _); k_dflt (refine' Mine.sFrom (s := ⟨_, _, _, _, _⟩) ?zz_F ?zz_N ?zz_hk ?zz_hl ?_ ?zz_hs ?zz_ht; (case zz_hk => first | (first | lia | omega) | (simp only [List.length_drop, List.length_take, List.length_reverse] at *; (first | lia | omega))); (case zz_F => k_asm); (case zz_N => k_asm); (case zz_hl => first | (first | lia | omega) | (simp only [List.length_drop, List.length_take, List.length_reverse] at *; (first | lia | omega))); (case zz_hs => with_unfolding_all rfl); (case zz_ht => (intro _; with_unfolding_all rfl)); k_whole); intro _ _ _ _ _; (try k_sweep)))
  (k_with "subscriptTail Name Slice str ref" => (k_here; (try dsimp only); (with_reducible show wpAny _ _ (subscriptTail _ (Expr.Slice none (some _) none _) (Value.str (Mine.S _) _) _) _ _ _); k_dflt (first | (refine' Mine.sAll (s := ⟨_, _, _, _, _⟩) ?zz_F ?zz_N ?zz_hl ?_ ?zz_hs ?zz_ht; (case zz_F => k_asm); (case zz_N => k_asm); (case zz_hl => first | (first | lia | omega) | (simp only [List.length_drop, List.length_take, List.length_reverse] at *; (first | lia | omega))); (case zz_hs => with_unfolding_all rfl); (case zz_ht => (intro _; with_unfolding_all rfl)); k_whole) | (refine' Mine.sNeg (s := ⟨_, _, _, _, _⟩) ?zz_F ?zz_N ?zz_h0 ?zz_hj ?zz_hl ?_ ?zz_hs ?zz_ht; (case zz_h0 => (first | lia | omega)); (case zz_hj => first | (first | lia | omega) | (simp only [List.length_drop, List.length_take, List.length_reverse] at *; (first | lia | omega))); (case zz_F => k_asm); (case zz_N => k_asm); (case zz_hl => first | (first | lia | omega) | (simp only [List.length_drop, List.length_take, List.length_reverse] at *; (first | lia | omega))); (case zz_hs => with_unfolding_all rfl); (case zz_ht => (intro _; with_unfolding_all rfl)); k_whole)); intro _ _ _ _ _; (try k_sweep)))
  (k_with "subscriptTail Name Name str int" => (k_here; (try dsimp only); (with_reducible show wpAny _ _ (subscriptTail _ _ (Value.str (Mine.S _) _) (Value.int _ _)) _ _ _); k_dflt (refine' Mine.sItem ?zz_hk ?zz_hl ?_ ?zz_hs ?zz_ht; (case zz_hk => first | (first | lia | omega) | (simp only [List.length_drop, List.length_take, List.length_reverse] at *; (first | lia | omega))); (case zz_hl => first | (first | lia | omega) | (simp only [List.length_drop, List.length_take, List.length_reverse] at *; (first | lia | omega))); (case zz_hs => with_unfolding_all rfl); (case zz_ht => (intro _; with_unfolding_all rfl)); k_whole); intro _ _))
  (k_with "subscriptTail Name BinOp str int" => (k_here; (try dsimp only); (with_reducible show wpAny _ _ (subscriptTail _ _ (Value.str (Mine.S _) _) (Value.int _ _)) _ _ _); k_dflt (refine' Mine.sItemN ?zz_hk ?zz_hl ?_ ?zz_hs ?zz_ht; (case zz_hk => first | (first | lia | omega) | (simp only [List.length_drop, List.length_take, List.length_reverse] at *; (first | lia | omega))); (case zz_hl => first | (first | lia | omega) | (simp only [List.length_drop, List.length_take, List.length_reverse] at *; (first | lia | omega))); (case zz_hs => with_unfolding_all rfl); (case zz_ht => (intro _; with_unfolding_all rfl)); k_whole); intro _ _))
  (k_with "truthy str" => (k_here; (with_reducible show wpAny _ _ (truthy (Value.str (Mine.S _) _)) _ _ _); k_dflt (refine' Mine.sTruthy ?zz_hl ?_; (case zz_hl => first | (first | lia | omega) | (simp only [List.length_drop, List.length_take, List.length_reverse] at *; (first | lia | omega))); k_whole); intro _))
  (k_with "compareOp Eq str str" => (k_here; (with_reducible show wpAny _ _ (compareOp _ (Value.str (Mine.S _) _) (Value.str (Mine.S _) _)) _ _ _); k_dflt (refine' Mine.sEq ?_; k_whole)))
  (k_with "call builtin:len" => (k_here; (with_reducible show wpAny _ _ (call (Value.builtin _) [Value.str (Mine.S _) _]) _ _ _); k_dflt (refine' Mine.sLen ?zz_hl ?_; (case zz_hl => first | (first | lia | omega) | (simp only [List.length_drop, List.length_take, List.length_reverse] at *; (first | lia | omega))); k_whole); intro _ _))
  (k_with "eval BoolOp" => (k_here; k_dflt (refine' Mine.evalOrNone ?zz_F ?zz_hv ?_ ?zz_hk ?zz_hl ?zz_hd; (case zz_F => k_asm); (case zz_hv => exact rfl); (case zz_hk => exact rfl); (case zz_hl => exact rfl); (case zz_hd => decide); k_whole)))
  (k_with "subscriptTail Name Slice str ref" => (k_here; (try dsimp only); (with_reducible show wpAny _ _ (subscriptTail _ (Expr.Slice none (some _) none _) (Value.str (Mine.S _) _) _) _ _ _); k_dflt (refine' Mine.sOr (s := ⟨_, _, _, _, _⟩) ?zz_F ?zz_N ?zz_hj ?zz_hl ?_ ?zz_hs ?zz_ht; (case zz_hj => first | (first | lia | omega) | (simp only [List.length_drop, List.length_take, List.length_reverse] at *; (first | lia | omega))); (case zz_F => k_asm); (case zz_N => k_asm); (case zz_hl => first | (first | lia | omega) | (simp only [List.length_drop, List.length_take, List.length_reverse] at *; (first | lia | omega))); (case zz_hs => with_unfolding_all rfl); (case zz_ht => (intro _; with_unfolding_all rfl)); k_whole); intro _ _ _ _ _; (try k_sweep)))
  (k_with "subscriptTail Name BinOp str int" => (k_here; (try dsimp only); (with_reducible show wpAny _ _ (subscriptTail _ _ (Value.str (Mine.S _) _) (Value.int (-(Nat.cast _)) _)) _ _ _); k_dflt (refine' Mine.sItemM ?zz_h0 ?zz_hj ?zz_hl ?_ ?zz_hs ?zz_ht; (case zz_h0 => (first | lia | omega)); (case zz_hj => first | (first | lia | omega) | (simp only [List.length_drop, List.length_take, List.length_reverse] at *; (first | lia | omega))); (case zz_hl => first | (first | lia | omega) | (simp only [List.length_drop, List.length_take, List.length_reverse] at *; (first | lia | omega))); (case zz_hs => with_unfolding_all rfl); (case zz_ht => (intro _; with_unfolding_all rfl)); k_whole); intro _ _))
  (k_with "inplaceOp Sub int int" => (k_here; with_reducible refine' Mine.isubIs ?zz_k1 ?_; (case zz_k1 => assumption)))
  (k_with "call builtin:min" => (k_here; (with_reducible show wpAny _ _ (call (Value.builtin _) [Value.int _ _, Value.int _ _]) _ _ _); k_dflt (refine' Mine.min2 ?zz_k1 ?zz_k2 ?zz_k3 ?_; (case zz_k1 => exact rfl); (case zz_k2 => k_asm); (case zz_k3 => k_asm); k_whole); intro _ _ _ _ _))
  (k_with "call builtin:max" => (k_here; (with_reducible show wpAny _ _ (call (Value.builtin _) [Value.int _ _, Value.int _ _]) _ _ _); k_dflt (refine' Mine.max2 ?zz_k1 ?zz_k2 ?zz_k3 ?_; (case zz_k1 => exact rfl); (case zz_k2 => k_asm); (case zz_k3 => k_asm); k_whole); intro _ _ _ _ _))
  (k_with "call type:range" => (k_here; (with_reducible show wpAny _ _ (call (Value.type _) [Value.int (Nat.cast _) _]) _ _ _); k_dflt (refine' Mine.rng1 ?zz_k1 ?zz_k2 ?_; (case zz_k1 => k_asm); (case zz_k2 => k_asm); k_whole); intro _ _ _ _ _ _ _ _ _))
  (k_with "call type:range" => (k_here; (with_reducible show wpAny _ _ (call (Value.type _) [Value.int _ _, Value.int _ _, Value.int _ _]) _ _ _); k_dflt (refine' Mine.rng3 ?zz_k1 ?zz_k2 ?zz_k3 ?zz_k4 ?_; (case zz_k1 => k_asm); (case zz_k2 => k_asm); (case zz_k3 => decide); (case zz_k4 => decide); k_whole); intro _ _ _ _ _ _ _ _ _))
  (k_with "call type:list" => (k_here; (with_reducible show wpAny _ _ (call (Value.type _) [Value.ref _]) _ _ _); k_dflt (refine' Mine.listRng2 ?zz_k1 ?zz_k2 ?zz_k3 ?zz_k4 ?zz_k5 ?_; (case zz_k1 => exact rfl); (case zz_k2 => k_asm); (case zz_k3 => k_asm); (case zz_k4 => assumption); (case zz_k5 => (first | lia | omega)); k_whole); intro _ _ _ _ _ _ _ _ _))
  (k_with "eval ListComp" => (k_here; k_dflt (refine' Mine.compStr ?zz_F ?zz_h1 ?zz_h2 ?zz_h3 ?zz_h4 ?zz_h5 ?_; (case zz_F => k_asm); (case zz_h1 => with_unfolding_all rfl); (case zz_h2 => decide); (case zz_h3 => exact rfl); (case zz_h4 => decide); (case zz_h5 => exact rfl); k_whole)))
  (k_with "execs cons" => (k_here; k_fold))
  (k_with "eval ListComp" => (k_here; k_fold))
  trivial
namespace Mine
open PyProof.Rows.LCg PyProof.Rows.LCt
theorem great_spec (w : World) (xs : List Nat) (tx : Tok) (hx : xs.length ≤ 100) (ha : ∀ c ∈ xs, c < 128) :
    C3 w 96 3 40 [] [.str (S xs) tx] (fun v n' => ∃ t, v = .int ((xs.filter fun c => decide (c < 97)).length : Nat) t ∧ n' = []) := by
  intro p loose mean mg mb dp un gd fr base g s R B X T st sz N hd hu hret
  k_dflt (refine' enterP ?k1 ?kst ?ksz ?kN ?kX ?kT ?k6 ?k7 ?k8 ?k9 ?kB ?_ ?c2 ?c3 ?c4 ?c5; (case k1 => exact B); (case kst => exact st); (case ksz => exact sz); (case kN => exact N); (case kX => exact X); (case kT => exact T); (case k6 => k_is); (case k7 => k_is); (case k8 => ktr_room); (case k9 => exact BindsTo.of_eq rfl); (case c5 => decide); (case kB => exact locs rfl); (case c2 => exact rfl); (case c3 => exact rfl); (case c4 => exact rfl); k_whole; intro L' h' F' N' l0; (try dsimp only); (try k_lt l0); (try k_fold))
  repeat' (first | (k_unfold; (try dsimp only)) | walk1 | (dsimp only; walk1))
  refine goOn ⟨_, _, _, rfl, rfl, by k_asm, by k_asm, S_ascii ha, by show xs.toArray.size ≤ _; rw [List.size_toArray]; unfold sizeLine; (first | lia | omega), ?_⟩
  rintro _ ⟨g1, rfl⟩
  refine compFilt xs (fun c => decide (c < 97)) ?fin ?turn _ 0 [] (by show 0 + xs.toArray.size = _; rw [List.size_toArray]; (first | lia | omega)) rfl
  case turn =>
    intro c t I oI C oC D ys m₂ h tk E' R1 R2 hm hC hx F1 N1 off ne h1 h2
    repeat' (first | (k_unfold; (try dsimp only)) | walk1 | (dsimp only; walk1))
    · exact h1 (decide_eq_true (S_lt.mp (by assumption))) _
    · exact h2 (decide_eq_false fun q => absurd (S_lt.mpr q) (by assumption))
  case fin =>
    intro ys hy D h1 tk1 F1 N1 o1
    dsimp only
    repeat' (first | (k_unfold; (try dsimp only)) | walk1 | (dsimp only; walk1))
    k_dflt (refine' Mine.lenY N1 (.head _) hy ?hf ?_; (case hf => (have := List.length_filter_le (fun c => decide (c < 97)) xs; (first | lia | omega))); k_whole)
    intro t' tk'
    repeat' (first | (k_unfold; (try dsimp only)) | walk1 | (dsimp only; walk1))
    exact hret _ _ _ _ ⟨_, rfl, rfl⟩ (Fr.keep (by k_asm)) outE
end Mine

namespace Mine
section
variable {prog : Program} {w : World} {A : Around} {E : Value → Shared → Prop} {s : Shared} {env : Env} {h₀ : Heap} {x : Str} {body : List Stmt} {Q : Flow → Shared → Prop}
theorem loopT {σ : Type} {ax : Addr} {its : List Value} {news : List (Addr × Obj)} {m₀ : Str → Option Value} (Led : σ → List (Addr × Obj)) (ps : σ → List (Str × Value)) (P : Nat → σ → Prop) (c₀ : σ)
    (hh : A.handled = none) (hax : (ax, tupOf its) ∈ news) (F : Fr h₀ env.locals s.heap m₀) (N : News h₀ env.locals s.heap news) (hL : ∀ q ∈ Led c₀, q ∈ news) (hA : ∀ q ∈ Led c₀, q.1 ≠ ax) (hk : ∀ p ∈ ps c₀, m₀ p.1 = some p.2) (hp : P 0 c₀)
    (turn : ∀ i v (c : σ) (u : Str → Option Value) h tk own, i < its.length → its[i]? = some v → OwnOff own ((Led c₀).map (·.1)) → P i c → Fr h₀ env.locals h (fun y => if y = x then some v else kstB u (ps c) y) → News h₀ env.locals h (Led c ++ own) →
      wpAny (model prog w) A (execs body env) (InvPostN h₀ env.locals (LEnd h₀ env.locals Led ps (P (i + 1))) own ((Led c₀).map (·.1)) { s with heap := h, toks := tk } Q) E { s with heap := h, toks := tk })
    (done : ∀ (c : σ) (u : Str → Option Value) h tk, P its.length c → Fr h₀ env.locals h (kstB u (ps c)) → News h₀ env.locals h (Led c) → Q .next { s with heap := h, toks := tk }) :
    wpAny (model prog w) A (pyIter (.ref ax)) (fun it s₂ => LoopAtV prog w A h₀ env x body Q E it s₂) E s := by
  have ht : s.heap.IsTuple ax its.toArray := ⟨_, (N _ hax).1, rfl, _, rfl⟩
  have hlt : ax < s.heap.objs.size := Heap.lt_size (N _ hax).1
  refine wpAny_pyIter_tuple ht ?_
  have W := Walks.tuple (prog := prog) (w := w) hh s.heap.objs.size ax (Nat.ne_of_lt hlt) its.toArray
  rw [List.size_toArray] at W
  refine loopS Led ps P c₀ W ?_ ?_ ?_ ⟨⟨_, Heap.get?_push_size _ rfl, rfl, rfl⟩, ht.push _⟩ (F.push _) (fun q hq => ⟨Heap.get?_push_of_some _ (N q (hL q hq)).1, (N q (hL q hq)).2⟩) hk hp ?_ ?_
  · intro hm
    rcases List.mem_cons.mp hm with e | hm
    · exact absurd F.ns.lt (e ▸ Nat.lt_irrefl _)
    · exact (N _ hax).2.1 (List.mem_singleton.mp hm).symm
  · intro b hb
    rw [List.mem_singleton.mp hb]
    exact next_is_new F
  · intro q hq hm
    rcases List.mem_cons.mp hm with e | hm
    · exact absurd (Heap.lt_size (N q (hL q hq)).1) (e ▸ Nat.lt_irrefl _)
    · exact hA q hq (List.mem_singleton.mp hm)
  · intro i v c u h tk own hi hv ho hP F₁ N₁
    exact turn i v c u h tk own hi (by simpa using hv) ho hP F₁ N₁
  · intro c u h tk hP F₁ N₁
    exact done c u h tk hP F₁ N₁
end
noncomputable def dueV (h c m : Int) : Int := min m (max 0 (2 * m - min ((h - c).fmod (6 * m)) ((c - h).fmod (6 * m))))
structure DueSt where
  vs : List Value
  e : Nat
noncomputable def corners (m : Int) : List Int := [0, 2 * m, 4 * m]
noncomputable def DueP (h m : Int) (i : Nat) (c : DueSt) : Prop := IntsAre c.vs (((corners m).take i).map fun z => dueV h z m)
theorem due_at {m : Int} {t1 t2 t3 : Tok} {i : Nat} {v : Value} (hv : ([.int 0 t1, .int (2 * m) t2, .int (4 * m) t3] : List Value)[i]? = some v) : ∃ c t, v = .int c t ∧ (corners m)[i]? = some c := by
  match i, hv with
  | 0, hv => cases hv; exact ⟨_, _, rfl, rfl⟩
  | 1, hv => cases hv; exact ⟨_, _, rfl, rfl⟩
  | 2, hv => cases hv; exact ⟨_, _, rfl, rfl⟩
theorem due_next {h m c d : Int} {i e e' : Nat} {t : Tok} {vs : List Value} (H : DueP h m i ⟨vs, e⟩) (hc : (corners m)[i]? = some c) (hd : d = dueV h c m) : DueP h m (i + 1) ⟨vs ++ [.int d t], e'⟩ := by
  unfold DueP
  rw [List.take_add_one, hc, List.map_append]
  subst hd
  exact ksk_snoc H
theorem due_len {h m : Int} {i : Nat} {c : DueSt} (H : DueP h m i c) : c.vs.length ≤ 3 := by
  rw [IntsAre.length H, List.length_map, List.length_take]
  unfold corners; simp; (first | lia | omega)
theorem due_end {h m : Int} {vs : List Value} {e : Nat} (H : DueP h m 3 ⟨vs, e⟩) : ∃ t1 t2 t3, vs = [.int (dueV h 0 m) t1, .int (dueV h (2 * m) m) t2, .int (dueV h (4 * m) m) t3] := by
  have H' : IntsAre vs [dueV h 0 m, dueV h (2 * m) m, dueV h (4 * m) m] := H
  cases H' with
  | cons _ t1 H' => cases H' with
    | cons _ t2 H' => cases H' with
      | cons _ t3 H' => cases H'; exact ⟨_, _, _, rfl⟩
end Mine
theorem Mine.rows10_0 : True := by
  k_with_none
  (k_with "call builtin:max" => (k_here; (with_reducible show wpAny _ _ (call (Value.builtin _) [Value.int _ _, Value.int _ _, Value.int _ _]) _ _ _); (with_unfolding_all refine' Mine.max3 ?zz_k1 ?zz_k2 ?zz_k3 ?_; (case zz_k1 => rfl); (case zz_k2 => k_asm); (case zz_k3 => k_asm); k_whole); intro _ _ _ _ _))
  (k_with "call builtin:min" => (k_here; (with_reducible show wpAny _ _ (call (Value.builtin _) [Value.int _ _, Value.int _ _, Value.int _ _]) _ _ _); (with_unfolding_all refine' Mine.min3 ?zz_k1 ?zz_k2 ?zz_k3 ?_; (case zz_k1 => rfl); (case zz_k2 => k_asm); (case zz_k3 => k_asm); k_whole); intro _ _ _ _ _))
  (k_with "binaryOp Mult ref int" => (k_here; k_dflt (refine' Mine.mulOne ?zz_k1 ?zz_k2 ?zz_k3 ?zz_k4 ?zz_k5 ?_; (case zz_k1 => k_asm); (case zz_k2 => k_asm); (case zz_k3 => k_mem); (case zz_k4 => first | (first | lia | omega) | assumption | l_fact); (case zz_k5 => first | (first | lia | omega) | assumption | l_fact); k_whole); intro _ _ _ _ _ _ _; (try k_sweep)))
  (k_with "call builtin:divmod" => (k_here; (with_reducible show wpAny _ _ (call (Value.builtin _) [Value.int _ _, Value.int _ _]) _ _ _); refine divmod_N (by assumption) (by assumption) (by side_arith) ?_; intro _ _ _))
  (k_with "call builtin:len" => (k_here; (with_reducible show wpAny _ _ (call (Value.builtin _) [Value.ref _]) _ _ _); k_dflt (refine' Mine.lenN ?zz_k1 ?zz_k2 ?zz_k3 ?zz_k4 ?_; (case zz_k1 => k_asm); (case zz_k2 => k_mem); (case zz_k3 => with_reducible assumption); (case zz_k4 => ((try simp only [List.length_append, List.length_cons, List.length_nil, List.length_replicate, List.length_map]); (first | lia | omega))); k_whole); intro _ _))
  (k_with "binaryOp Sub int int" => (k_here; with_reducible refine' Mine.subIs ?zz_k1 ?_; (case zz_k1 => assumption)))
  (k_with "binaryOp Add int int" => (k_here; with_reducible refine' Mine.addIs ?zz_k1 ?_; (case zz_k1 => assumption)))
  (k_with "binaryOp Mult int int" => (k_here; with_reducible refine' Mine.mulIs ?zz_k1 ?zz_k2 ?_; (case zz_k1 => assumption); (case zz_k2 => exact Mine.bits64 (by (first | lia | omega)))))
  (k_with "binaryOp RShift int int" => (k_here; with_reducible refine' Mine.shrIs ?zz_k1 ?zz_k2 ?_; (case zz_k1 => assumption); (case zz_k2 => (first | lia | omega))))
  (k_with "binaryOp LShift int int" => (k_here; with_reducible refine' Mine.shlIs ?zz_k1 ?zz_k2 ?zz_k3 ?zz_k4 ?_; (case zz_k1 => assumption); (case zz_k2 => (first | lia | omega)); (case zz_k3 => (first | lia | omega)); (case zz_k4 => (first | lia | omega))))
  (k_with "binaryOp BitXor int int" => (k_here; with_reducible refine' Mine.xorIs ?zz_k1 ?_; (case zz_k1 => assumption)))
  (k_with "exec FunctionDef" => (k_here; kn_here; k_dflt (refine' nestDef_K ?zz_d0 ?zz_k0 ?zz_a0 ?_; (case zz_d0 => exact rfl); (case zz_k0 => exact rfl); (case zz_a0 => exact rfl)); (k_dflt (refine' Mine.nestBoth ?zz_F ?zz_N ?zz_T ?zz_C ?zz_cd ?zz_hs ?zz_ht ?zz_hP ?zz_hc ?zz_cl ?_; (case zz_F => k_asm); (case zz_N => k_asm); (case zz_T => k_asm); (case zz_cd => exact rfl); (case zz_C => kn_code); (case zz_hs => exact rfl); (case zz_ht => assumption); (case zz_hP => (dsimp only [List.dropLast]; k_all)); (case zz_hc => (dsimp only [List.dropLast]; k_all)); (case zz_cl => exact rfl); k_whole); intro _ _ _ _ _ _ _ _ _ _ N' _ _ l1 l2 _ _ _; (dsimp only [List.dropLast, List.append, HAppend.hAppend, Append.append] at N' l1 l2); (simp only [List.forall_mem_cons, List.forall_mem_nil, and_true] at l1 l2); (repeat (obtain ⟨_, l1⟩ := l1)); (repeat (obtain ⟨_, l2⟩ := l2)))))
  (k_with "call builtin:list.append" => (k_here; (with_reducible show wpAny _ _ (call (Value.builtin _) [Value.ref _, _]) _ _ _); k_dflt (refine' Mine.appendL ?zz_k1 ?zz_k2 ?zz_k3 ?zz_k4 ?_; (case zz_k1 => k_asm); (case zz_k2 => k_asm); (case zz_k3 => k_upd); (case zz_k4 => first | (first | lia | omega) | (simp only [List.length_nil, List.length_cons]; (first | lia | omega))); k_whole); intro _ _ _; (try k_sweep)))
  (k_with "call builtin:list.reverse" => (k_here; (with_reducible show wpAny _ _ (call (Value.builtin _) _) _ _ _); (try dsimp only); k_dflt (refine' Mine.reverseL ?zz_k1 ?zz_k2 ?zz_k3 ?zz_k4 ?zz_k5 ?_; (case zz_k1 => k_asm); (case zz_k2 => k_asm); (case zz_k3 => k_upd); (case zz_k4 => with_reducible assumption); (case zz_k5 => (first | lia | omega)); k_whole); intro _ _ _ _; (try k_sweep)))
  (k_with "unaryOp Invert int" => (k_here; with_reducible refine' Mine.invIs ?zz_k1 ?_; (case zz_k1 => assumption)))
  (k_with "call builtin:min" => (k_here; (with_reducible show wpAny _ _ (call (Value.builtin _) [Value.int _ _, Value.int _ _]) _ _ _); k_dflt (refine' Mine.min2 ?zz_k1 ?zz_k2 ?zz_k3 ?_; (case zz_k1 => exact rfl); (case zz_k2 => k_asm); (case zz_k3 => k_asm); k_whole); intro _ _ _ _ _))
  (k_with "call builtin:max" => (k_here; (with_reducible show wpAny _ _ (call (Value.builtin _) [Value.int _ _, Value.int _ _]) _ _ _); k_dflt (refine' Mine.max2 ?zz_k1 ?zz_k2 ?zz_k3 ?_; (case zz_k1 => exact rfl); (case zz_k2 => k_asm); (case zz_k3 => k_asm); k_whole); intro _ _ _ _ _))
  (k_with "binaryOp Div int int" => (k_here; k_dflt (refine' Mine.divFits ?zz_k1 ?zz_k2 ?zz_k3 ?_; (case zz_k1 => exact rfl); (case zz_k2 => first | decide | (first | lia | omega) | assumption); (case zz_k3 => assumption); k_whole)))
  (k_with "call builtin:min" => (k_here; (with_reducible show wpAny _ _ (call (Value.builtin _) [Value.int _ _, Value.int _ _]) _ _ _); k_dflt (refine' Mine.min2 ?zz_k1 ?zz_k2 ?zz_k3 ?_; (case zz_k1 => exact rfl); (case zz_k2 => k_asm); (case zz_k3 => k_asm); k_whole); intro _ _ _ _ _))
  (k_with "call builtin:max" => (k_here; (with_reducible show wpAny _ _ (call (Value.builtin _) [Value.int _ _, Value.int _ _]) _ _ _); k_dflt (refine' Mine.max2 ?zz_k1 ?zz_k2 ?zz_k3 ?_; (case zz_k1 => exact rfl); (case zz_k2 => k_asm); (case zz_k3 => k_asm); k_whole); intro _ _ _ _ _))
  (k_with "call type:range" => (k_here; (with_reducible show wpAny _ _ (call (Value.type _) [Value.int (Nat.cast _) _]) _ _ _); k_dflt (refine' Mine.rng1 ?zz_k1 ?zz_k2 ?_; (case zz_k1 => k_asm); (case zz_k2 => k_asm); k_whole); intro _ _ _ _ _ _ _ _ _))
  (k_with "call type:range" => (k_here; (with_reducible show wpAny _ _ (call (Value.type _) [Value.int _ _, Value.int _ _, Value.int _ _]) _ _ _); k_dflt (refine' Mine.rng3 ?zz_k1 ?zz_k2 ?zz_k3 ?zz_k4 ?_; (case zz_k1 => k_asm); (case zz_k2 => k_asm); (case zz_k3 => decide); (case zz_k4 => decide); k_whole); intro _ _ _ _ _ _ _ _ _))
  (k_with "call type:list" => (k_here; (with_reducible show wpAny _ _ (call (Value.type _) [Value.ref _]) _ _ _); k_dflt (refine' Mine.listRng2 ?zz_k1 ?zz_k2 ?zz_k3 ?zz_k4 ?zz_k5 ?_; (case zz_k1 => exact rfl); (case zz_k2 => k_asm); (case zz_k3 => k_asm); (case zz_k4 => assumption); (case zz_k5 => (first | lia | omega)); k_whole); intro _ _ _ _ _ _ _ _ _))
  (k_with "exec For Name Tuple cons nil" => (k_here; (rename Fr _ _ _ _ => lF'); (with_unfolding_all refine' For_invVF lF' ?zz_k1 ?zz_k2 ?_; (case zz_k1 => exact rfl); (case zz_k2 => exact rfl); k_whole)))
  (k_with "pyIter ref" => (k_here; refine Mine.halt ?_))
  (k_with "execs cons" => (k_here; k_fold))
  (k_with "eval ListComp" => (k_here; k_fold))
  trivial
namespace Mine
theorem due_spec (w : World) (h m : Nat) (th tm : Tok) (hm : 1 ≤ m) (hm2 : m ≤ 100) (hh : h ≤ 100000) :
    C3 w 103 2 40 [] [.int h th, .int m tm] (fun v n' => ∃ D a b c ta tb tc e, v = .ref D ∧ n' = [(D, listOf (List.toArray [.int a ta, .int b tb, .int c tc]) e)] ∧ [a, b, c] = [dueV h 0 m, dueV h (2 * m) m, dueV h (4 * m) m]) := by
  intro p loose mean mg mb dp un gd fr base g s R B X T st sz N hd hu hret
  k_dflt (refine' enterP ?k1 ?kst ?ksz ?kN ?kX ?kT ?k6 ?k7 ?k8 ?k9 ?kB ?_ ?c2 ?c3 ?c4 ?c5; (case k1 => exact B); (case kst => exact st); (case ksz => exact sz); (case kN => exact N); (case kX => exact X); (case kT => exact T); (case k6 => k_is); (case k7 => k_is); (case k8 => ktr_room); (case k9 => exact BindsTo.of_eq rfl); (case c5 => decide); (case kB => exact locs rfl); (case c2 => exact rfl); (case c3 => exact rfl); (case c4 => exact rfl); k_whole; intro L' h' F' N' l0; (try dsimp only); (try k_lt l0); (try k_fold))
  repeat' (first | (k_unfold; (try dsimp only)) | walk1 | (dsimp only; walk1))
  rename_i ld _ _ _ tu _ _ _ ltu
  refine goOn ?_
  have hlt : ld < tu := ltu _ (.head _)
  k_dflt (refine' loopT (σ := DueSt) (ax := tu) (fun c => [(ld, listOf c.vs.toArray c.e)]) (fun c => [("hue", .int h th), ("m", .int m tm), ("due", .ref ld)]) (DueP h m) ⟨[], 0⟩ ?yh ?yx ?yF ?yN ?yL ?yA ?yk ?yp ?turn ?done; (case yh => exact rfl); (case yF => k_asm); (case yN => k_asm); (case yx => k_mem); (case yL => exact List.forall_mem_cons.mpr ⟨by k_mem, List.forall_mem_nil _⟩); (case yA => exact List.forall_mem_cons.mpr ⟨Nat.ne_of_lt hlt, List.forall_mem_nil _⟩); (case yk => repeat' (first | exact List.forall_mem_nil _ | (refine' List.forall_mem_cons.mpr ⟨?_, ?_⟩) | exact rfl)); (case yp => exact .nil))
  case turn =>
    intro i v c u h1 tk own hi hv ho hP F1 N1
    obtain ⟨cv, t, rfl, hcv⟩ := due_at hv
    have hln := due_len hP
    obtain ⟨vs, e⟩ := c
    dsimp only at hln F1 N1
    repeat' (first | (k_unfold; (try dsimp only)) | walk1 | (dsimp only; walk1))
    k_dflt (refine' turnEndN ⟨_, _⟩ ?Fx ?Nx ?hkx ?hnx ?hox ?hax ?hpx; (case Fx => k_asm); (case Nx => k_asm); (case hkx => repeat' (first | exact List.forall_mem_nil _ | (refine' List.forall_mem_cons.mpr ⟨?_, ?_⟩) | exact rfl)); (case hnx => repeat' (first | exact List.forall_mem_nil _ | (refine' List.forall_mem_cons.mpr ⟨?_, ?_⟩) | k_mem)); (case hox => (intro p hp; k_ownIn)); (case hax => exact rfl); (case hpx => exact due_next hP hcv rfl))
  case done =>
    intro c u h1 tk hP F1 N1
    obtain ⟨vs, e⟩ := c
    obtain ⟨t1, t2, t3, rfl⟩ := due_end hP
    repeat' (first | (k_unfold; (try dsimp only)) | walk1 | (dsimp only; walk1))
    k_dflt (refine' hret _ _ _ _ ⟨_, _, _, _, _, _, _, _, rfl, rfl, ?e⟩ (Fr.keep ?F) (outS ?N (List.forall_mem_cons.mpr ⟨?m1, List.forall_mem_nil _⟩)); (case F => k_asm); (case N => k_asm); (case m1 => k_mem); (case e => exact rfl))
end Mine
namespace Mine
open LCg
section
variable {prog : Program} {w : World} {A : Around} {E : Value → Shared → Prop} {s : Shared} {h₀ : Heap} {L : Addr} {m : Str → Option Value} {env : Env}
noncomputable def SrcT (prog : Program) (w : World) (A : Around) (h₀ : Heap) (L : Addr) (m : Str → Option Value) (env : Env) (elt : Expr) (x : Str) (scope : Scope) (cl : List (Str × Addr)) (Fin : Shared → List Value → List (Addr × Obj) → Prop) (xv : Value) (s₁ : Shared) : Prop :=
  ∃ ax its news, xv = .ref ax ∧ A.handled = none ∧ Fr h₀ L s₁.heap m ∧ News h₀ L s₁.heap news ∧ (ax, tupOf its) ∈ news ∧ its.length ≤ 1000 ∧
    ∀ g, CompRest prog w A h₀ L m env elt x scope cl { s₁ with heap := g } (fun n => (ax, tupOf its) ∈ n) (fun i v => its.toArray[i]? = some v) (Fin { s₁ with heap := g }) its.length 0 [] news
theorem SrcT.intro {elt : Expr} {x : Str} {scope : Scope} {cl : List (Str × Addr)} {Fin : Shared → List Value → List (Addr × Obj) → Prop} {ax : Addr} {its : List Value} {news : List (Addr × Obj)} {s₁ : Shared}
    (hh : A.handled = none) (F : Fr h₀ L s₁.heap m) (N : News h₀ L s₁.heap news) (hm : (ax, tupOf its) ∈ news) (hsz : its.length ≤ 1000)
    (h : ∀ g, CompRest prog w A h₀ L m env elt x scope cl { s₁ with heap := g } (fun n => (ax, tupOf its) ∈ n) (fun i v => its.toArray[i]? = some v) (Fin { s₁ with heap := g }) its.length 0 [] news) :
    SrcT prog w A h₀ L m env elt x scope cl Fin (.ref ax) s₁ := ⟨ax, its, news, rfl, hh, F, N, hm, hsz, h⟩
theorem tup_st {ax I : Addr} {its : List Value} : ∀ i (h h' : Heap) (o : Obj) (nw : List (Addr × Obj)), (h.IsTupleIter I ax i ∧ h.IsTuple ax its.toArray) → h.get? I = some o → h'.get? I = some o → (∀ b o, h₀.get? b = some o → h'.get? b = some o) → News h₀ L h' nw → (ax, tupOf its) ∈ nw → (h'.IsTupleIter I ax i ∧ h'.IsTuple ax its.toArray) :=
  fun i h h' o nw st e e' k N S => ⟨by obtain ⟨o', q, r⟩ := st.1; rw [e] at q; cases q; exact ⟨o, e', r⟩, ⟨_, (N _ S).1, rfl, _, rfl⟩⟩
theorem ListComp_UT {elt iter : Expr} {x : Str} {px : Pos} {scope : Scope} {cl : List (Str × Addr)} {pos : Pos} {Q : Value → Shared → Prop} (F₀ : Fr h₀ L s.heap m)
    (hclos : closureFor scope env = pure cl) (hcell : ∀ y ∈ scope.names, y.2 ≠ .cell) (hkind : scope.kind = .function)
    (hnames : ∀ y ∈ scope.names, y.2 = .local → scope.names.lookup y.1 = some .local) (hx : scope.names.lookup x = some .local)
    (hs : ∀ x, foldedSetIterable iter env x = pure x)
    (h : wpAny (model prog w) A (eval iter env) (SrcT prog w A h₀ L m env elt x scope cl (fun s₂ => FinE h₀ L m s₂ Q)) E s) :
    wpAny (model prog w) A (eval (.ListComp elt [⟨.Name x px, iter, [], 0⟩] scope pos) env) Q E s := by
  rw [eval_ListComp]
  refine wpAny_comprehension_free (use := none) rfl hs hclos hkind hnames (wpAny_mono h (fun xv s₁ h₁ => ?_) fun _ _ e => e)
  obtain ⟨ax, its, news, rfl, hh, F, N, S, hsz, R⟩ := h₁
  have ht : s₁.heap.IsTuple ax its.toArray := ⟨_, (N _ S).1, rfl, _, rfl⟩
  have hlt : ax < s₁.heap.objs.size := Heap.lt_size (N _ S).1
  refine wpAny_pyIter_tuple ht ?_
  have up : ∀ b o, s₁.heap.get? b = some o → (s₁.heap.push { cls := .type "tuple_iterator", data := .fields #[.ref ax, .int 0 0] }).get? b = some o := fun b o e => Heap.get?_push_of_some _ e
  have W := Walks.tuple (prog := prog) (w := w) hh s₁.heap.objs.size ax (Nat.ne_of_lt hlt) its.toArray
  rw [List.size_toArray] at W
  refine block_U W (by first | (unfold sizeLine; (first | lia | omega)) | (rw [List.size_toArray]; unfold sizeLine; (first | lia | omega))) (fun i h st => by obtain ⟨o, e, _⟩ := st.1; exact ⟨o, e⟩) tup_st hcell hkind hx ⟨⟨_, Heap.get?_push_size _ rfl, rfl, rfl⟩, ht.push _⟩ (fun b hb => ?_)
    (F.keeps up) (N.grown up) (Nat.ne_of_lt F.ns.lt) (next_is_new F) (fun p hp => Nat.ne_of_lt (Heap.lt_size (N p hp).1)) S (R _) ?_
  · show b < (s₁.heap.push _).objs.size
    rw [Heap.size_push]
    rcases List.mem_cons.mp hb with rfl | hb
    · exact Nat.lt_succ_self _
    · rw [List.mem_singleton.mp hb]; exact Nat.lt_succ_of_lt hlt
  · intro D C h tk m' ys news' F' N' o1 hn hC₀ hD₀ hCL hDL hCD offC fin
    refine ⟨m', hn, fun h'' hs'' => fin D h'' tk (F'.change hs'' hCL hC₀) (fun p hp => ?_) o1⟩
    refine ⟨hs''.extBut _ _ ?_ (N' p hp).1, (N' p hp).2⟩
    rcases List.mem_cons.mp hp with rfl | hp
    · exact Ne.symm hCD
    · exact offC p hp
end
end Mine
namespace Mine
open LCg
section
variable {prog : Program} {w : World} {A : Around} {E : Value → Shared → Prop} {s : Shared} {h₀ : Heap} {L : Addr} {m : Str → Option Value} {env : Env}
theorem AsgComp_UT {elt iter : Expr} {x y : Str} {px py : Pos} {scope : Scope} {cl : List (Str × Addr)} {pos spos : Pos} {Q : Flow → Shared → Prop} (F₀ : Fr h₀ L s.heap m) (hLe : env.locals = L)
    (hsw : swapsWith (.ListComp elt [⟨.Name x px, iter, [], 0⟩] scope pos) (some (.Name y py)) spos.line env = pure true)
    (hclos : closureFor scope env = pure cl) (hcell : ∀ z ∈ scope.names, z.2 ≠ .cell) (hkind : scope.kind = .function)
    (hnames : ∀ z ∈ scope.names, z.2 = .local → scope.names.lookup z.1 = some .local) (hx : scope.names.lookup x = some .local)
    (hy : env.kindOf y = some .local) (hp : (env.scope.kind == .class || (env.scope.kind == .module && env.locals != env.globals)) = false)
    (hs : ∀ x, foldedSetIterable iter env x = pure x)
    (h : wpAny (model prog w) A (eval iter env) (SrcT prog w A h₀ L m env elt x scope cl (fun s₂ => FinA h₀ L m s₂ y Q)) E s) :
    wpAny (model prog w) A (exec (.Assign [.Name y py] (.ListComp elt [⟨.Name x px, iter, [], 0⟩] scope pos) spos) env) Q E s := by
  subst hLe
  rw [exec_Assign_Name_used _ _ _ _ hsw]
  refine wpAny_bind (wpAny_standAt (wpAny_bind ?_))
  show wpAny _ A (do let _ ← comprehension (.ListComp elt [⟨.Name x px, iter, [], 0⟩] scope pos) scope env _ (newList []) false (eval iter env) (some (assign (.Name y py) env))) _ _ s
  refine wpAny_bind (wpAny_mono (wpAny_comprehension_free (use := some (assign (.Name y py) env)) (Q := fun _ s' => Q .next s') rfl hs hclos hkind hnames
    (wpAny_mono h (fun xv s₁ h₁ => ?_) fun _ _ e => e)) (fun _ s' hq => wpAny_pure (wpAny_pure hq)) fun _ _ e => e)
  obtain ⟨ax, its, news, rfl, hh, F, N, S, hsz, R⟩ := h₁
  have ht : s₁.heap.IsTuple ax its.toArray := ⟨_, (N _ S).1, rfl, _, rfl⟩
  have hlt : ax < s₁.heap.objs.size := Heap.lt_size (N _ S).1
  refine wpAny_pyIter_tuple ht ?_
  have up : ∀ b o, s₁.heap.get? b = some o → (s₁.heap.push { cls := .type "tuple_iterator", data := .fields #[.ref ax, .int 0 0] }).get? b = some o := fun b o e => Heap.get?_push_of_some _ e
  have W := Walks.tuple (prog := prog) (w := w) hh s₁.heap.objs.size ax (Nat.ne_of_lt hlt) its.toArray
  rw [List.size_toArray] at W
  refine block_U W (by first | (unfold sizeLine; (first | lia | omega)) | (rw [List.size_toArray]; unfold sizeLine; (first | lia | omega))) (fun i h st => by obtain ⟨o, e, _⟩ := st.1; exact ⟨o, e⟩) tup_st hcell hkind hx ⟨⟨_, Heap.get?_push_size _ rfl, rfl, rfl⟩, ht.push _⟩ (fun b hb => ?_)
    (F.keeps up) (N.grown up) (Nat.ne_of_lt F.ns.lt) (next_is_new F) (fun p hp => Nat.ne_of_lt (Heap.lt_size (N p hp).1)) S (R _) ?_
  · show b < (s₁.heap.push _).objs.size
    rw [Heap.size_push]
    rcases List.mem_cons.mp hb with rfl | hb
    · exact Nat.lt_succ_self _
    · rw [List.mem_singleton.mp hb]; exact Nat.lt_succ_of_lt hlt
  · intro D C h' tk m' ys news' F' N' o1 hn hC₀ hD₀ hCL hDL hCD offC fin
    show wpAny _ A (assign (.Name y py) env (.ref D)) _ _ _
    refine wpAny_assign_Name (wpAny_storeName_local hy F'.ns (fun h₂ hn₂ hs₂ => ?_) hp)
    have hL₀ : h₀.get? env.locals = none := Heap.get?_none_of_le F'.above
    have F₂ : Fr h₀ env.locals h₂ (fun z => if z = y then some (.ref D) else m z) := ⟨hn₂, fun b o e => hs₂.extBut b o (fun q => by rw [q, hL₀] at e; cases e) (F'.keep b o e), F'.above⟩
    refine ⟨m', hn.sameBut hs₂ hCL, fun h'' hs'' => fin D h'' _ (F₂.change hs'' hCL hC₀) (fun p hp => ?_) o1⟩
    have z : h₂.get? p.1 = some p.2 := hs₂.extBut _ _ (N' p hp).2.1 (N' p hp).1
    refine ⟨hs''.extBut _ _ ?_ z, (N' p hp).2⟩
    rcases List.mem_cons.mp hp with rfl | hp
    · exact Ne.symm hCD
    · exact offC p hp
end
end Mine
namespace Mine
theorem divFits {prog : Program} {w : World} {A : Around} {E : Value → Shared → Prop} {s : Shared} {t u : Tok} {Q : Value → Shared → Prop} {a b : Int} (hA : A.handled = none) (hb : b ≠ 0) (hi : PySem.Float64.isInf (fr a b) = false) (h : Q (.float (fr a b) s.toks) { s with toks := s.toks + 1 }) :
    wpAny (model prog w) A (binaryOp .Div (.int a t) (.int b u)) Q E s :=
  PySem.Flt.div_ii hA (fun z => absurd z hb) (fun _ z => absurd (hi.symm.trans z) Bool.false_ne_true) fun _ _ => h
end Mine
namespace Mine
noncomputable def FI.big : FI → Prop
  | .i n => 2 ^ 1024 - 2 ^ 970 ≤ n.natAbs
  | .f _ => False
noncomputable instance (x : FI) : Decidable x.big := by cases x <;> (unfold FI.big; infer_instance)
noncomputable def FI.toF : FI → UInt64
  | .i n => PySem.Float64.ofInt n
  | .f b => b
theorem addFI {prog : Program} {w : World} {A : Around} {E : Value → Shared → Prop} {s : Shared} {x : FI} {b : UInt64} {t u : Tok} {Q : Value → Shared → Prop} (hA : A.handled = none) (hb : ¬ x.big) (h : Q (.float (PySem.Float64.add x.toF b) s.toks) { s with toks := s.toks + 1 }) :
    wpAny (model prog w) A (binaryOp .Add (FI.val x t) (.float b u)) Q E s := by
  cases x with
  | i n => exact add_if_sharp hA (fun z => absurd z hb) fun _ => h
  | f c => exact add_float h
noncomputable abbrev half64 : UInt64 := 4602678819172646912
noncomputable abbrev addH (x : FI) : UInt64 := PySem.Float64.add x.toF half64
noncomputable def FineP (x : FI) : Prop := ¬ x.big ∧ PySem.Float64.isNaN (addH x) = false ∧ PySem.Float64.isInf (addH x) = false
noncomputable instance (x : FI) : Decidable (FineP x) := by unfold FineP; infer_instance
noncomputable abbrev roundH (x : FI) : Int := PySem.Flt.toInt PySem.Float64.truncOf (addH x)
noncomputable def PaintOk (c : Bool) (h y : UInt64) (v : Int) : Prop := RgbOk c h v ∧ FineP (rgbF c h y v).1 ∧ FineP (rgbF c h y v).2.1 ∧ FineP (rgbF c h y v).2.2
noncomputable instance (c : Bool) (h y : UInt64) (v : Int) : Decidable (PaintOk c h y v) := by unfold PaintOk; infer_instance
noncomputable def paintF (c : Bool) (h y : UInt64) (v : Int) : List Int := [roundH (rgbF c h y v).1, roundH (rgbF c h y v).2.1, roundH (rgbF c h y v).2.2]
end Mine
namespace Mine
section
variable {w : World} {p : Program} {loose : List Str} {mean : ExcName → Option Value} {mg mb : Str → Option Value} {dp un : Nat} {gd : Option (List Code)} {env : Env} {outer : List Env} {A₀ : Around} {base h₀ : Heap} {L : Addr} {m : Str → Option Value} {s : Shared} {Q E : Value → Shared → Prop} {news : List (Addr × Obj)}
theorem useRgb {h y : UInt64} {v : Int} {th ty tv : Tok} (hok : PaintOk (PySem.Float64.cmp y 0 == some Ordering.eq) h y v)
    (B : Below A₀ base outer h₀) (F : Fr h₀ L s.heap m) (X : (Mine.hd.heap_39 w.params).In h₀) (N : News h₀ L s.heap news) (T : Top p loose mean mg mb h₀) (hf : env.frame = some L) (hke : env.scope.kind = .function) (hdp : dp + 3 < recursionLimit) (hun : un + 40 < cLine)
    (k : ∀ D x1 x2 x3 t1 t2 t3 h' tk', Fr h₀ L h' m → News h₀ L h' ((D, tupOf [FI.val x1 t1, FI.val x2 t2, FI.val x3 t3]) :: news) → (∀ q ∈ news, q.1 ≠ D) → rgbF (PySem.Float64.cmp y 0 == some Ordering.eq) h y v = (x1, x2, x3) → (¬ x1.big) → (¬ x2.big) → (¬ x3.big) → PySem.Float64.isNaN (addH x1) = false → PySem.Float64.isInf (addH x1) = false → PySem.Float64.isNaN (addH x2) = false → PySem.Float64.isInf (addH x2) = false → PySem.Float64.isNaN (addH x3) = false → PySem.Float64.isInf (addH x3) = false → Q (.ref D) { s with heap := h', toks := tk' }) :
    wpAny (model PySem.Challenge.rw_pg0238_01.row.prog w) (Ar dp un gd (env :: outer)) (call (.ref 70) [.float h th, .float y ty, .int v tv]) Q E s := by
  refine CC.use (mu := []) (rest := news) (rgb_spec w h y v th ty tv hok.1) B F X N T hf hke (fun q hq => hq) (fun _ _ _ q => nomatch q) hdp hun fun z n' h' tk' P F' N' Dj => ?_
  obtain ⟨D, x1, x2, x3, t1, t2, t3, rfl, rfl, e⟩ := P
  obtain ⟨-, ⟨a1, a2, a3⟩, ⟨b1, b2, b3⟩, ⟨c1, c2, c3⟩⟩ := hok
  rw [e] at a1 a2 a3 b1 b2 b3 c1 c2 c3
  exact k D x1 x2 x3 t1 t2 t3 h' tk' F' N' (Dj _ (.head _)) e a1 b1 c1 a2 a3 b2 b3 c2 c3
end
end Mine

local macro_rules | `(tactic| lcg_src) => `(tactic| ((try dsimp only); k_mem))
namespace Mine
section
variable {prog : Program} {w : World} {A : Around} {E : Value → Shared → Prop} {s : Shared} {h₀ : Heap} {L : Addr} {m : Str → Option Value} {news : List (Addr × Obj)} {value slice : PySem.Expr} {xs : List Nat} {i j : Int} {t ui uj : Tok} {Q : Value → Shared → Prop}
theorem sFromI (F : Fr h₀ L s.heap m) (N : News h₀ L s.heap news) (h0 : 0 ≤ i) (hi : i ≤ xs.length) (hl : xs.length ≤ 1000)
    (h : ∀ h' t' tk, Fr h₀ L h' m → News h₀ L h' news → Q (.str (S (xs.drop i.toNat)) t') { s with heap := h', toks := tk })
    (hs : subscripted slice false (.str (S xs) t) (.ref s.heap.objs.size) = operate [.ref s.heap.objs.size, .str (S xs) t] (getItem (.str (S xs) t) (.ref s.heap.objs.size)))
    (ht : ∀ r, letTemporaryGo value (.str (S xs) t) r = pure ()) :
    wpAny (model prog w) A (subscriptTail value slice (.str (S xs) t) (.ref s.heap.objs.size)) Q E { s with heap := s.heap.push { cls := .type "slice", data := .fields #[.int i ui, .none, .none] } } :=
  slice_strN_sn F N (fun h' t' tk F' N' => by
    have e : i = ((i.toNat : Nat) : Int) := by (first | lia | omega)
    rw [e, slice_from xs i.toNat (by (first | lia | omega))]; exact h h' t' tk F' N') hs ht (by rw [S_len]; unfold sizeLine; (first | lia | omega))
theorem sToI (F : Fr h₀ L s.heap m) (N : News h₀ L s.heap news) (h0 : 0 ≤ j) (hj : j ≤ xs.length) (hl : xs.length ≤ 1000)
    (h : ∀ h' t' tk, Fr h₀ L h' m → News h₀ L h' news → Q (.str (S (xs.take j.toNat)) t') { s with heap := h', toks := tk })
    (hs : subscripted slice false (.str (S xs) t) (.ref s.heap.objs.size) = operate [.ref s.heap.objs.size, .str (S xs) t] (getItem (.str (S xs) t) (.ref s.heap.objs.size)))
    (ht : ∀ r, letTemporaryGo value (.str (S xs) t) r = pure ()) :
    wpAny (model prog w) A (subscriptTail value slice (.str (S xs) t) (.ref s.heap.objs.size)) Q E { s with heap := s.heap.push { cls := .type "slice", data := .fields #[.none, .int j uj, .none] } } :=
  slice_strN_ns F N (fun h' t' tk F' N' => by
    have := slice_closes_toL (x := S xs) (j := j) h0 (by rw [S_len]; exact hj)
    rw [eq_of_beq this, S_cps]
    have e : (⟨((xs.drop (0 : Int).toNat).take (j - 0).toNat).toArray⟩ : Str) = S (xs.take j.toNat) := by simp [S]
    rw [e]; exact h h' t' tk F' N') hs ht (by rw [S_len]; unfold sizeLine; (first | lia | omega))
theorem sMidI (F : Fr h₀ L s.heap m) (N : News h₀ L s.heap news) (h0 : 0 ≤ i) (hi : i ≤ j) (hj : j ≤ xs.length) (hl : xs.length ≤ 1000)
    (h : ∀ h' t' tk, Fr h₀ L h' m → News h₀ L h' news → Q (.str (S ((xs.drop i.toNat).take (j - i).toNat)) t') { s with heap := h', toks := tk })
    (hs : subscripted slice false (.str (S xs) t) (.ref s.heap.objs.size) = operate [.ref s.heap.objs.size, .str (S xs) t] (getItem (.str (S xs) t) (.ref s.heap.objs.size)))
    (ht : ∀ r, letTemporaryGo value (.str (S xs) t) r = pure ()) :
    wpAny (model prog w) A (subscriptTail value slice (.str (S xs) t) (.ref s.heap.objs.size)) Q E { s with heap := s.heap.push { cls := .type "slice", data := .fields #[.int i ui, .int j uj, .none] } } :=
  slice_strN_ss F N (fun h' t' tk F' N' => by
    have := slice_closesL (x := S xs) (i := i) (j := j) h0 hi (by rw [S_len]; exact hj)
    rw [eq_of_beq this, S_cps]
    exact h h' t' tk F' N') hs ht (by rw [S_len]; unfold sizeLine; (first | lia | omega))
end
section
variable {w : World} {p : Program} {loose : List Str} {mean : ExcName → Option Value} {mg mb : Str → Option Value} {dp un : Nat} {gd : Option (List Code)} {env : Env} {outer : List Env} {A₀ : Around} {base h₀ : Heap} {L : Addr} {m : Str → Option Value} {s : Shared} {Q E : Value → Shared → Prop} {news n1 n2 rest : List (Addr × Obj)}
theorem useTold {xs : List Nat} {q r : Int} {tx tm : Tok} {ps : Array Value} {ct : Addr} {oct : Obj} (hx : xs.length ≤ 20) (h1 : 1 ≤ q) (h2 : q ≤ 3) (hr : toldF xs q = r)
    (N : News h₀ L s.heap news) (p1 : Pick (30, tabObj ps) news n1) (hTS : T44 ps ct oct) (p2 : Pick (ct, oct) n1 rest)
    (B : Below A₀ base outer h₀) (F : Fr h₀ L s.heap m) (X : (Mine.hd.heap_39 w.params).In h₀) (T : Top p loose mean mg mb h₀) (hf : env.frame = some L) (hke : env.scope.kind = .function)
    (hd : ∀ q ∈ rest, ∀ r ∈ [(30, tabObj ps), (ct, oct)], q.1 ≠ r.1) (hdp : dp + 92 < recursionLimit) (hun : un + 850 < cLine)
    (h : ∀ t ps' c' oc' h' tk', Fr h₀ L h' m → News h₀ L h' ((30, tabObj ps') :: (c', oc') :: rest) → T44 ps' c' oc' → (∀ q ∈ rest, q.1 ≠ c') → Q (.int r t) { s with heap := h', toks := tk' }) :
    wpAny (model PySem.Challenge.rw_pg0238_01.row.prog w) (Ar dp un gd (env :: outer)) (call (.ref 110) [.str (S xs) tx, .int q tm]) Q E s := by
  subst hr
  obtain ⟨k, rfl⟩ : ∃ k : Nat, q = (k : Int) := ⟨q.toNat, by (first | lia | omega)⟩
  refine CC.useK (told_spec w xs k tx tm hx (by (first | lia | omega)) (by (first | lia | omega)) ps ct oct hTS) (.cons p1 (.cons p2 .nil)) B F X N T hf hke hd hdp hun fun v n' h' tk' P F' N' D => ?_
  obtain ⟨t, ps', c', oc', rfl, rfl, t1⟩ := P
  exact h t ps' c' oc' h' tk' F' N' t1 (D (c', oc') (.tail _ (.head _)))
theorem useGreat {xs : List Nat} {r : Int} {tx : Tok} (hx : xs.length ≤ 100) (ha : ∀ c ∈ xs, c < 128) (hr : (((xs.filter fun c => decide (c < 97)).length : Nat) : Int) = r)
    (B : Below A₀ base outer h₀) (F : Fr h₀ L s.heap m) (X : (Mine.hd.heap_39 w.params).In h₀) (N : News h₀ L s.heap news) (T : Top p loose mean mg mb h₀) (hf : env.frame = some L) (hke : env.scope.kind = .function) (hdp : dp + 3 < recursionLimit) (hun : un + 40 < cLine)
    (h : ∀ t h' tk', Fr h₀ L h' m → News h₀ L h' news → Q (.int r t) { s with heap := h', toks := tk' }) :
    wpAny (model PySem.Challenge.rw_pg0238_01.row.prog w) (Ar dp un gd (env :: outer)) (call (.ref 96) [.str (S xs) tx]) Q E s := by
  subst hr
  refine CC.use (mu := []) (rest := news) (great_spec w xs tx hx ha) B F X N T hf hke (fun q hq => hq) (fun _ _ _ q => nomatch q) hdp hun fun v n' h' tk' P F' N' _ => ?_
  obtain ⟨t, ev, e⟩ := P
  subst e ev
  exact h t h' tk' F' N'
theorem useDue {x q d0 d1 d2 : Int} {th tm : Tok} (h1 : 1 ≤ q) (h2 : q ≤ 3) (h3 : 0 ≤ x) (h4 : x ≤ 1000) (e : [dueV x 0 q, dueV x (2 * q) q, dueV x (4 * q) q] = [d0, d1, d2])
    (B : Below A₀ base outer h₀) (F : Fr h₀ L s.heap m) (X : (Mine.hd.heap_39 w.params).In h₀) (N : News h₀ L s.heap news) (T : Top p loose mean mg mb h₀) (hf : env.frame = some L) (hke : env.scope.kind = .function) (hdp : dp + 2 < recursionLimit) (hun : un + 40 < cLine)
    (k : ∀ D e t1 t2 t3 h' tk', Fr h₀ L h' m → News h₀ L h' ((D, listOf (List.toArray [.int d0 t1, .int d1 t2, .int d2 t3]) e) :: news) → (∀ q ∈ news, q.1 ≠ D) → Q (.ref D) { s with heap := h', toks := tk' }) :
    wpAny (model PySem.Challenge.rw_pg0238_01.row.prog w) (Ar dp un gd (env :: outer)) (call (.ref 103) [.int x th, .int q tm]) Q E s := by
  obtain ⟨a, rfl⟩ : ∃ k : Nat, q = (k : Int) := ⟨q.toNat, by (first | lia | omega)⟩
  obtain ⟨b, rfl⟩ : ∃ k : Nat, x = (k : Int) := ⟨x.toNat, by (first | lia | omega)⟩
  refine CC.use (mu := []) (rest := news) (due_spec w b a th tm (by (first | lia | omega)) (by (first | lia | omega)) (by (first | lia | omega))) B F X N T hf hke (fun q hq => hq) (fun _ _ _ q => nomatch q) hdp hun fun z n' h' tk' P F' N' Dj => ?_
  obtain ⟨D, a0, b0, c0, t1, t2, t3, e', rfl, rfl, e2⟩ := P
  rw [e] at e2
  cases e2
  exact k D e' t1 t2 t3 h' tk' F' N' (Dj _ (.head _))
end
end Mine
namespace Mine
theorem inTake {xs : List Nat} {i : Nat} (h : ∀ c ∈ xs, c < 128) : ∀ c ∈ xs.take i, c < 128 := fun c hc => h c (List.mem_of_mem_take hc)
theorem inDrop {xs : List Nat} {i : Nat} (h : ∀ c ∈ xs, c < 128) : ∀ c ∈ xs.drop i, c < 128 := fun c hc => h c (List.mem_of_mem_drop hc)
theorem inMid {xs : List Nat} {i j : Nat} (h : ∀ c ∈ xs, c < 128) : ∀ c ∈ (xs.drop i).take j, c < 128 := fun c hc => h c (List.mem_of_mem_drop (List.mem_of_mem_take hc))
noncomputable abbrev gr (xs : List Nat) : Int := (((xs.filter fun c => decide (c < 97)).length : Nat) : Int)
section
variable {w : World} {p : Program} {loose : List Str} {mean : ExcName → Option Value} {mg mb : Str → Option Value} {dp un : Nat} {gd : Option (List Code)} {env : Env} {outer : List Env} {A₀ : Around} {base h₀ : Heap} {L : Addr} {m : Str → Option Value} {s : Shared} {Q E : Value → Shared → Prop} {news n1 n2 rest : List (Addr × Obj)}
theorem useWd1P {a b : Int} {xs : List Nat} {ta tb : Tok} {ps : Array Value} {ct : Addr} {oct : Obj} (hw : wdL (a - 1).toNat b.toNat = xs) (h0 : 1 ≤ a) (h1 : a ≤ 2 ^ 40) (h2 : 0 ≤ b) (h3 : b ≤ 20)
    (N : News h₀ L s.heap news) (p1 : Pick (30, tabObj ps) news n1) (hTS : T44 ps ct oct) (p2 : Pick (ct, oct) n1 rest)
    (B : Below A₀ base outer h₀) (F : Fr h₀ L s.heap m) (X : (Mine.hd.heap_39 w.params).In h₀) (T : Top p loose mean mg mb h₀) (hf : env.frame = some L) (hke : env.scope.kind = .function)
    (hd : ∀ q ∈ rest, ∀ r ∈ [(30, tabObj ps), (ct, oct)], q.1 ≠ r.1) (hdp : dp + 90 < recursionLimit) (hun : un + 800 < cLine)
    (h : ∀ t ps' c' oc' h' tk', Fr h₀ L h' m → News h₀ L h' ((30, tabObj ps') :: (c', oc') :: rest) → T44 ps' c' oc' → (∀ q ∈ rest, q.1 ≠ c') → Q (.str (S xs) t) { s with heap := h', toks := tk' }) :
    wpAny (model PySem.Challenge.rw_pg0238_01.row.prog w) (Ar dp un gd (env :: outer)) (call (.ref 91) [.int a ta, .int b tb]) Q E s :=
  useWd1 h0 h1 h2 h3 N p1 hTS p2 B F X T hf hke hd hdp hun (by rw [hw]; exact h)
theorem useHsv {r g b r' g' b' : Int} {tr tg tb : Tok} (hok : HsvOk r g b) (hne : mn3 r g b ≠ mx3 r g b) (e1 : r' = r) (e2 : g' = g) (e3 : b' = b)
    (B : Below A₀ base outer h₀) (F : Fr h₀ L s.heap m) (X : (Mine.hd.heap_39 w.params).In h₀) (N : News h₀ L s.heap news) (T : Top p loose mean mg mb h₀) (hf : env.frame = some L) (hke : env.scope.kind = .function) (hdp : dp + 3 < recursionLimit) (hun : un + 40 < cLine)
    (k : ∀ D t1 t2 t3 h' tk', Fr h₀ L h' m → News h₀ L h' ((D, tupOf [.float (hsvH r g b) t1, .float (hsvS r g b) t2, .int (mx3 r g b) t3]) :: news) → (∀ q ∈ news, q.1 ≠ D) → t2 ≠ 0 → Q (.ref D) { s with heap := h', toks := tk' }) :
    wpAny (model PySem.Challenge.rw_pg0238_01.row.prog w) (Ar dp un gd (env :: outer)) (call (.ref 63) [.int r' tr, .int g' tg, .int b' tb]) Q E s := by
  rw [e1, e2, e3]
  refine CC.use (mu := []) (rest := news) (hsv_spec w r g b tr tg tb hok) B F X N T hf hke (fun q hq => hq) (fun _ _ _ q => nomatch q) hdp hun fun z n' h' tk' P F' N' Dj => ?_
  obtain ⟨D, x, y, t1, t2, t3, rfl, rfl, rfl, rfl, ht2⟩ := P
  exact k D t1 t2 t3 h' tk' F' N' (Dj _ (.head _)) (ht2 hne)
end
end Mine
namespace Mine
open PySem.Spec PySem.SeqAt
section
variable {prog : Program} {w : World} {A : Around} {E : Value → Shared → Prop} {s : Shared} {Q : Value → Shared → Prop} {a b : Value} {da db : PyData} {as bs : List Addr}
theorem neData (ra : Reads s.heap a da as) (rb : Reads s.heap b db bs) (ha : shaped da = true) (hb : shaped db = true) (hu : A.units + 64 < cLine) (he : PyData.eqv da db = true) (h : Q (.bool false) s) : wpAny (model prog w) A (compareOp .NotEq a b) Q E s :=
  ne_dataH ra rb ha hb hu (by rw [he]; exact h)
theorem eqData (ra : Reads s.heap a da as) (rb : Reads s.heap b db bs) (ha : shaped da = true) (hb : shaped db = true) (hu : A.units + 64 < cLine) (he : PyData.eqv da db = true) (h : Q (.bool true) s) : wpAny (model prog w) A (compareOp .Eq a b) Q E s :=
  eq_dataH ra rb ha hb hu (by rw [he]; exact h)
end
end Mine
namespace Mine
open PySem.SeqAt PySem.Spec
theorem eqAtF {A : Around} {s : Shared} {x : UInt64} {t u : Tok} (ht : t ≠ 0) (hu : u ≠ 0) (hb : NoneBooked s.heap) (hc : (PySem.Float64.cmp x x == some Ordering.eq) = true) : EqAt A s (.float x t) (.float x u) true := by
  intro prog w E Q h
  have hlast : wpAny (model prog w) A (do truthOfDropped (← richCompare .Eq (.float x t) (.float x u))) Q E s :=
    wpAny_bind (AutoFloatOps.eq_0 (wpAny_truthy_bool (by rw [hc]; exact h)))
  unfold eqBool
  show wpAny _ _ (if (Value.float x t == Value.float x u) = true then _ else _) Q E s
  by_cases hab : (Value.float x t == Value.float x u) = true
  · rw [if_pos hab]
    exact wpAny_bind (wpAny_rule (wpAny_pure h))
  · rw [if_neg hab]
    refine wpAny_bind ?_
    show wpAny _ _ (isSame.created (x == x && !PySem.Float64.isNaN x) t u) _ E s
    have fin : ∀ b : Bool, wpAny (model prog w) A (if b = true then pure true else do truthOfDropped (← richCompare .Eq (.float x t) (.float x u))) Q E s := by
      intro b
      cases b with
      | true => exact wpAny_pure h
      | false => exact hlast
    unfold isSame.created
    refine wpAny_ite ?_
    split
    · rename_i hz
      have : (t == 0 || u == 0) = false := by simp [ht, hu]
      rw [this] at hz; exact absurd hz Bool.false_ne_true
    refine wpAny_ite ?_
    split
    · exact wpAny_pure (fin true)
    refine wpAny_ite ?_
    split
    · exact wpAny_pure (fin false)
    refine wpAny_bind (wpAny_sharingNotTold_none hb ?_)
    simp only [Bool.false_eq_true, if_false]
    refine wpAny_bind (wpAny_sharingNotTold_none hb ?_)
    simp only [Bool.false_eq_true, if_false]
    exact wpAny_bind (wpAny_rule (wpAny_bind (wpAny_askSetting (wpAny_pure (fin _)))))
theorem booked {K : Frag} {h : Heap} (X : K.In h) (e : nsOkIn K cStatics = true) (q : nsIn K cStatics sharingNotToldKey = some none) : NoneBooked h :=
  ⟨_, .of_isNs (isNs_of_in X e), nsMap_none_of_in X e q⟩
section
variable {prog : Program} {w : World} {A : Around} {E : Value → Shared → Prop} {s : Shared} {h₀ : Heap} {L : Addr} {m : Str → Option Value} {news : List (Addr × Obj)} {Q : Value → Shared → Prop}
theorem eqIFI {l1 l2 : Addr} {e1 e2 : Nat} {a b a' b' : Int} {x x' : UInt64} {t1 t2 t3 u1 u2 u3 : Tok} (N : News h₀ L s.heap news) (m1 : (l1, listOf (List.toArray [.int a t1, .float x t2, .int b t3]) e1) ∈ news) (m2 : (l2, listOf (List.toArray [.int a' u1, .float x' u2, .int b' u3]) e2) ∈ news)
    (ea : a = a') (ex : x = x') (eb : b = b') (ht : t2 ≠ 0) (hu : u2 ≠ 0) (hb : NoneBooked s.heap) (hc : (PySem.Float64.cmp x' x' == some Ordering.eq) = true) (hun : A.units < cLine) (h : Q (.bool true) s) :
    wpAny (model prog w) A (compareOp .Eq (.ref l1) (.ref l2)) Q E s := by
  subst ea ex eb
  have i1 : s.heap.IsList l1 (List.toArray [.int a t1, .float x t2, .int b t3]) := PySem.IsL.isList (n := e1) (N _ m1).1
  have i2 : s.heap.IsList l2 (List.toArray [.int a u1, .float x u2, .int b u3]) := PySem.IsL.isList (n := e2) (N _ m2).1
  have R : RcAt A s (.ref l1) (.ref l2) ((List.range 3).all fun _ => true) := RcAt.lists i1 i2 rfl hun fun j h1 h2 => by
    match j, h1 with
    | 0, _ => exact (by simpa using EqAt.int_int a t1 a u1)
    | 1, _ => exact eqAtF ht hu hb hc
    | 2, _ => exact (by simpa using EqAt.int_int b t3 b u3)
  exact R prog w E Q h
end
end Mine
namespace Mine
theorem three3 {a b c d e f : Int} {P : Prop} (h : [a, b, c] = [d, e, f]) (k : a = d → b = e → c = f → P) : P := by
  injection h with h1 h
  injection h with h2 h
  injection h with h3 h
  exact k h1 h2 h3
end Mine
theorem Mine.rows11_0 : True := by
  k_with_none
  (k_with "call builtin:max" => (k_here; (with_reducible show wpAny _ _ (call (Value.builtin _) [Value.int _ _, Value.int _ _, Value.int _ _]) _ _ _); (with_unfolding_all refine' Mine.max3 ?zz_k1 ?zz_k2 ?zz_k3 ?_; (case zz_k1 => rfl); (case zz_k2 => k_asm); (case zz_k3 => k_asm); k_whole); intro _ _ _ _ _))
  (k_with "call builtin:min" => (k_here; (with_reducible show wpAny _ _ (call (Value.builtin _) [Value.int _ _, Value.int _ _, Value.int _ _]) _ _ _); (with_unfolding_all refine' Mine.min3 ?zz_k1 ?zz_k2 ?zz_k3 ?_; (case zz_k1 => rfl); (case zz_k2 => k_asm); (case zz_k3 => k_asm); k_whole); intro _ _ _ _ _))
  (k_with "binaryOp Mult ref int" => (k_here; k_dflt (refine' Mine.mulOne ?zz_k1 ?zz_k2 ?zz_k3 ?zz_k4 ?zz_k5 ?_; (case zz_k1 => k_asm); (case zz_k2 => k_asm); (case zz_k3 => k_mem); (case zz_k4 => first | (first | lia | omega) | assumption | l_fact); (case zz_k5 => first | (first | lia | omega) | assumption | l_fact); k_whole); intro _ _ _ _ _ _ _; (try k_sweep)))
  (k_with "call builtin:divmod" => (k_here; (with_reducible show wpAny _ _ (call (Value.builtin _) [Value.int _ _, Value.int _ _]) _ _ _); refine divmod_N (by assumption) (by assumption) (by side_arith) ?_; intro _ _ _))
  (k_with "call builtin:len" => (k_here; (with_reducible show wpAny _ _ (call (Value.builtin _) [Value.ref _]) _ _ _); k_dflt (refine' Mine.lenN ?zz_k1 ?zz_k2 ?zz_k3 ?zz_k4 ?_; (case zz_k1 => k_asm); (case zz_k2 => k_mem); (case zz_k3 => with_reducible assumption); (case zz_k4 => ((try simp only [List.length_append, List.length_cons, List.length_nil, List.length_replicate, List.length_map]); (first | lia | omega))); k_whole); intro _ _))
  (k_with "binaryOp Sub int int" => (k_here; with_reducible refine' Mine.subIs ?zz_k1 ?_; (case zz_k1 => assumption)))
  (k_with "binaryOp Add int int" => (k_here; with_reducible refine' Mine.addIs ?zz_k1 ?_; (case zz_k1 => assumption)))
  (k_with "binaryOp Mult int int" => (k_here; with_reducible refine' Mine.mulIs ?zz_k1 ?zz_k2 ?_; (case zz_k1 => assumption); (case zz_k2 => exact Mine.bits64 (by (first | lia | omega)))))
  (k_with "binaryOp RShift int int" => (k_here; with_reducible refine' Mine.shrIs ?zz_k1 ?zz_k2 ?_; (case zz_k1 => assumption); (case zz_k2 => (first | lia | omega))))
  (k_with "binaryOp LShift int int" => (k_here; with_reducible refine' Mine.shlIs ?zz_k1 ?zz_k2 ?zz_k3 ?zz_k4 ?_; (case zz_k1 => assumption); (case zz_k2 => (first | lia | omega)); (case zz_k3 => (first | lia | omega)); (case zz_k4 => (first | lia | omega))))
  (k_with "binaryOp BitXor int int" => (k_here; with_reducible refine' Mine.xorIs ?zz_k1 ?_; (case zz_k1 => assumption)))
  (k_with "exec FunctionDef" => (k_here; kn_here; k_dflt (refine' nestDef_K ?zz_d0 ?zz_k0 ?zz_a0 ?_; (case zz_d0 => exact rfl); (case zz_k0 => exact rfl); (case zz_a0 => exact rfl)); (k_dflt (refine' Mine.nestBoth ?zz_F ?zz_N ?zz_T ?zz_C ?zz_cd ?zz_hs ?zz_ht ?zz_hP ?zz_hc ?zz_cl ?_; (case zz_F => k_asm); (case zz_N => k_asm); (case zz_T => k_asm); (case zz_cd => exact rfl); (case zz_C => kn_code); (case zz_hs => exact rfl); (case zz_ht => assumption); (case zz_hP => (dsimp only [List.dropLast]; k_all)); (case zz_hc => (dsimp only [List.dropLast]; k_all)); (case zz_cl => exact rfl); k_whole); intro _ _ _ _ _ _ _ _ _ _ N' _ _ l1 l2 _ _ _; (dsimp only [List.dropLast, List.append, HAppend.hAppend, Append.append] at N' l1 l2); (simp only [List.forall_mem_cons, List.forall_mem_nil, and_true] at l1 l2); (repeat (obtain ⟨_, l1⟩ := l1)); (repeat (obtain ⟨_, l2⟩ := l2)))))
  (k_with "call builtin:list.append" => (k_here; (with_reducible show wpAny _ _ (call (Value.builtin _) [Value.ref _, _]) _ _ _); k_dflt (refine' Mine.appendL ?zz_k1 ?zz_k2 ?zz_k3 ?zz_k4 ?_; (case zz_k1 => k_asm); (case zz_k2 => k_asm); (case zz_k3 => k_upd); (case zz_k4 => first | (first | lia | omega) | (simp only [List.length_nil, List.length_cons]; (first | lia | omega))); k_whole); intro _ _ _; (try k_sweep)))
  (k_with "call builtin:list.reverse" => (k_here; (with_reducible show wpAny _ _ (call (Value.builtin _) _) _ _ _); (try dsimp only); k_dflt (refine' Mine.reverseL ?zz_k1 ?zz_k2 ?zz_k3 ?zz_k4 ?zz_k5 ?_; (case zz_k1 => k_asm); (case zz_k2 => k_asm); (case zz_k3 => k_upd); (case zz_k4 => with_reducible assumption); (case zz_k5 => (first | lia | omega)); k_whole); intro _ _ _ _; (try k_sweep)))
  (k_with "unaryOp Invert int" => (k_here; with_reducible refine' Mine.invIs ?zz_k1 ?_; (case zz_k1 => assumption)))
  (k_with "call builtin:min" => (k_here; (with_reducible show wpAny _ _ (call (Value.builtin _) [Value.int _ _, Value.int _ _]) _ _ _); k_dflt (refine' Mine.min2 ?zz_k1 ?zz_k2 ?zz_k3 ?_; (case zz_k1 => exact rfl); (case zz_k2 => k_asm); (case zz_k3 => k_asm); k_whole); intro _ _ _ _ _))
  (k_with "call builtin:max" => (k_here; (with_reducible show wpAny _ _ (call (Value.builtin _) [Value.int _ _, Value.int _ _]) _ _ _); k_dflt (refine' Mine.max2 ?zz_k1 ?zz_k2 ?zz_k3 ?_; (case zz_k1 => exact rfl); (case zz_k2 => k_asm); (case zz_k3 => k_asm); k_whole); intro _ _ _ _ _))
  (k_with "binaryOp Div int int" => (k_here; k_dflt (refine' Mine.divFits ?zz_k1 ?zz_k2 ?zz_k3 ?_; (case zz_k1 => exact rfl); (case zz_k2 => first | decide | (first | lia | omega) | assumption); (case zz_k3 => assumption); k_whole)))
  (k_with "eval ListComp" => (k_here; lcf_look; k_dflt (refine LCg.ListComp_U (F₀ := by k_asm) (by with_unfolding_all rfl) (by decide) (by rfl) (by decide) (by rfl) ?_); k_dflt lcg_toSrc))
  (k_with "CompSrc" => (k_here; k_dflt (first | (refine LCg.CompSrc.ledger (by rfl) (by k_asm) (by k_asm) (by k_mem) (by first | size_fits | exact Nat.le_of_ble_eq_true rfl) ?_; intro _; lcg_lit) | (refine LCg.CompSrc.range (by rfl) (by k_asm) (by k_asm) (by assumption) (by first | decide | rfl) (by first | rfl | decide) (by first | size_fits | exact Nat.le_of_ble_eq_true rfl) ?_; intro _; lcg_lit))))
  (k_with "CompRest" => (with_unfolding_all first | (refine LCg.CompRest.succ ?_; intro _ _ oI' _ oC' _ _ _ _ _ hv' _ _ _ _ off' ne'; (first | lcg_open hv' | (obtain ⟨t9', hv9'⟩ := hv'; subst hv9')); (have oI' := Mine.offI off'); (have oC' := Mine.offC off'); (have oD' := Mine.offD off'); (have nA' := ne'.1); (have nB' := ne'.2.1); (have nC' := ne'.2.2); (clear ne')) | refine LCg.CompRest.zero ?_))
  (k_with "FinE" => ((unfold LCg.FinE); intro _ _ _ _ N' o1'; (replace o1' := Mine.off1D o1'); (try simp only [List.nil_append, List.cons_append] at N'); (try dsimp only)))
  (k_with "call ref" => (k_here; (with_reducible show wpAny _ _ (call (Value.ref 70) [Value.float _ _, Value.float _ _, Value.int _ _]) _ _ _); k_dflt (refine' Mine.useRgb ?zz_hok ?zz_cB ?zz_cF ?zz_cX ?zz_cN ?zz_cT ?zz_cf ?zz_ck ?zz_cdp ?zz_cun ?_; (case zz_hok => assumption); (case zz_cN => k_asm); (case zz_cB => k_asm); (case zz_cF => k_asm); (case zz_cX => k_asm); (case zz_cT => k_asm); (case zz_cf => exact rfl); (case zz_ck => exact rfl); (case zz_cdp => ktr_room); (case zz_cun => ktr_units); k_whole); intro _ _ _ _ _ _ _ _ _ _ _ D1' _ _ _ _ _ _ _ _ _ _; (try simp only [List.cons_append, List.nil_append, List.forall_mem_cons, List.forall_mem_nil, and_true] at D1'); (repeat (obtain ⟨_, D1'⟩ := D1'))))
  (k_with "eval ListComp" => (k_here; lcg_look; (with_reducible show wpAny _ _ (eval (Expr.ListComp _ [⟨Expr.Name _ _, Expr.Call _ _ _ _, _, _⟩] _ _) _) _ _ _); (fail_if_success (with_reducible show wpAny _ _ (eval (Expr.ListComp _ [⟨Expr.Name _ _, Expr.Call (Expr.Name "range" _) _ _ _, _, _⟩] _ _) _) _ _ _)); k_dflt (refine Mine.ListComp_UT (F₀ := by k_asm) (by rfl) (by decide) (by rfl) (by decide) (by rfl) (by intro _; rfl) ?_)))
  (k_with "SrcT" => (k_dflt (refine Mine.SrcT.intro (by rfl) (by k_asm) (by k_asm) (by k_mem) (Nat.le_of_ble_eq_true rfl) ?_; intro _; lcg_lit)))
  (k_with "binaryOp Add" => (k_here; (with_reducible show wpAny _ _ (binaryOp _ (Mine.FI.val _ _) (Value.float _ _)) _ _ _); k_dflt (refine' Mine.addFI ?zz_k1 ?zz_k2 ?_; (case zz_k1 => exact rfl); (case zz_k2 => assumption); k_whole)))
  (k_with "subscriptTail Name Slice str ref" => (k_here; (try dsimp only); (with_reducible show wpAny _ _ (subscriptTail _ (Expr.Slice (some _) none none _) (Value.str (Mine.S _) _) _) _ _ _); k_dflt (refine' Mine.sFromI (s := ⟨_, _, _, _, _⟩) ?zz_F ?zz_N ?zz_h0 ?zz_h1 ?zz_hl ?_ ?zz_hs ?zz_ht; (case zz_h0 => (first | lia | omega)); (case zz_h1 => (first | lia | omega)); (case zz_F => k_asm); (case zz_N => k_asm); (case zz_hl => (first | lia | omega)); (case zz_hs => with_unfolding_all rfl); (case zz_ht => (intro _; with_unfolding_all rfl)); k_whole); intro _ _ _ _ _))
  (k_with "subscriptTail Name Slice str ref" => (k_here; (try dsimp only); (with_reducible show wpAny _ _ (subscriptTail _ (Expr.Slice none (some _) none _) (Value.str (Mine.S _) _) _) _ _ _); k_dflt (refine' Mine.sToI (s := ⟨_, _, _, _, _⟩) ?zz_F ?zz_N ?zz_h0 ?zz_h1 ?zz_hl ?_ ?zz_hs ?zz_ht; (case zz_h0 => (first | lia | omega)); (case zz_h1 => (first | lia | omega)); (case zz_F => k_asm); (case zz_N => k_asm); (case zz_hl => (first | lia | omega)); (case zz_hs => with_unfolding_all rfl); (case zz_ht => (intro _; with_unfolding_all rfl)); k_whole); intro _ _ _ _ _))
  (k_with "subscriptTail Name Slice str ref" => (k_here; (try dsimp only); (with_reducible show wpAny _ _ (subscriptTail _ (Expr.Slice (some _) (some _) none _) (Value.str (Mine.S _) _) _) _ _ _); k_dflt (refine' Mine.sMidI (s := ⟨_, _, _, _, _⟩) ?zz_F ?zz_N ?zz_h0 ?zz_h1 ?zz_h2 ?zz_hl ?_ ?zz_hs ?zz_ht; (case zz_h0 => (first | lia | omega)); (case zz_h1 => (first | lia | omega)); (case zz_h2 => (first | lia | omega)); (case zz_F => k_asm); (case zz_N => k_asm); (case zz_hl => (first | lia | omega)); (case zz_hs => with_unfolding_all rfl); (case zz_ht => (intro _; with_unfolding_all rfl)); k_whole); intro _ _ _ _ _))
  (k_with "call ref" => (k_here; (with_reducible show wpAny _ _ (call (Value.ref 91) [Value.int _ _, Value.int _ _]) _ _ _); k_dflt (refine' Mine.useWd1P ?zz_hw ?zz_h0 ?zz_h1 ?zz_h2 ?zz_h3 ?zz_cN ?zz_p1 ?zz_cTS ?zz_p2 ?zz_cB ?zz_cF ?zz_cX ?zz_cT ?zz_cf ?zz_ck ?zz_cd ?zz_cdp ?zz_cun ?_; (case zz_cN => k_asm); (case zz_p1 => repeat' (first | exact Mine.Pick.head | refine' Mine.Pick.tail ?_)); (case zz_cTS => assumption); (case zz_p2 => repeat' (first | exact Mine.Pick.head | refine' Mine.Pick.tail ?_)); (case zz_cB => k_asm); (case zz_cF => k_asm); (case zz_cX => k_asm); (case zz_cT => k_asm); (case zz_cf => exact rfl); (case zz_ck => exact rfl); (case zz_cdp => ktr_room); (case zz_cun => ktr_units); (case zz_hw => assumption); (case zz_h0 => (first | lia | omega)); (case zz_h1 => (first | lia | omega)); (case zz_h2 => (first | lia | omega)); (case zz_h3 => (first | lia | omega)); (case zz_cd => repeat' (first | exact List.forall_mem_nil _ | (refine' List.forall_mem_cons.mpr ⟨?_, ?_⟩) | k_ne)); k_whole); intro _ _ _ _ _ _ _ _ _ _))
  (k_with "call ref" => (k_here; (with_reducible show wpAny _ _ (call (Value.ref 110) [Value.str (Mine.S _) _, Value.int _ _]) _ _ _); k_dflt (refine' Mine.useTold ?zz_h0 ?zz_h1 ?zz_h2 ?zz_h3 ?zz_cN ?zz_p1 ?zz_cTS ?zz_p2 ?zz_cB ?zz_cF ?zz_cX ?zz_cT ?zz_cf ?zz_ck ?zz_cd ?zz_cdp ?zz_cun ?_; (case zz_cN => k_asm); (case zz_p1 => repeat' (first | exact Mine.Pick.head | refine' Mine.Pick.tail ?_)); (case zz_cTS => assumption); (case zz_p2 => repeat' (first | exact Mine.Pick.head | refine' Mine.Pick.tail ?_)); (case zz_cB => k_asm); (case zz_cF => k_asm); (case zz_cX => k_asm); (case zz_cT => k_asm); (case zz_cf => exact rfl); (case zz_ck => exact rfl); (case zz_cdp => ktr_room); (case zz_cun => ktr_units); (case zz_h0 => (first | lia | omega)); (case zz_h1 => (first | lia | omega)); (case zz_h2 => (first | lia | omega)); (case zz_h3 => assumption); (case zz_cd => repeat' (first | exact List.forall_mem_nil _ | (refine' List.forall_mem_cons.mpr ⟨?_, ?_⟩) | k_ne)); k_whole); intro _ _ _ _ _ _ _ _ _ _))
  (k_with "call ref" => (k_here; (with_reducible show wpAny _ _ (call (Value.ref 96) [Value.str (Mine.S _) _]) _ _ _); k_dflt (refine' Mine.useGreat ?zz_k0 ?zz_k1 ?zz_k2 ?zz_cB ?zz_cF ?zz_cX ?zz_cN ?zz_cT ?zz_cf ?zz_ck ?zz_cdp ?zz_cun ?_; (case zz_k0 => (simp only [List.length_take, List.length_drop]; (first | lia | omega))); (case zz_k2 => assumption); (case zz_k1 => first | exact Mine.inTake (by assumption) | exact Mine.inDrop (by assumption) | exact Mine.inMid (by assumption)); (case zz_cN => k_asm); (case zz_cB => k_asm); (case zz_cF => k_asm); (case zz_cX => k_asm); (case zz_cT => k_asm); (case zz_cf => exact rfl); (case zz_ck => exact rfl); (case zz_cdp => ktr_room); (case zz_cun => ktr_units); k_whole); intro _ _ _ _ _))
  (k_with "call ref" => (k_here; (with_reducible show wpAny _ _ (call (Value.ref 103) [Value.int _ _, Value.int _ _]) _ _ _); k_dflt (refine' Mine.useDue ?zz_h1 ?zz_h2 ?zz_h3 ?zz_h4 ?zz_he ?zz_cB ?zz_cF ?zz_cX ?zz_cN ?zz_cT ?zz_cf ?zz_ck ?zz_cdp ?zz_cun ?_; (case zz_h1 => (first | lia | omega)); (case zz_h2 => (first | lia | omega)); (case zz_h3 => (first | lia | omega)); (case zz_h4 => (first | lia | omega)); (case zz_he => assumption); (case zz_cN => k_asm); (case zz_cB => k_asm); (case zz_cF => k_asm); (case zz_cX => k_asm); (case zz_cT => k_asm); (case zz_cf => exact rfl); (case zz_ck => exact rfl); (case zz_cdp => ktr_room); (case zz_cun => ktr_units); k_whole); intro _ _ _ _ _ _ _ _ _ _))
  (k_with "call ref" => (k_here; (with_reducible show wpAny _ _ (call (Value.ref 63) [Value.int _ _, Value.int _ _, Value.int _ _]) _ _ _); k_dflt (refine' Mine.useHsv ?zz_hok ?zz_hne ?zz_e1 ?zz_e2 ?zz_e3 ?zz_cB ?zz_cF ?zz_cX ?zz_cN ?zz_cT ?zz_cf ?zz_ck ?zz_cdp ?zz_cun ?_; (case zz_hok => assumption); (case zz_hne => assumption); (case zz_e1 => exact rfl); (case zz_e2 => exact rfl); (case zz_e3 => exact rfl); (case zz_cN => k_asm); (case zz_cB => k_asm); (case zz_cF => k_asm); (case zz_cX => k_asm); (case zz_cT => k_asm); (case zz_cf => exact rfl); (case zz_ck => exact rfl); (case zz_cdp => ktr_room); (case zz_cun => ktr_units); k_whole); intro _ _ _ _ _ _ _ _ _ _))
  (k_with "exec Assign cons ListComp" => (k_here; lcg_look; (with_reducible show wpAny _ _ (exec (Stmt.Assign _ (Expr.ListComp _ [⟨Expr.Name _ _, Expr.Call _ _ _ _, _, _⟩] _ _) _) _) _ _ _); k_dflt (refine Mine.AsgComp_UT (F₀ := by k_asm) (by rfl) (by with_unfolding_all rfl) (by rfl) (by decide) (by rfl) (by decide) (by rfl) (by rfl) (by rfl) (by intro _; rfl) ?_)))
  (k_with "compareOp NotEq ref ref" => (k_here; (with_reducible show wpAny _ _ (compareOp CmpOp.NotEq (Value.ref _) (Value.ref _)) _ _ _); refine Mine.halt ?_))
  (k_with "compareOp Eq ref ref" => (k_here; (with_reducible show wpAny _ _ (compareOp CmpOp.Eq (Value.ref _) (Value.ref _)) _ _ _); refine Mine.halt ?_))
  (k_with "execs cons" => (k_here; k_fold))
  (k_with "eval ListComp" => (k_here; k_fold))
  (k_with "exec Assign" => (k_here; k_fold))
  (k_with "exec If" => (k_here; k_fold))
  trivial
namespace Mine
theorem paints_spec (w : World) (n h m : Nat) (tn th tm : Tok) (d0 d1 d2 g1 : Int) (xs : List Nat) (hn : n < 2 ^ 39) (hm1 : 1 ≤ m) (hm3 : m ≤ 3) (hh : h ≤ 1000)
    (hxs : wdL ((n : Int) + 1 - 1).toNat (3 * (m : Int)).toNat = xs) (hxl : xs.length = 3 * m) (hxa : ∀ c ∈ xs, c < 128) (hT : toldF xs m = h)
    (hg1 : gr ((xs.drop (m : Int).toNat).take (2 * (m : Int) - (m : Int)).toNat) = g1) (i0 : Is ((m : Int) - g1) d0) (hg0 : gr (xs.take (m : Int).toNat) = d1) (hg2 : gr (xs.drop (2 * (m : Int)).toNat) = d2)
    (hdue : [dueV h 0 m, dueV h (2 * m) m, dueV h (4 * m) m] = [d0, d1, d2])
    (hdv : PySem.Float64.isInf (fr h (6 * m)) = false) (hok : PaintOk (PySem.Float64.cmp one64 0 == some Ordering.eq) (fr h (6 * m)) one64 m) (hpf : paintF (PySem.Float64.cmp one64 0 == some Ordering.eq) (fr h (6 * m)) one64 m = [d0, d1, d2])
    (hho : HsvOk d0 d1 d2) (hne : mn3 d0 d1 d2 ≠ mx3 d0 d1 d2)
    (hb1 : Float64.isNaN (Float64.add (Float64.mul (Float64.mul (hsvH d0 d1 d2) (Float64.ofInt 6)) (Float64.ofInt (m : Int))) 4602678819172646912) = false)
    (hb2 : Float64.isInf (Float64.add (Float64.mul (Float64.mul (hsvH d0 d1 d2) (Float64.ofInt 6)) (Float64.ofInt (m : Int))) 4602678819172646912) = false)
    (hb3 : Flt.toInt Float64.truncOf (Float64.add (Float64.mul (Float64.mul (hsvH d0 d1 d2) (Float64.ofInt 6)) (Float64.ofInt (m : Int))) 4602678819172646912) = h)
    (hsS : hsvS d0 d1 d2 = one64) (hmx : mx3 d0 d1 d2 = m)
    (p44 : Array Value) (c44 : Addr) (o44 : Obj) (h44 : T44 p44 c44 o44) :
    C3 w 115 94 900 [(30, tabObj p44), (c44, o44)] [.int ((n : Int) + 1) tn, .int h th, .int m tm] (fun v n' => v = .bool true ∧ ∃ ps' c' oc', n' = [(30, tabObj ps'), (c', oc')] ∧ T44 ps' c' oc') := by
  intro p loose mean mg mb dp un gd fr base g s R B X T st sz N hd hu hret
  k_dflt (refine' enterP ?k1 ?kst ?ksz ?kN ?kX ?kT ?k6 ?k7 ?k8 ?k9 ?kB ?_ ?c2 ?c3 ?c4 ?c5; (case k1 => exact B); (case kst => exact st); (case ksz => exact sz); (case kN => exact N); (case kX => exact X); (case kT => exact T); (case k6 => k_is); (case k7 => k_is); (case k8 => ktr_room); (case k9 => exact BindsTo.of_eq rfl); (case c5 => decide); (case kB => exact locs rfl); (case c2 => exact rfl); (case c3 => exact rfl); (case c4 => exact rfl); k_whole; intro L' h' F' N' l0; (try dsimp only); (try k_lt l0); (try k_fold))
  repeat' (first | (k_unfold; (try dsimp only)) | walk1 | (dsimp only; walk1))
  refine goOn ?_
  k_dflt (refine' neData ?r1 ?r2 ?s1 ?s2 ?ro ?he ?_; (case r1 => ke_read); (case r2 => ke_read); (case s1 => ke_shaped); (case s2 => ke_shaped); (case ro => ke_room); k_whole)
  case he =>
    with_reducible rename rgbF _ _ _ _ = _ => e1
    rw [paintF, e1] at hpf
    refine three3 hpf fun f0 f1 f2 => ?_
    subst f0
    subst f1
    subst f2
    simp only [PyData.eqv, PyData.eqvAll, beq_self_eq_true, Bool.and_true, Bool.true_and]
  repeat' (first | (k_unfold; (try dsimp only)) | walk1 | (dsimp only; walk1))
  refine goOn ?_
  have hbk : NoneBooked _ := booked (X.keeps (Fr.keep (by k_asm))) (by first | exact rfl | kernel_rfl) (by k_is)
  k_dflt (refine' eqIFI ?zN ?m1 ?m2 ?ea ?ex ?eb ?ht ?hu ?zb ?hc ?hun ?_; (case zN => k_asm); (case m1 => k_mem); (case m2 => k_mem); (case ea => exact hb3); (case ex => exact hsS); (case eb => exact hmx); (case ht => assumption); (case hu => exact Nat.succ_ne_zero _); (case zb => exact hbk); (case hc => decide +kernel); (case hun => ke_room); k_whole)
  repeat' (first | (k_unfold; (try dsimp only)) | walk1 | (dsimp only; walk1))
  k_dflt (refine' hret _ _ _ _ ⟨rfl, _, _, _, rfl, ?t⟩ (Fr.keep ?F) (outS ?N (List.forall_mem_cons.mpr ⟨?m1, List.forall_mem_cons.mpr ⟨?m2, List.forall_mem_nil _⟩⟩)); (case F => k_asm); (case N => k_asm); (case m1 => k_mem); (case t => assumption); (case m2 => k_mem))
end Mine
theorem Mine.rows12 : True := by
  k_with_none
  trivial
namespace Mine
noncomputable def Mark (_ : Nat) : Prop := True
theorem newsTail {h₀ h : Heap} {L : Addr} {x : Addr × Obj} {n : List (Addr × Obj)} (N : News h₀ L h (x :: n)) : News h₀ L h n := fun q hq => N q (.tail _ hq)
section
variable {prog : Program} {w : World} {A : Around} {E : Value → Shared → Prop} {s : Shared} {a b v : Int} {t u : Tok} {Q : Value → Shared → Prop}
theorem modNat (hb : 0 < b) (h : ∀ n : Nat, (n : Int) < b → Q (.int (n : Int) s.toks) { s with toks := s.toks + 1 }) : wpAny (model prog w) A (binaryOp .Mod (.int a t) (.int b u)) Q E s := by
  have h1 := Int.fmod_nonneg_of_pos a hb
  have h2 := Int.fmod_lt_of_pos a hb
  have e : ((a.fmod b).toNat : Int) = a.fmod b := Int.toNat_of_nonneg h1
  have := h (a.fmod b).toNat (by rw [e]; exact h2)
  rw [e] at this
  exact PyProof.Rows.mod_int' (by (first | lia | omega)) this
theorem modIs (hb : b ≠ 0) (e : Is (a.fmod b) v) (h : Q (.int v s.toks) { s with toks := s.toks + 1 }) : wpAny (model prog w) A (binaryOp .Mod (.int a t) (.int b u)) Q E s := PyProof.Rows.mod_int' hb (by rw [show a.fmod b = v from e]; exact h)
theorem addTwo {n : Nat} (hn : (n : Int) < 2) (h : ∀ M : Nat, 2 ≤ M → M ≤ 3 → Q (.int (M : Int) s.toks) { s with toks := s.toks + 1 }) : wpAny (model prog w) A (binaryOp .Add (.int 2 t) (.int (n : Int) u)) Q E s :=
  PyProof.Rows.add_int (by rw [show (2 : Int) + (n : Int) = ((2 + n : Nat) : Int) from by (first | lia | omega)]; exact h (2 + n) (by (first | lia | omega)) (by (first | lia | omega)))
end
section
variable {prog : Program} {w : World} {A : Around} {E : Value → Shared → Prop} {s : Shared} {h₀ : Heap} {L : Addr} {m : Str → Option Value} {news : List (Addr × Obj)} {Q : Value → Shared → Prop}
theorem neInts {l1 l2 : Addr} {xs ys : List Value} {e1 e2 : Nat} {ns ms : List Int} (N : News h₀ L s.heap news) (ha : (l1, listOf xs.toArray e1) ∈ news) (hb : (l2, listOf ys.toArray e2) ∈ news) (hi : IntsAre xs ns) (hj : IntsAre ys ms) (he : ns = ms) (hu : A.units + 64 < cLine) (h : Q (.bool false) s) :
    wpAny (model prog w) A (compareOp .NotEq (.ref l1) (.ref l2)) Q E s :=
  ke_ne_ints (PySem.IsL.isList (n := e1) (N _ ha).1) (PySem.IsL.isList (n := e2) (N _ hb).1) hi hj hu (by rw [decide_eq_true he]; exact h)
end
section
open PyProof.Rows.LCg
variable {prog : Program} {w : World} {A : Around} {E : Value → Shared → Prop} {s : Shared} {h₀ : Heap} {L : Addr} {m : Str → Option Value} {env : Env}
theorem compMap {elt : Expr} {x : Str} {scope : Scope} {cl : List (Str × Addr)} {S : List (Addr × Obj) → Prop} {P : Nat → Value → Prop} {news : List (Addr × Obj)} {Fin : List Value → List (Addr × Obj) → Prop} (n : Nat) (f : Nat → Int) (hS : S news)
    (hfin : ∀ ys : List Value, IntsAre ys ((List.range n).map f) → Fin ys news)
    (turn : ∀ (i : Nat) (v : Value) (I : Addr) (oI : Obj) (C : Addr) (oC : Obj) (D : Addr) (ys : List Value) (m₂ : Str → Option Value) (h : Heap) (tk : Nat) (E' : Value → Shared → Prop) (R : Value → List (Addr × Obj) → Prop),
      i < n → P i v → NsObj oC m₂ → m₂ x = some v → Fr h₀ L h m → News h₀ L h ((I, oI) :: (C, oC) :: (D, lst ys) :: news) → Off3 I C D news → ((@Ne Nat I C) ∧ (@Ne Nat I D) ∧ (@Ne Nat C D)) →
      (∀ t, R (.int (f i) t) news) →
      wpAny (model prog w) A (eval elt (compEnvC scope cl C env)) (CompEnd h₀ L m { s with heap := h, toks := tk } I oI C oC D (lst ys) S R) E' { s with heap := h, toks := tk }) :
    ∀ (k i : Nat) (ys : List Value), i + k = n → IntsAre ys ((List.range i).map f) → CompRest prog w A h₀ L m env elt x scope cl s S P Fin k i ys news
  | 0, i, ys, hk, hy => by
    rw [Nat.add_zero] at hk
    subst hk
    exact CompRest.zero (hfin ys hy)
  | k + 1, i, ys, hk, hy => by
    refine CompRest.succ fun v I oI C oC D m₂ h tk E' hv hC hx F N off ne => ?_
    refine turn i v I oI C oC D ys m₂ h tk E' _ (by (first | lia | omega)) hv hC hx F N off ne fun t => ?_
    refine compMap n f hS hfin turn k (i + 1) (ys ++ [.int (f i) t]) (by (first | lia | omega)) ?_
    rw [List.range_succ, List.map_append]
    exact ksk_snoc hy
end
section
variable {w : World} {p : Program} {loose : List Str} {mean : ExcName → Option Value} {mg mb : Str → Option Value} {dp un : Nat} {gd : Option (List Code)} {env : Env} {outer : List Env} {A₀ : Around} {base h₀ : Heap} {L : Addr} {m : Str → Option Value} {s : Shared} {Q E : Value → Shared → Prop} {news n1 n2 n3 rest : List (Addr × Obj)}
  {p44 p51 : Array Value} {c44 c51 : Addr} {o44 o51 : Obj}
theorem useDmp {x y : Int} {a b q r : Nat} {tx ty : Tok} (hx : x = (a : Int)) (hy : y = (b : Int)) (ha : a < 2 ^ 48) (hb : 0 < b) (hb2 : b < 2 ^ 14) (hq : a / b = q) (hr : a % b = r)
    (t44 : T44 p44 c44 o44) (t51 : T51 p51 c51 o51) (d1 : c44 ≠ 37) (d2 : c51 ≠ 30) (d3 : c44 ≠ c51)
    (N : News h₀ L s.heap news) (p1 : Pick (30, tabObj p44) news n1) (p2 : Pick (c44, o44) n1 n2) (p3 : Pick (37, tabObj p51) n2 n3) (p4 : Pick (c51, o51) n3 rest)
    (B : Below A₀ base outer h₀) (F : Fr h₀ L s.heap m) (X : (Mine.hd.heap_39 w.params).In h₀) (T : Top p loose mean mg mb h₀) (hf : env.frame = some L) (hke : env.scope.kind = .function)
    (hd : ∀ q ∈ rest, ∀ r ∈ [(30, tabObj p44), (c44, o44), (37, tabObj p51), (c51, o51)], q.1 ≠ r.1) (hdp : dp + 84 < recursionLimit) (hun : un + 680 < cLine)
    (h : ∀ D t1 t2 p44' p51' c44' c51' o44' o51' h' tk', Fr h₀ L h' m → News h₀ L h' ((D, tupOf [.int (q : Int) t1, .int (r : Int) t2]) :: (30, tabObj p44') :: (c44', o44') :: (37, tabObj p51') :: (c51', o51') :: rest) → T44 p44' c44' o44' → T51 p51' c51' o51' → c44' ≠ 37 → c51' ≠ 30 → c44' ≠ c51' → (∀ q ∈ rest, q.1 ≠ D) → (∀ q ∈ rest, q.1 ≠ c44') → (∀ q ∈ rest, q.1 ≠ c51') → Q (.ref D) { s with heap := h', toks := tk' }) :
    wpAny (model PySem.Challenge.rw_pg0238_01.row.prog w) (Ar dp un gd (env :: outer)) (call (.ref 49) [.int x tx, .int y ty]) Q E s := by
  subst hx hy hq hr
  exact useQ (dmp_spec w a b tx ty ha hb hb2 p44 p51 c44 c51 o44 o51 t44 t51 d1 d2 d3) N p1 p2 p3 p4 B F X T hf hke hd hdp hun h
theorem useIdmN {x y W r : Int} {a b : Nat} {tx ty : Tok} (hx : x = -((a : Int) + 1)) (hy : y = (b : Int)) (ha : a < 2 ^ 48) (hb : 0 < b) (hb2 : b < 2 ^ 14) (hq : -((a / b : Nat) : Int) - 1 = W) (hr : (b : Int) + (-((a % b : Nat) : Int) - 1) = r)
    (t44 : T44 p44 c44 o44) (t51 : T51 p51 c51 o51) (d1 : c44 ≠ 37) (d2 : c51 ≠ 30) (d3 : c44 ≠ c51)
    (N : News h₀ L s.heap news) (p1 : Pick (30, tabObj p44) news n1) (p2 : Pick (c44, o44) n1 n2) (p3 : Pick (37, tabObj p51) n2 n3) (p4 : Pick (c51, o51) n3 rest)
    (B : Below A₀ base outer h₀) (F : Fr h₀ L s.heap m) (X : (Mine.hd.heap_39 w.params).In h₀) (T : Top p loose mean mg mb h₀) (hf : env.frame = some L) (hke : env.scope.kind = .function)
    (hd : ∀ q ∈ rest, ∀ r ∈ [(30, tabObj p44), (c44, o44), (37, tabObj p51), (c51, o51)], q.1 ≠ r.1) (hdp : dp + 88 < recursionLimit) (hun : un + 720 < cLine)
    (h : ∀ D t1 t2 p44' p51' c44' c51' o44' o51' h' tk', Fr h₀ L h' m → News h₀ L h' ((D, tupOf [.int W t1, .int r t2]) :: (30, tabObj p44') :: (c44', o44') :: (37, tabObj p51') :: (c51', o51') :: rest) → T44 p44' c44' o44' → T51 p51' c51' o51' → c44' ≠ 37 → c51' ≠ 30 → c44' ≠ c51' → (∀ q ∈ rest, q.1 ≠ D) → (∀ q ∈ rest, q.1 ≠ c44') → (∀ q ∈ rest, q.1 ≠ c51') → Q (.ref D) { s with heap := h', toks := tk' }) :
    wpAny (model PySem.Challenge.rw_pg0238_01.row.prog w) (Ar dp un gd (env :: outer)) (call (.ref 56) [.int x tx, .int y ty]) Q E s := by
  subst hx hy hq hr
  exact useQ (idm_neg w a b tx ty ha hb hb2 p44 p51 c44 c51 o44 o51 t44 t51 d1 d2 d3) N p1 p2 p3 p4 B F X T hf hke hd hdp hun h
noncomputable def PaintsQ (n h m : Nat) (d0 d1 d2 g1 : Int) (xs : List Nat) : Prop := n < 2 ^ 39 ∧ wdL ((n : Int) + 1 - 1).toNat (3 * (m : Int)).toNat = xs ∧ xs.length = 3 * m ∧ (∀ c ∈ xs, c < 128) ∧ toldF xs m = h ∧
    gr ((xs.drop (m : Int).toNat).take (2 * (m : Int) - (m : Int)).toNat) = g1 ∧ Is ((m : Int) - g1) d0 ∧ gr (xs.take (m : Int).toNat) = d1 ∧ gr (xs.drop (2 * (m : Int)).toNat) = d2 ∧
    [dueV h 0 m, dueV h (2 * m) m, dueV h (4 * m) m] = [d0, d1, d2] ∧
    PySem.Float64.isInf (fr h (6 * m)) = false ∧ PaintOk (PySem.Float64.cmp one64 0 == some Ordering.eq) (fr h (6 * m)) one64 m ∧ paintF (PySem.Float64.cmp one64 0 == some Ordering.eq) (fr h (6 * m)) one64 m = [d0, d1, d2] ∧
    HsvOk d0 d1 d2 ∧ mn3 d0 d1 d2 ≠ mx3 d0 d1 d2 ∧
    PySem.Float64.isNaN (PySem.Float64.add (PySem.Float64.mul (PySem.Float64.mul (hsvH d0 d1 d2) (PySem.Float64.ofInt 6)) (PySem.Float64.ofInt (m : Int))) 4602678819172646912) = false ∧
    PySem.Float64.isInf (PySem.Float64.add (PySem.Float64.mul (PySem.Float64.mul (hsvH d0 d1 d2) (PySem.Float64.ofInt 6)) (PySem.Float64.ofInt (m : Int))) 4602678819172646912) = false ∧
    PySem.Flt.toInt PySem.Float64.truncOf (PySem.Float64.add (PySem.Float64.mul (PySem.Float64.mul (hsvH d0 d1 d2) (PySem.Float64.ofInt 6)) (PySem.Float64.ofInt (m : Int))) 4602678819172646912) = h ∧
    hsvS d0 d1 d2 = one64 ∧ mx3 d0 d1 d2 = m
noncomputable def PaintsP (n h m : Nat) : Prop := ∃ (d0 d1 d2 g1 : Int) (xs : List Nat), PaintsQ n h m d0 d1 d2 g1 xs
theorem PaintsP.elim {n h m : Nat} {C : Prop} (H : PaintsP n h m) (k : ∀ (d0 d1 d2 g1 : Int) (xs : List Nat), n < 2 ^ 39 → wdL ((n : Int) + 1 - 1).toNat (3 * (m : Int)).toNat = xs → xs.length = 3 * m → (∀ c ∈ xs, c < 128) → toldF xs m = h →
    gr ((xs.drop (m : Int).toNat).take (2 * (m : Int) - (m : Int)).toNat) = g1 → Is ((m : Int) - g1) d0 → gr (xs.take (m : Int).toNat) = d1 → gr (xs.drop (2 * (m : Int)).toNat) = d2 →
    [dueV h 0 m, dueV h (2 * m) m, dueV h (4 * m) m] = [d0, d1, d2] →
    PySem.Float64.isInf (fr h (6 * m)) = false → PaintOk (PySem.Float64.cmp one64 0 == some Ordering.eq) (fr h (6 * m)) one64 m → paintF (PySem.Float64.cmp one64 0 == some Ordering.eq) (fr h (6 * m)) one64 m = [d0, d1, d2] →
    HsvOk d0 d1 d2 → mn3 d0 d1 d2 ≠ mx3 d0 d1 d2 →
    PySem.Float64.isNaN (PySem.Float64.add (PySem.Float64.mul (PySem.Float64.mul (hsvH d0 d1 d2) (PySem.Float64.ofInt 6)) (PySem.Float64.ofInt (m : Int))) 4602678819172646912) = false →
    PySem.Float64.isInf (PySem.Float64.add (PySem.Float64.mul (PySem.Float64.mul (hsvH d0 d1 d2) (PySem.Float64.ofInt 6)) (PySem.Float64.ofInt (m : Int))) 4602678819172646912) = false →
    PySem.Flt.toInt PySem.Float64.truncOf (PySem.Float64.add (PySem.Float64.mul (PySem.Float64.mul (hsvH d0 d1 d2) (PySem.Float64.ofInt 6)) (PySem.Float64.ofInt (m : Int))) 4602678819172646912) = h →
    hsvS d0 d1 d2 = one64 → mx3 d0 d1 d2 = m → C) : C := by
  obtain ⟨d0, d1, d2, g1, xs, z1, z2, z3, z4, z5, z6, z7, z8, z9, z10, z11, z12, z13, z14, z15, z16, z17, z18, z19, z20⟩ := H
  exact k d0 d1 d2 g1 xs z1 z2 z3 z4 z5 z6 z7 z8 z9 z10 z11 z12 z13 z14 z15 z16 z17 z18 z19 z20
theorem usePaints {a b c : Int} {n h M : Nat} {tn th tm : Tok} (hP : PaintsP n h M) (ha : a = (n : Int) + 1) (hb : b = (h : Int)) (hc : c = (M : Int)) (hm1 : 1 ≤ M) (hm3 : M ≤ 3) (hh : h ≤ 1000) (t44 : T44 p44 c44 o44)
    (N : News h₀ L s.heap news) (p1 : Pick (30, tabObj p44) news n1) (p2 : Pick (c44, o44) n1 rest)
    (B : Below A₀ base outer h₀) (F : Fr h₀ L s.heap m) (X : (Mine.hd.heap_39 w.params).In h₀) (T : Top p loose mean mg mb h₀) (hf : env.frame = some L) (hke : env.scope.kind = .function)
    (hd : ∀ q ∈ rest, ∀ r ∈ [(30, tabObj p44), (c44, o44)], q.1 ≠ r.1) (hdp : dp + 94 < recursionLimit) (hun : un + 900 < cLine)
    (k : ∀ ps' c' oc' h' tk', Fr h₀ L h' m → News h₀ L h' ((30, tabObj ps') :: (c', oc') :: rest) → T44 ps' c' oc' → (∀ q ∈ rest, q.1 ≠ c') → Q (.bool true) { s with heap := h', toks := tk' }) :
    wpAny (model PySem.Challenge.rw_pg0238_01.row.prog w) (Ar dp un gd (env :: outer)) (call (.ref 115) [.int a tn, .int b th, .int c tm]) Q E s := by
  subst ha hb hc
  refine hP.elim fun d0 d1 d2 g1 xs z1 z2 z3 z4 z5 z6 z7 z8 z9 z10 z11 z12 z13 z14 z15 z16 z17 z18 z19 z20 => ?_
  refine CC.useK (paints_spec w n h M tn th tm d0 d1 d2 g1 xs z1 hm1 hm3 hh z2 z3 z4 z5 z6 z7 z8 z9 z10 z11 z12 z13 z14 z15 z16 z17 z18 z19 z20 p44 c44 o44 t44) (.cons p1 (.cons p2 .nil)) B F X N T hf hke hd hdp hun fun v n' h' tk' P F' N' D => ?_
  obtain ⟨rfl, ps', c', oc', rfl, t1⟩ := P
  exact k ps' c' oc' h' tk' F' N' t1 (D (c', oc') (.tail _ (.head _)))
end
end Mine
namespace Mine
noncomputable instance (p v : Int) : Decidable (Is p v) := by unfold Is; infer_instance
noncomputable def PaintsD (n h m : Nat) : Prop :=
  let xs := wdL ((n : Int) + 1 - 1).toNat (3 * (m : Int)).toNat
  let d0 := dueV h 0 m
  let d1 := dueV h (2 * m) m
  let d2 := dueV h (4 * m) m
  n < 2 ^ 39 ∧ xs.length = 3 * m ∧ (∀ c ∈ xs, c < 128) ∧ toldF xs m = h ∧
    Is ((m : Int) - gr ((xs.drop (m : Int).toNat).take (2 * (m : Int) - (m : Int)).toNat)) d0 ∧ gr (xs.take (m : Int).toNat) = d1 ∧ gr (xs.drop (2 * (m : Int)).toNat) = d2 ∧
    PySem.Float64.isInf (fr h (6 * m)) = false ∧ PaintOk (PySem.Float64.cmp one64 0 == some Ordering.eq) (fr h (6 * m)) one64 m ∧ paintF (PySem.Float64.cmp one64 0 == some Ordering.eq) (fr h (6 * m)) one64 m = [d0, d1, d2] ∧
    HsvOk d0 d1 d2 ∧ mn3 d0 d1 d2 ≠ mx3 d0 d1 d2 ∧
    PySem.Float64.isNaN (PySem.Float64.add (PySem.Float64.mul (PySem.Float64.mul (hsvH d0 d1 d2) (PySem.Float64.ofInt 6)) (PySem.Float64.ofInt (m : Int))) 4602678819172646912) = false ∧
    PySem.Float64.isInf (PySem.Float64.add (PySem.Float64.mul (PySem.Float64.mul (hsvH d0 d1 d2) (PySem.Float64.ofInt 6)) (PySem.Float64.ofInt (m : Int))) 4602678819172646912) = false ∧
    PySem.Flt.toInt PySem.Float64.truncOf (PySem.Float64.add (PySem.Float64.mul (PySem.Float64.mul (hsvH d0 d1 d2) (PySem.Float64.ofInt 6)) (PySem.Float64.ofInt (m : Int))) 4602678819172646912) = h ∧
    hsvS d0 d1 d2 = one64 ∧ mx3 d0 d1 d2 = m
theorem PaintsD.p {n h m : Nat} (H : PaintsD n h m) : PaintsP n h m := by
  obtain ⟨z1, z3, z4, z5, z7, z8, z9, z11, z12, z13, z14, z15, z16, z17, z18, z19, z20⟩ := H
  have q : PaintsQ n h m _ _ _ _ _ := ⟨z1, rfl, z3, z4, z5, rfl, z7, z8, z9, rfl, z11, z12, z13, z14, z15, z16, z17, z18, z19, z20⟩
  exact ⟨_, _, _, _, _, q⟩
noncomputable instance (n h m : Nat) : Decidable (PaintsD n h m) := by unfold PaintsD; infer_instance
noncomputable def restN (m h : Nat) : Nat := 2 ^ h % (2 ^ (3 * m) + 1)
theorem paints2 : ∀ h, h < 12 → PaintsD (restN 2 h - 1) h 2 := by decide +kernel
theorem paints3 : ∀ h, h < 18 → PaintsD (restN 3 h - 1) h 3 := by decide +kernel
end Mine
namespace Mine
abbrev Dv (M : Nat) : Nat := 2 ^ (3 * M) + 1
noncomputable abbrev bitF (M p i : Nat) : Int := (((p : Int) - (0 + (i : Int)) - 1).fdiv (3 * (M : Int))).fmod 2
theorem powP (p : Nat) : (2 : Int) ^ ((p : Int)).toNat = ((2 ^ p : Nat) : Int) := by rw [Int.toNat_natCast]; norm_cast
theorem dvP (M : Nat) : (2 : Int) ^ (3 * (M : Int)).toNat + 1 = ((Dv M : Nat) : Int) := by
  rw [show 3 * (M : Int) = ((3 * M : Nat) : Int) from by (first | lia | omega), Int.toNat_natCast]; norm_cast
noncomputable def L1D (M p : Nat) : Prop := 2 ^ p % Dv M = restN M (p % (6 * M)) - 1 + 1 ∧ 2 ^ p / Dv M < 2 ^ 40 ∧ 2 ^ p < 2 ^ 48 ∧ Dv M < 2 ^ 14 ∧
  digs 1 (ndig (2 ^ p / Dv M) 1) (2 ^ p / Dv M) = (List.range ((p : Int) - 3 * (M : Int)).toNat).map (bitF M p)
noncomputable instance (M p : Nat) : Decidable (L1D M p) := by unfold L1D; infer_instance
theorem l1d2 : ∀ p, p < 24 → L1D 2 p := by decide +kernel
theorem l1d3 : ∀ p, p < 36 → L1D 3 p := by decide +kernel
theorem l1fK {M p : Nat} {C : Prop} (h2 : 2 ≤ M) (h3 : M ≤ 3) (hp : (p : Int) < 12 * (M : Int)) (k : ∀ Q r h : Nat, 2 ^ p / Dv M = Q → 2 ^ p % Dv M = r + 1 → Q < 2 ^ 40 → 2 ^ p < 2 ^ 48 → 0 < Dv M → Dv M < 2 ^ 14 →
    digs 1 (ndig Q 1) Q = (List.range ((p : Int) - 3 * (M : Int)).toNat).map (bitF M p) → Is ((p : Int).fmod (6 * (M : Int))) (h : Int) → h < 18 → PaintsP r h M → r = restN M (p % (6 * M)) - 1 → r < 2 ^ 39 → C) : C := by
  have key : L1D M p ∧ PaintsP (restN M (p % (6 * M)) - 1) (p % (6 * M)) M := by
    have : M = 2 ∨ M = 3 := by (first | lia | omega)
    rcases this with rfl | rfl
    · exact ⟨l1d2 p (by (first | lia | omega)), (paints2 _ (Nat.mod_lt _ (by decide))).p⟩
    · exact ⟨l1d3 p (by (first | lia | omega)), (paints3 _ (Nat.mod_lt _ (by decide))).p⟩
  obtain ⟨⟨a1, a2, a3, a4, a5⟩, a6⟩ := key
  have a7 : Is ((p : Int).fmod (6 * (M : Int))) ((p % (6 * M) : Nat) : Int) := by
    unfold Is
    rw [Int.fmod_eq_emod_of_nonneg _ (by (first | lia | omega)), Int.natCast_emod]
    norm_cast
  have a8 : p % (6 * M) < 6 * M := Nat.mod_lt _ (by (first | lia | omega))
  exact k _ _ _ rfl a1 a2 a3 (Nat.succ_pos _) a4 a5 a7 (by (first | lia | omega)) a6 rfl (a6.elim fun _ _ _ _ _ z _ _ _ _ _ _ _ _ _ _ _ _ _ _ _ _ _ _ _ => z)
noncomputable def L1P (M a b : Nat) : Prop := lev (wdL (restN M a - 1) (3 * M)) (wdL (restN M b - 1) (3 * M)) (6 * (M : Int)) = min (((a : Int) - b).fmod (6 * M)) (((b : Int) - a).fmod (6 * M)) ∧
  (let z := (restN M a - 1 + 1) * (restN M b - 1 + 1) - 1
   z < 2 ^ 40 ∧ (restN M a - 1 + 1) * (restN M b - 1 + 1) = z + 1 ∧ (Dv M : Int) + (-((z % Dv M : Nat) : Int) - 1) = ((restN M ((a + b + 3 * M) % (6 * M)) - 1 + 1 : Nat) : Int))
noncomputable instance (M p q : Nat) : Decidable (L1P M p q) := by unfold L1P; infer_instance
theorem rszI (b : Int) : Builtin.Range.rangeSize 0 b 1 = ((b.toNat : Nat) : Int) := by
  unfold Builtin.Range.rangeSize
  simp only [show (1 : Int) > 0 by decide, if_true, Int.ediv_one]
  split <;> (first | lia | omega)
section
variable {w : World} {p : Program} {loose : List Str} {mean : ExcName → Option Value} {mg mb : Str → Option Value} {dp un : Nat} {gd : Option (List Code)} {env : Env} {outer : List Env} {A₀ : Around} {base h₀ : Heap} {L : Addr} {m : Str → Option Value} {s : Shared} {Q E : Value → Shared → Prop} {news n1 n2 rest : List (Addr × Obj)}
theorem useWdR {a b : Int} {r M : Nat} {ta tb : Tok} {ps : Array Value} {ct : Addr} {oct : Obj} (ha : a = ((r + 1 : Nat) : Int)) (hb : b = 3 * (M : Int)) (hr : r < 2 ^ 39) (hM : M ≤ 3)
    (N : News h₀ L s.heap news) (p1 : Pick (30, tabObj ps) news n1) (hTS : T44 ps ct oct) (p2 : Pick (ct, oct) n1 rest)
    (B : Below A₀ base outer h₀) (F : Fr h₀ L s.heap m) (X : (Mine.hd.heap_39 w.params).In h₀) (T : Top p loose mean mg mb h₀) (hf : env.frame = some L) (hke : env.scope.kind = .function)
    (hd : ∀ q ∈ rest, ∀ r ∈ [(30, tabObj ps), (ct, oct)], q.1 ≠ r.1) (hdp : dp + 90 < recursionLimit) (hun : un + 800 < cLine)
    (h : ∀ t ps' c' oc' h' tk', Fr h₀ L h' m → News h₀ L h' ((30, tabObj ps') :: (c', oc') :: rest) → T44 ps' c' oc' → (∀ q ∈ rest, q.1 ≠ c') → Q (.str (S (wdL r (3 * M))) t) { s with heap := h', toks := tk' }) :
    wpAny (model PySem.Challenge.rw_pg0238_01.row.prog w) (Ar dp un gd (env :: outer)) (call (.ref 91) [.int a ta, .int b tb]) Q E s := by
  subst ha hb
  exact useWd1P (xs := wdL r (3 * M)) (by rw [show (((r + 1 : Nat) : Int) - 1).toNat = r from by (first | lia | omega), show (3 * (M : Int)).toNat = 3 * M from by (first | lia | omega)]) (by (first | lia | omega)) (by (first | lia | omega)) (by (first | lia | omega)) (by (first | lia | omega)) N p1 hTS p2 B F X T hf hke hd hdp hun h
end
end Mine
namespace Mine
theorem l1p2 : ∀ a, a < 12 → ∀ b, b < 12 → L1P 2 a b := by decide +kernel
theorem l1q0 : ∀ a, a < 3 → ∀ b, b < 18 → L1P 3 (0 + a) b := by decide +kernel
theorem l1q1 : ∀ a, a < 3 → ∀ b, b < 18 → L1P 3 (3 + a) b := by decide +kernel
theorem l1q2 : ∀ a, a < 3 → ∀ b, b < 18 → L1P 3 (6 + a) b := by decide +kernel
theorem l1q3 : ∀ a, a < 3 → ∀ b, b < 18 → L1P 3 (9 + a) b := by decide +kernel
theorem l1q4 : ∀ a, a < 3 → ∀ b, b < 18 → L1P 3 (12 + a) b := by decide +kernel
theorem l1q5 : ∀ a, a < 3 → ∀ b, b < 18 → L1P 3 (15 + a) b := by decide +kernel
theorem l1p3 (a : Nat) (ha : a < 18) (b : Nat) (hb : b < 18) : L1P 3 a b := by
  have e : a = 3 * (a / 3) + a % 3 := (Nat.div_add_mod a 3).symm
  have f : a % 3 < 3 := Nat.mod_lt _ (by decide)
  have g : a / 3 < 6 := by (first | lia | omega)
  rw [e]
  generalize a / 3 = c at *
  generalize a % 3 = d at *
  clear e ha
  match c, g with
  | 0, _ => exact l1q0 d f b hb
  | 1, _ => exact l1q1 d f b hb
  | 2, _ => exact l1q2 d f b hb
  | 3, _ => exact l1q3 d f b hb
  | 4, _ => exact l1q4 d f b hb
  | 5, _ => exact l1q5 d f b hb
theorem fmodSub {p q m : Nat} (hm : 0 < m) : ((p : Int) - q).fmod m = (((p % m : Nat) : Int) - ((q % m : Nat) : Int)).fmod m := by
  rw [Int.fmod_eq_emod_of_nonneg _ (by (first | lia | omega)), Int.fmod_eq_emod_of_nonneg _ (by (first | lia | omega)), Int.natCast_emod, Int.natCast_emod, ← Int.sub_emod]
theorem l1g {M p q r1 r2 : Nat} (h2 : 2 ≤ M) (h3 : M ≤ 3) (e1 : r1 = restN M (p % (6 * M)) - 1) (e2 : r2 = restN M (q % (6 * M)) - 1) : ∃ z l h : Nat,
    lev (wdL r1 (3 * M)) (wdL r2 (3 * M)) (6 * (M : Int)) = min (((p : Int) - q).fmod (6 * (M : Int))) (((q : Int) - p).fmod (6 * (M : Int))) ∧
    z < 2 ^ 40 ∧ ((r1 + 1 : Nat) : Int) * ((r2 + 1 : Nat) : Int) = (z : Int) + 1 ∧ Dv M < 2 ^ 14 ∧
    (Dv M : Int) + (-((z % Dv M : Nat) : Int) - 1) = ((l + 1 : Nat) : Int) ∧ Is (((p : Int) + q + 3 * (M : Int)).fmod (6 * (M : Int))) (h : Int) ∧ h < 18 ∧ PaintsP l h M := by
  subst e1 e2
  have hm : 0 < 6 * M := by (first | lia | omega)
  have ha := Nat.mod_lt p hm
  have hb := Nat.mod_lt q hm
  have hc := Nat.mod_lt (p % (6 * M) + q % (6 * M) + 3 * M) hm
  have key : L1P M (p % (6 * M)) (q % (6 * M)) ∧ Dv M < 2 ^ 14 ∧ PaintsP (restN M ((p % (6 * M) + q % (6 * M) + 3 * M) % (6 * M)) - 1) ((p % (6 * M) + q % (6 * M) + 3 * M) % (6 * M)) M ∧ (p + q + 3 * M) % (6 * M) = (p % (6 * M) + q % (6 * M) + 3 * M) % (6 * M) := by
    have : M = 2 ∨ M = 3 := by (first | lia | omega)
    rcases this with rfl | rfl
    · exact ⟨l1p2 _ ha _ hb, by decide, (paints2 _ hc).p, by (first | lia | omega)⟩
    · exact ⟨l1p3 _ ha _ hb, by decide, (paints3 _ hc).p, by (first | lia | omega)⟩
  obtain ⟨⟨k1, k2, k3, k4⟩, k5, k6, k7⟩ := key
  refine ⟨_, _, _, ?_, k2, ?_, k5, k4, ?_, ?_, k6⟩
  · rw [k1, show 6 * (M : Int) = ((6 * M : Nat) : Int) from by (first | lia | omega), ← fmodSub hm, ← fmodSub hm]
  · rw [← Int.natCast_mul]; exact (congrArg Nat.cast k3).trans (Int.natCast_succ _)
  · unfold Is
    rw [show 6 * (M : Int) = ((6 * M : Nat) : Int) from by (first | lia | omega), show (p : Int) + q + 3 * (M : Int) = ((p + q + 3 * M : Nat) : Int) from by (first | lia | omega), Int.fmod_eq_emod_of_nonneg _ (by (first | lia | omega)), ← Int.natCast_emod]
    rw [k7]
  · (first | lia | omega)
theorem l1gK {M p q r1 r2 : Nat} {C : Prop} (h2 : 2 ≤ M) (h3 : M ≤ 3) (e1 : r1 = restN M (p % (6 * M)) - 1) (e2 : r2 = restN M (q % (6 * M)) - 1) (k : ∀ z l h : Nat,
    lev (wdL r1 (3 * M)) (wdL r2 (3 * M)) (6 * (M : Int)) = min (((p : Int) - q).fmod (6 * (M : Int))) (((q : Int) - p).fmod (6 * (M : Int))) →
    z < 2 ^ 40 → ((r1 + 1 : Nat) : Int) * ((r2 + 1 : Nat) : Int) = (z : Int) + 1 → Dv M < 2 ^ 14 →
    (Dv M : Int) + (-((z % Dv M : Nat) : Int) - 1) = ((l + 1 : Nat) : Int) → Is (((p : Int) + q + 3 * (M : Int)).fmod (6 * (M : Int))) (h : Int) → h < 18 → PaintsP l h M → C) : C := by
  obtain ⟨z, l, hh, g1, g2, g3, g4, g5, g6, g7, g8⟩ := l1g (p := p) (q := q) h2 h3 e1 e2
  exact k z l hh g1 g2 g3 g4 g5 g6 g7 g8
theorem l1w {z M l : Nat} (h : (Dv M : Int) + (-((z % Dv M : Nat) : Int) - 1) = ((l + 1 : Nat) : Int)) : (-((z / Dv M : Nat) : Int) - 1) * ((Dv M : Nat) : Int) + ((l + 1 : Nat) : Int) = -((z : Int) + 1) := by
  rw [← h]
  have := Nat.div_add_mod z (Dv M)
  have e : ((z / Dv M : Nat) : Int) * ((Dv M : Nat) : Int) = (((Dv M) * (z / Dv M) : Nat) : Int) := by rw [Nat.mul_comm]; norm_cast
  have e3 : (-((z / Dv M : Nat) : Int) - 1) * ((Dv M : Nat) : Int) = -(((Dv M) * (z / Dv M) : Nat) : Int) - ((Dv M : Nat) : Int) := by
    rw [Int.sub_mul, Int.neg_mul, e, Int.one_mul]
  rw [e3]
  (first | lia | omega)
theorem bitsW {k : Nat} (h : k ≤ 2 ^ 40) : Builtin.Int.intBits (-(k : Int) - 1) ≤ 64 := bits64 (by (first | lia | omega))
end Mine

theorem Mine.rows13_0 : True := by
  k_with_none
  (k_with "call builtin:max" => (k_here; (with_reducible show wpAny _ _ (call (Value.builtin _) [Value.int _ _, Value.int _ _, Value.int _ _]) _ _ _); (with_unfolding_all refine' Mine.max3 ?zz_k1 ?zz_k2 ?zz_k3 ?_; (case zz_k1 => rfl); (case zz_k2 => k_asm); (case zz_k3 => k_asm); k_whole); intro _ _ _ _ _))
  (k_with "call builtin:min" => (k_here; (with_reducible show wpAny _ _ (call (Value.builtin _) [Value.int _ _, Value.int _ _, Value.int _ _]) _ _ _); (with_unfolding_all refine' Mine.min3 ?zz_k1 ?zz_k2 ?zz_k3 ?_; (case zz_k1 => rfl); (case zz_k2 => k_asm); (case zz_k3 => k_asm); k_whole); intro _ _ _ _ _))
  (k_with "binaryOp Mult ref int" => (k_here; k_dflt (refine' Mine.mulOne ?zz_k1 ?zz_k2 ?zz_k3 ?zz_k4 ?zz_k5 ?_; (case zz_k1 => k_asm); (case zz_k2 => k_asm); (case zz_k3 => k_mem); (case zz_k4 => first | (first | lia | omega) | assumption | l_fact); (case zz_k5 => first | (first | lia | omega) | assumption | l_fact); k_whole); intro _ _ _ _ _ _ _; (try k_sweep)))
  (k_with "call builtin:divmod" => (k_here; (with_reducible show wpAny _ _ (call (Value.builtin _) [Value.int _ _, Value.int _ _]) _ _ _); refine divmod_N (by assumption) (by assumption) (by side_arith) ?_; intro _ _ _))
  (k_with "call builtin:len" => (k_here; (with_reducible show wpAny _ _ (call (Value.builtin _) [Value.ref _]) _ _ _); k_dflt (refine' Mine.lenN ?zz_k1 ?zz_k2 ?zz_k3 ?zz_k4 ?_; (case zz_k1 => k_asm); (case zz_k2 => k_mem); (case zz_k3 => with_reducible assumption); (case zz_k4 => ((try simp only [List.length_append, List.length_cons, List.length_nil, List.length_replicate, List.length_map]); (first | lia | omega))); k_whole); intro _ _))
  (k_with "binaryOp Sub int int" => (k_here; with_reducible refine' Mine.subIs ?zz_k1 ?_; (case zz_k1 => assumption)))
  (k_with "binaryOp Add int int" => (k_here; with_reducible refine' Mine.addIs ?zz_k1 ?_; (case zz_k1 => assumption)))
  (k_with "binaryOp Mult int int" => (k_here; with_reducible refine' Mine.mulIs ?zz_k1 ?zz_k2 ?_; (case zz_k1 => assumption); (case zz_k2 => exact Mine.bits64 (by (first | lia | omega)))))
  (k_with "binaryOp RShift int int" => (k_here; with_reducible refine' Mine.shrIs ?zz_k1 ?zz_k2 ?_; (case zz_k1 => assumption); (case zz_k2 => (first | lia | omega))))
  (k_with "binaryOp LShift int int" => (k_here; with_reducible refine' Mine.shlIs ?zz_k1 ?zz_k2 ?zz_k3 ?zz_k4 ?_; (case zz_k1 => assumption); (case zz_k2 => (first | lia | omega)); (case zz_k3 => (first | lia | omega)); (case zz_k4 => (first | lia | omega))))
  (k_with "binaryOp BitXor int int" => (k_here; with_reducible refine' Mine.xorIs ?zz_k1 ?_; (case zz_k1 => assumption)))
  (k_with "exec FunctionDef" => (k_here; kn_here; k_dflt (refine' nestDef_K ?zz_d0 ?zz_k0 ?zz_a0 ?_; (case zz_d0 => exact rfl); (case zz_k0 => exact rfl); (case zz_a0 => exact rfl)); (k_dflt (refine' Mine.nestBoth ?zz_F ?zz_N ?zz_T ?zz_C ?zz_cd ?zz_hs ?zz_ht ?zz_hP ?zz_hc ?zz_cl ?_; (case zz_F => k_asm); (case zz_N => k_asm); (case zz_T => k_asm); (case zz_cd => exact rfl); (case zz_C => kn_code); (case zz_hs => exact rfl); (case zz_ht => assumption); (case zz_hP => (dsimp only [List.dropLast]; k_all)); (case zz_hc => (dsimp only [List.dropLast]; k_all)); (case zz_cl => exact rfl); k_whole); intro _ _ _ _ _ _ _ _ _ _ N' _ _ l1 l2 _ _ _; (dsimp only [List.dropLast, List.append, HAppend.hAppend, Append.append] at N' l1 l2); (simp only [List.forall_mem_cons, List.forall_mem_nil, and_true] at l1 l2); (repeat (obtain ⟨_, l1⟩ := l1)); (repeat (obtain ⟨_, l2⟩ := l2)))))
  (k_with "call builtin:list.append" => (k_here; (with_reducible show wpAny _ _ (call (Value.builtin _) [Value.ref _, _]) _ _ _); k_dflt (refine' Mine.appendL ?zz_k1 ?zz_k2 ?zz_k3 ?zz_k4 ?_; (case zz_k1 => k_asm); (case zz_k2 => k_asm); (case zz_k3 => k_upd); (case zz_k4 => first | (first | lia | omega) | (simp only [List.length_nil, List.length_cons]; (first | lia | omega))); k_whole); intro _ _ _; (try k_sweep)))
  (k_with "call builtin:list.reverse" => (k_here; (with_reducible show wpAny _ _ (call (Value.builtin _) _) _ _ _); (try dsimp only); k_dflt (refine' Mine.reverseL ?zz_k1 ?zz_k2 ?zz_k3 ?zz_k4 ?zz_k5 ?_; (case zz_k1 => k_asm); (case zz_k2 => k_asm); (case zz_k3 => k_upd); (case zz_k4 => with_reducible assumption); (case zz_k5 => (first | lia | omega)); k_whole); intro _ _ _ _; (try k_sweep)))
  (k_with "unaryOp Invert int" => (k_here; with_reducible refine' Mine.invIs ?zz_k1 ?_; (case zz_k1 => assumption)))
  (k_with "call builtin:min" => (k_here; (with_reducible show wpAny _ _ (call (Value.builtin _) [Value.int _ _, Value.int _ _]) _ _ _); k_dflt (refine' Mine.min2 ?zz_k1 ?zz_k2 ?zz_k3 ?_; (case zz_k1 => exact rfl); (case zz_k2 => k_asm); (case zz_k3 => k_asm); k_whole); intro _ _ _ _ _))
  (k_with "call builtin:max" => (k_here; (with_reducible show wpAny _ _ (call (Value.builtin _) [Value.int _ _, Value.int _ _]) _ _ _); k_dflt (refine' Mine.max2 ?zz_k1 ?zz_k2 ?zz_k3 ?_; (case zz_k1 => exact rfl); (case zz_k2 => k_asm); (case zz_k3 => k_asm); k_whole); intro _ _ _ _ _))
  (k_with "binaryOp Div int int" => (k_here; k_dflt (refine' Mine.divFits ?zz_k1 ?zz_k2 ?zz_k3 ?_; (case zz_k1 => exact rfl); (case zz_k2 => first | decide | (first | lia | omega) | assumption); (case zz_k3 => assumption); k_whole)))
  (k_with "subscriptTail Name Slice ref ref" => (k_here; (with_reducible show wpAny _ _ (subscriptTail _ (PySem.Expr.Slice (some _) none (some _) _) (Value.ref _) (Value.ref _)) _ _ _); k_dflt (refine' Mine.stepSl ?zz_F ?zz_N ?zz_l ?zz_p ?zz_q ?zz_k ?zz_o ?zz_i ?zz_n ?_ ?zz_s ?zz_t; (case zz_F => k_asm); (case zz_N => k_asm); (case zz_l => kmk_list); (case zz_p => kmk_part); (case zz_q => kmk_part); (case zz_k => kmk_part); (case zz_o => decide); (case zz_i => assumption); (case zz_n => (first | lia | omega)); (case zz_s => with_unfolding_all rfl); (case zz_t => kmk_pure)); intro _ _ _ _ _ _ _ _ _))
  (k_with "binaryOp Mod int int" => (k_here; (fail_if_success (with_reducible rename Mine.Mark 1 => mk1')); with_reducible refine' Mine.modNat ?zz_k0 ?_; (case zz_k0 => (first | lia | omega)); intro _ _))
  (k_with "binaryOp Mod int int" => (k_here; with_reducible refine' Mine.modIs ?zz_k0 ?zz_k1 ?_; (case zz_k1 => assumption); (case zz_k0 => (first | lia | omega))))
  (k_with "binaryOp Add int int" => (k_here; with_reducible refine' Mine.addTwo ?zz_h ?_; (case zz_h => assumption); intro _ _ _))
  (k_with "call ref" => (k_here; (with_reducible show wpAny _ _ (call (Value.ref 49) [Value.int _ _, Value.int _ _]) _ _ _); refine Mine.halt ?_))
  (k_with "call ref" => (k_here; (with_reducible show wpAny _ _ (call (Value.ref 56) [Value.int _ _, Value.int _ _]) _ _ _); refine Mine.halt ?_))
  (k_with "call ref" => (k_here; (with_reducible show wpAny _ _ (call (Value.ref 115) [Value.int _ _, Value.int _ _, Value.int _ _]) _ _ _); refine Mine.halt ?_))
  (k_with "compareOp NotEq ref ref" => (k_here; (with_reducible show wpAny _ _ (compareOp CmpOp.NotEq (Value.ref _) (Value.ref _)) _ _ _); refine Mine.halt ?_))
  (k_with "exec For Name Name cons nil" => (k_here; (rename Fr _ _ _ _ => lF'); (with_unfolding_all refine' For_turns lF' ?_; k_whole)))
  (k_with "eval ListComp" => (k_here; refine Mine.halt ?_))
  (k_with "call ref" => (k_here; (with_reducible show wpAny _ _ (call (Value.ref 35) [Value.int _ _, Value.int 1 _]) _ _ _); refine Mine.halt ?_))
  (k_with "CompSrc" => (k_here; refine Mine.halt ?_))
  (k_with "call ref" => (k_here; (with_reducible show wpAny _ _ (call (Value.ref 91) [Value.int _ _, Value.int _ _]) _ _ _); refine Mine.halt ?_))
  (k_with "call ref" => (k_here; (with_reducible show wpAny _ _ (call (Value.ref 84) [Value.str (Mine.S _) _, Value.str (Mine.S _) _, Value.int _ _]) _ _ _); k_dflt (refine' Mine.useLevI ?zz_k0 ?zz_k1 ?zz_k2 ?zz_cB ?zz_cF ?zz_cX ?zz_cN ?zz_cT ?zz_cf ?zz_ck ?zz_cdp ?zz_cun ?_; (case zz_k0 => (first | lia | omega)); (case zz_k1 => (rw [Mine.wdL_len]; (first | lia | omega))); (case zz_k2 => (rw [Mine.wdL_len]; (first | lia | omega))); (case zz_cN => k_asm); (case zz_cB => k_asm); (case zz_cF => k_asm); (case zz_cX => k_asm); (case zz_cT => k_asm); (case zz_cf => exact rfl); (case zz_ck => exact rfl); (case zz_cdp => ktr_room); (case zz_cun => ktr_units); k_whole); intro _ _ _ _ _))
  (k_with "execs cons" => (k_here; k_fold))
  (k_with "eval ListComp" => (k_here; k_fold))
  trivial
theorem PySem.Challenge.cw_pg0238_01_holds : PySem.Challenge.rw_pg0238_01.Holds :=
  Mine.hd (by
  k_go0
  (all_goals try k_fold)
  rename (∀ p : Addr × Obj, p ∈ _ → p.1 < _) => l0
  have q1 : (37 : Nat) < _ := l0 _ (.head _)
  have q2 : (30 : Nat) < _ := l0 _ (.tail _ (.head _))
  repeat' (first | (k_unfold; (try dsimp only)) | walk1 | (dsimp only; walk1))
  refine Mine.goOn ?_
  rename_i M hM2 hM3 _ _ _ _ _ oH dH _ DA _ _ _ _ _ _ _ _ _ p hp DB _ _ _ _ _ _ _ _ _ q hq ls _ _ _ lr _ _ _ _ it _ _ _ _ oI _ _ _ oK _ _ dK
  have mk1 : Mine.Mark 1 := trivial
  refine Mine.l1fK hM2 hM3 hp fun Q1 r1 h1 e11 e12 e13 e14 e15 e16 e17 e18 e19 e1A e1B e1C => ?_
  refine Mine.l1fK hM2 hM3 hq fun Q2 r2 h2 e21 e22 e23 e24 e25 e26 e27 e28 e29 e2A e2B e2C => ?_
  refine Mine.l1gK (p := p) (q := q) hM2 hM3 e1B e2B fun z l hh g1 g2 g3 g4 g5 g6 g7 g8 => ?_
  k_dflt (refine' Mine.useDmp (c44 := DA) (c51 := DB) ?hx ?hy ?ha ?hb ?hb2 ?hq ?hr (.inl rfl) (.inl rfl) ?d1 ?d2 ?d3 ?cN ?p1 ?p2 ?p3 ?p4 ?cB ?cF ?cX ?cT ?cf ?ck ?cd ?cdp ?cun ?_; (case hx => exact Mine.powP _); (case hy => exact Mine.dvP _); (case ha => exact e14); (case hb => exact e15); (case hb2 => exact e16); (case hq => exact e11); (case hr => exact e12); (case cN => k_asm); (case p1 => repeat' (first | exact Mine.Pick.head | refine' Mine.Pick.tail ?_)); (case p2 => repeat' (first | exact Mine.Pick.head | refine' Mine.Pick.tail ?_)); (case p3 => repeat' (first | exact Mine.Pick.head | refine' Mine.Pick.tail ?_)); (case p4 => repeat' (first | exact Mine.Pick.head | refine' Mine.Pick.tail ?_)); (case cB => k_asm); (case cF => k_asm); (case cX => k_asm); (case cT => k_asm); (case cf => exact rfl); (case ck => exact rfl); (case cdp => ktr_room); (case cun => ktr_units); (case d1 => k_ne); (case d2 => k_ne); (case d3 => k_ne); (case cd => repeat' (first | exact List.forall_mem_nil _ | (refine' List.forall_mem_cons.mpr ⟨?_, ?_⟩) | k_ne)); k_whole)
  intro D' t1' t2' p44' p51' c44' c51' o44' o51' h' tk' F' N' tX44' tX51' e1' e2' e3' D1' D2' D3'
  dsimp only
  repeat' (first | (k_unfold; (try dsimp only)) | walk1 | (dsimp only; walk1))
  refine Mine.goOn ?_
  with_reducible rename News _ _ _ _ => NN
  have NN2 := Mine.newsTail NN
  clear NN
  k_dflt (refine' Mine.useI2d (y := 1) ?h1 ?h2 ?h3 ?cN ?p1 ?cTS ?p2 ?cB ?cF ?cX ?cT ?cf ?ck ?cd ?cdp ?cun ?_; (case cN => k_asm); (case p1 => repeat' (first | exact Mine.Pick.head | refine' Mine.Pick.tail ?_)); (case cTS => assumption); (case p2 => repeat' (first | exact Mine.Pick.head | refine' Mine.Pick.tail ?_)); (case cB => k_asm); (case cF => k_asm); (case cX => k_asm); (case cT => k_asm); (case cf => exact rfl); (case ck => exact rfl); (case cdp => ktr_room); (case cun => ktr_units); (case h1 => (first | lia | omega)); (case h2 => decide); (case h3 => decide); (case cd => repeat' (first | exact List.forall_mem_nil _ | (refine' List.forall_mem_cons.mpr ⟨?_, ?_⟩) | k_ne)); k_whole)
  intro ra va ea ps' c' oc' h' tk' F' N' iX' tX' n1' n2' D1' D2'
  dsimp only
  repeat' (first | (k_unfold; (try dsimp only)) | walk1 | (dsimp only; walk1))
  refine Mine.goOn ?_
  k_dflt (refine PyProof.Rows.LCg.ListComp_U (F₀ := by k_asm) (by with_unfolding_all rfl) (by decide) (by rfl) (by decide) (by rfl) ?_)
  repeat' (first | (k_unfold; (try dsimp only)) | walk1 | (dsimp only; walk1))
  refine Mine.goOn ?_
  k_dflt (refine PyProof.Rows.LCg.CompSrc.range (n := ((p : Int) - 3 * (M : Int)).toNat) (by rfl) (by k_asm) (by k_asm) (by assumption) (small_one (by (first | lia | omega)) (by (first | lia | omega)) (by (first | lia | omega)) (by (first | lia | omega))) (Mine.rszI _) (by unfold sizeLine; (first | lia | omega)) ?_)
  intro g'
  refine Mine.compMap ((p : Int) - 3 * (M : Int)).toNat (Mine.bitF M p) ?hS ?fin ?turn _ 0 [] (Nat.zero_add _) .nil
  case hS => trivial
  case turn =>
    intro i v I oI' C oC D ys m₂ h tk E' R hi hv hC hx F1 N1 off ne hR
    obtain ⟨t, rfl⟩ := hv
    repeat' (first | (k_unfold; (try dsimp only)) | walk1 | (dsimp only; walk1))
    exact hR _
  case fin =>
    intro ys hy D h tk F1 N1 o1
    have o2 := Mine.off1D o1
    dsimp only
    repeat' (first | (k_unfold; (try dsimp only)) | walk1 | (dsimp only; walk1))
    refine Mine.goOn ?_
    k_dflt (refine' Mine.neInts ?zN ?za ?zb ?zi ?zj ?ze ?zu ?_; (case zN => k_asm); (case za => k_mem); (case zb => k_mem); (case zi => exact iX'); (case zj => exact hy); (case ze => exact e17); (case zu => exact Nat.le_of_ble_eq_true rfl); k_whole)
    clear iX'
    repeat' (first | (k_unfold; (try dsimp only)) | walk1 | (dsimp only; walk1))
    refine Mine.goOn ?_
    k_dflt (refine' Mine.usePaints e1A ?ha ?hb ?hc ?hm1 ?hm3 ?hh ?cTS ?cN ?p1 ?p2 ?cB ?cF ?cX ?cT ?cf ?ck ?cd ?cdp ?cun ?_; (case cN => k_asm); (case p1 => repeat' (first | exact Mine.Pick.head | refine' Mine.Pick.tail ?_)); (case cTS => assumption); (case p2 => repeat' (first | exact Mine.Pick.head | refine' Mine.Pick.tail ?_)); (case cB => k_asm); (case cF => k_asm); (case cX => k_asm); (case cT => k_asm); (case cf => exact rfl); (case ck => exact rfl); (case cdp => ktr_room); (case cun => ktr_units); (case ha => exact Int.natCast_succ _); (case hb => exact rfl); (case hc => exact rfl); (case hm1 => (first | lia | omega)); (case hm3 => (first | lia | omega)); (case hh => (first | lia | omega)); (case cd => repeat' (first | exact List.forall_mem_nil _ | (refine' List.forall_mem_cons.mpr ⟨?_, ?_⟩) | k_ne)); k_whole)
    intro ps2' c2' oc2' h' tk' F' N' tX2' D2'
    dsimp only
    repeat' (first | (k_unfold; (try dsimp only)) | walk1 | (dsimp only; walk1))
    refine Mine.goOn ?_
    k_dflt (refine' Mine.useDmp ?hx ?hy ?ha ?hb ?hb2 ?hq ?hr ?t44 ?t51 ?d1 ?d2 ?d3 ?cN ?p1 ?p2 ?p3 ?p4 ?cB ?cF ?cX ?cT ?cf ?ck ?cd ?cdp ?cun ?_; (case hx => exact Mine.powP _); (case hy => exact Mine.dvP _); (case ha => exact e24); (case hb => exact e25); (case hb2 => exact e26); (case hq => exact e21); (case hr => exact e22); (case cN => k_asm); (case p1 => repeat' (first | exact Mine.Pick.head | refine' Mine.Pick.tail ?_)); (case t44 => exact tX2'); (case p2 => repeat' (first | exact Mine.Pick.head | refine' Mine.Pick.tail ?_)); (case p3 => repeat' (first | exact Mine.Pick.head | refine' Mine.Pick.tail ?_)); (case t51 => exact tX51'); (case p4 => repeat' (first | exact Mine.Pick.head | refine' Mine.Pick.tail ?_)); (case cB => k_asm); (case cF => k_asm); (case cX => k_asm); (case cT => k_asm); (case cf => exact rfl); (case ck => exact rfl); (case cdp => ktr_room); (case cun => ktr_units); (case d1 => k_ne); (case d2 => k_ne); (case d3 => k_ne); (case cd => repeat' (first | exact List.forall_mem_nil _ | (refine' List.forall_mem_cons.mpr ⟨?_, ?_⟩) | k_ne)); k_whole)
    intro D' t1' t2' p44' p51' c44' c51' o44' o51' h' tk' F' N' tX44' tX51' e1' e2' e3' D1' D2' D3'
    dsimp only
    repeat' (first | (k_unfold; (try dsimp only)) | walk1 | (dsimp only; walk1))
    refine Mine.goOn ?_
    with_reducible rename News _ _ _ _ => NN
    have NN2 := Mine.newsTail NN
    clear NN
    k_dflt (refine' Mine.useI2d (y := 1) ?h1 ?h2 ?h3 ?cN ?p1 ?cTS ?p2 ?cB ?cF ?cX ?cT ?cf ?ck ?cd ?cdp ?cun ?_; (case cN => k_asm); (case p1 => repeat' (first | exact Mine.Pick.head | refine' Mine.Pick.tail ?_)); (case cTS => assumption); (case p2 => repeat' (first | exact Mine.Pick.head | refine' Mine.Pick.tail ?_)); (case cB => k_asm); (case cF => k_asm); (case cX => k_asm); (case cT => k_asm); (case cf => exact rfl); (case ck => exact rfl); (case cdp => ktr_room); (case cun => ktr_units); (case h1 => (first | lia | omega)); (case h2 => decide); (case h3 => decide); (case cd => repeat' (first | exact List.forall_mem_nil _ | (refine' List.forall_mem_cons.mpr ⟨?_, ?_⟩) | k_ne)); k_whole)
    intro ra va ea ps' c' oc' h' tk' F' N' iX' tX' n1' n2' D1' D2'
    dsimp only
    repeat' (first | (k_unfold; (try dsimp only)) | walk1 | (dsimp only; walk1))
    refine Mine.goOn ?_
    k_dflt (refine PyProof.Rows.LCg.ListComp_U (F₀ := by k_asm) (by with_unfolding_all rfl) (by decide) (by rfl) (by decide) (by rfl) ?_)
    repeat' (first | (k_unfold; (try dsimp only)) | walk1 | (dsimp only; walk1))
    refine Mine.goOn ?_
    k_dflt (refine PyProof.Rows.LCg.CompSrc.range (n := ((q : Int) - 3 * (M : Int)).toNat) (by rfl) (by k_asm) (by k_asm) (by assumption) (small_one (by (first | lia | omega)) (by (first | lia | omega)) (by (first | lia | omega)) (by (first | lia | omega))) (Mine.rszI _) (by unfold sizeLine; (first | lia | omega)) ?_)
    intro g'
    refine Mine.compMap ((q : Int) - 3 * (M : Int)).toNat (Mine.bitF M q) ?hS2 ?fin2 ?turn2 _ 0 [] (Nat.zero_add _) .nil
    case hS2 => trivial
    case turn2 =>
      intro i v I oI' C oC D ys m₂ h tk E' R hi hv hC hx F1 N1 off ne hR
      obtain ⟨t, rfl⟩ := hv
      repeat' (first | (k_unfold; (try dsimp only)) | walk1 | (dsimp only; walk1))
      exact hR _
    case fin2 =>
      intro ys hy D h tk F1 N1 o1
      have o2 := Mine.off1D o1
      dsimp only
      repeat' (first | (k_unfold; (try dsimp only)) | walk1 | (dsimp only; walk1))
      refine Mine.goOn ?_
      k_dflt (refine' Mine.neInts ?zN ?za ?zb ?zi ?zj ?ze ?zu ?_; (case zN => k_asm); (case za => k_mem); (case zb => k_mem); (case zi => exact iX'); (case zj => exact hy); (case ze => exact e27); (case zu => exact Nat.le_of_ble_eq_true rfl); k_whole)
      clear iX'
      repeat' (first | (k_unfold; (try dsimp only)) | walk1 | (dsimp only; walk1))
      refine Mine.goOn ?_
      k_dflt (refine' Mine.usePaints e2A ?ha ?hb ?hc ?hm1 ?hm3 ?hh ?cTS ?cN ?p1 ?p2 ?cB ?cF ?cX ?cT ?cf ?ck ?cd ?cdp ?cun ?_; (case cN => k_asm); (case p1 => repeat' (first | exact Mine.Pick.head | refine' Mine.Pick.tail ?_)); (case cTS => assumption); (case p2 => repeat' (first | exact Mine.Pick.head | refine' Mine.Pick.tail ?_)); (case cB => k_asm); (case cF => k_asm); (case cX => k_asm); (case cT => k_asm); (case cf => exact rfl); (case ck => exact rfl); (case cdp => ktr_room); (case cun => ktr_units); (case ha => exact Int.natCast_succ _); (case hb => exact rfl); (case hc => exact rfl); (case hm1 => (first | lia | omega)); (case hm3 => (first | lia | omega)); (case hh => (first | lia | omega)); (case cd => repeat' (first | exact List.forall_mem_nil _ | (refine' List.forall_mem_cons.mpr ⟨?_, ?_⟩) | k_ne)); k_whole)
      intro ps2' c2' oc2' h' tk' F' N' tX2' D2'
      dsimp only
      repeat' (first | (k_unfold; (try dsimp only)) | walk1 | (dsimp only; walk1))
      refine Mine.goOn ?_
      k_dflt (refine' Mine.useWdR (r := r1) (M := M) ?ha ?hb ?hr ?hM ?cN ?p1 ?cTS ?p2 ?cB ?cF ?cX ?cT ?cf ?ck ?cd ?cdp ?cun ?_; (case cN => k_asm); (case p1 => repeat' (first | exact Mine.Pick.head | refine' Mine.Pick.tail ?_)); (case cTS => exact tX2'); (case p2 => repeat' (first | exact Mine.Pick.head | refine' Mine.Pick.tail ?_)); (case cB => k_asm); (case cF => k_asm); (case cX => k_asm); (case cT => k_asm); (case cf => exact rfl); (case ck => exact rfl); (case cdp => ktr_room); (case cun => ktr_units); (case ha => exact rfl); (case hb => exact rfl); (case hr => assumption); (case hM => assumption); (case cd => repeat' (first | exact List.forall_mem_nil _ | (refine' List.forall_mem_cons.mpr ⟨?_, ?_⟩) | k_ne)); k_whole)
      intro t3' ps3' c3' oc3' h' tk' F' N' tX3' D3'
      dsimp only
      repeat' (first | (k_unfold; (try dsimp only)) | walk1 | (dsimp only; walk1))
      refine Mine.goOn ?_
      k_dflt (refine' Mine.useWdR (r := r2) (M := M) ?ha ?hb ?hr ?hM ?cN ?p1 ?cTS ?p2 ?cB ?cF ?cX ?cT ?cf ?ck ?cd ?cdp ?cun ?_; (case cN => k_asm); (case p1 => repeat' (first | exact Mine.Pick.head | refine' Mine.Pick.tail ?_)); (case cTS => exact tX3'); (case p2 => repeat' (first | exact Mine.Pick.head | refine' Mine.Pick.tail ?_)); (case cB => k_asm); (case cF => k_asm); (case cX => k_asm); (case cT => k_asm); (case cf => exact rfl); (case ck => exact rfl); (case cdp => ktr_room); (case cun => ktr_units); (case ha => exact rfl); (case hb => exact rfl); (case hr => assumption); (case hM => assumption); (case cd => repeat' (first | exact List.forall_mem_nil _ | (refine' List.forall_mem_cons.mpr ⟨?_, ?_⟩) | k_ne)); k_whole)
      intro t4' ps4' c4' oc4' h' tk' F' N' tX4' D4'
      dsimp only
      repeat' (first | (k_unfold; (try dsimp only)) | walk1 | (dsimp only; walk1))
      · exact absurd g1 (by assumption)
      k_dflt (refine' Mine.mulIs (v := (z : Int) + 1) ?y1 ?y2 ?_; (case y1 => exact g3); (case y2 => exact Mine.bits64 (x := ((r1 + 1 : Nat) : Int)) (by (first | lia | omega))))
      repeat' (first | (k_unfold; (try dsimp only)) | walk1 | (dsimp only; walk1))
      refine Mine.goOn ?_
      k_dflt (refine' Mine.useIdmN (a := z) (b := Mine.Dv M) ?hx ?hy ?ha ?hb ?hb2 rfl ?hr ?t44 ?t51 ?d1 ?d2 ?d3 ?cN ?p1 ?p2 ?p3 ?p4 ?cB ?cF ?cX ?cT ?cf ?ck ?cd ?cdp ?cun ?_; (case hx => exact rfl); (case hy => exact Mine.dvP _); (case ha => exact Nat.lt_of_lt_of_le g2 (by decide)); (case hb => exact e15); (case hb2 => exact g4); (case hr => exact g5); (case cN => k_asm); (case p1 => repeat' (first | exact Mine.Pick.head | refine' Mine.Pick.tail ?_)); (case t44 => exact tX4'); (case p2 => repeat' (first | exact Mine.Pick.head | refine' Mine.Pick.tail ?_)); (case p3 => repeat' (first | exact Mine.Pick.head | refine' Mine.Pick.tail ?_)); (case t51 => exact tX51'); (case p4 => repeat' (first | exact Mine.Pick.head | refine' Mine.Pick.tail ?_)); (case cB => k_asm); (case cF => k_asm); (case cX => k_asm); (case cT => k_asm); (case cf => exact rfl); (case ck => exact rfl); (case cdp => ktr_room); (case cun => ktr_units); (case d1 => k_ne); (case d2 => k_ne); (case d3 => k_ne); (case cd => repeat' (first | exact List.forall_mem_nil _ | (refine' List.forall_mem_cons.mpr ⟨?_, ?_⟩) | k_ne)); k_whole)
      intro D' t1' t2' p44' p51' c44' c51' o44' o51' h' tk' F' N' tX44' tX51' e1' e2' e3' D1' D2' D3'
      dsimp only
      repeat' (first | (k_unfold; (try dsimp only)) | walk1 | (dsimp only; walk1))
      with_reducible rename News _ _ _ _ => NN
      have NN2 := Mine.newsTail NN
      clear NN
      have i9 : Mine.Is ((-((z / Mine.Dv M : Nat) : Int) - 1) * ((Mine.Dv M : Nat) : Int) + ((l + 1 : Nat) : Int)) (-((z : Int) + 1)) := Mine.l1w g5
      have g9 : z / Mine.Dv M ≤ z := Nat.div_le_self _ _
      k_dflt (refine' Mine.mulIs (v := (-((z / Mine.Dv M : Nat) : Int) - 1) * ((Mine.Dv M : Nat) : Int)) ?y1 ?y2 ?_; (case y1 => exact congrArg (fun y : Int => (-((z / Mine.Dv M : Nat) : Int) - 1) * y) (Mine.dvP M)); (case y2 => exact Mine.bitsW (Nat.le_trans g9 (Nat.le_of_lt g2))))
      repeat' (first | (k_unfold; (try dsimp only)) | walk1 | (dsimp only; walk1))
      · first | exact absurd (Mine.l1w g5) (by assumption) | exact absurd rfl (by assumption)
      refine Mine.goOn ?_
      k_dflt (refine' Mine.usePaints g8 ?ha ?hb ?hc ?hm1 ?hm3 ?hh ?cTS ?cN ?p1 ?p2 ?cB ?cF ?cX ?cT ?cf ?ck ?cd ?cdp ?cun ?_; (case cN => k_asm); (case p1 => repeat' (first | exact Mine.Pick.head | refine' Mine.Pick.tail ?_)); (case cTS => exact tX44'); (case p2 => repeat' (first | exact Mine.Pick.head | refine' Mine.Pick.tail ?_)); (case cB => k_asm); (case cF => k_asm); (case cX => k_asm); (case cT => k_asm); (case cf => exact rfl); (case ck => exact rfl); (case cdp => ktr_room); (case cun => ktr_units); (case ha => exact Int.natCast_succ _); (case hb => exact g6); (case hc => exact rfl); (case hm1 => (first | lia | omega)); (case hm3 => (first | lia | omega)); (case hh => (first | lia | omega)); (case cd => repeat' (first | exact List.forall_mem_nil _ | (refine' List.forall_mem_cons.mpr ⟨?_, ?_⟩) | k_ne)); k_whole)
      intro ps2' c2' oc2' h' tk' F' N' tX2' D2'
      dsimp only
      k_steps)
