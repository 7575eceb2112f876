import PyProof.Rows.All
import Wide.All
import OpenK.AllK
import Wide.FinOn
import KE.IntBitsLaws
import KE.BitLaws
import KE.KSortAsk
import PySem.Challenge.RW_pg0238_02
open PySem PySem.W PyProof.Rows
set_option Elab.async false
set_option maxRecDepth 100000
set_option maxHeartbeats 8000000
set_option pp.deepTerms false
set_option pp.deepTerms.threshold 5
set_option linter.all false
namespace Mine
open_top hd for PySem.Challenge.rw_pg0238_02
end Mine
local macro_rules | `(tactic| walk_at $s:str) => `(tactic| k_extra $s)
namespace Mine
abbrev Ar (dp un : Nat) (gd : Option (List Code)) (fr : List Env) : Around := { handled := none, depth := dp, frames := some fr, guards := gd, units := un }

section
variable {prog : Program} {w : World} {A : Around} {s : Shared} {base g : Heap} {outer : List Env} {K : Frag} {p : Program} {loose : List Str} {mean : ExcName → Option Value} {mg mb : Str → Option Value} {mu : List (Addr × Obj)}
  {R : Result → Shared → Prop} {name qual : Str} {params : Arguments} {body : List Stmt} {scope : Scope} {dV kV doc pm cdv ct oc : Value} {an od : Option Addr} {osl : Array (Option Value)} {f : Addr} {args : Args} {binds : List (Str × Value)}

theorem enterP (B : Below A base outer g) (st : g.StaysIn s.heap) (sz : s.heap.objs.size = g.objs.size) (N : ∀ q ∈ mu, s.heap.get? q.1 = some q.2 ∧ g.get? q.1 = none) (X : K.In g) (T : Top p loose mean mg mb g)
    (ho : K.lookup f = some ⟨oc, od, .func (fnOf name qual params body scope dV kV doc pm an cdv ct), osl⟩) (hcd : codeIn K cdv qual = true) (hroom : A.depth < recursionLimit)
    (hbind : BindsTo s (fnOf name qual params body scope dV kV doc pm an cdv ct) args binds) (hloc : ∀ y ∈ binds, scope.names.lookup y.1 = some .local)
    (h : ∀ L' h₁, Fr g L' h₁ (fun y => binds.reverse.lookup y) → News g L' h₁ mu → (∀ q ∈ mu, q.1 < L') →
      wpAny (model prog w) (A.deeper (envOf qual scope L' f cdv)) (execs body (envOf qual scope L' f cdv))
        (fun fl s' => R (.ok (.ret (match fl with | .ret v => v | _ => .none))) s')
        (fun e s' => wpAny (model prog w) (A.deeper (envOf qual scope L' f cdv)) (leaving (envOf qual scope L' f cdv) e) (fun _ s'' => R (.error e) s'') (fun e' s'' => R (.error e') s'') s')
        { s with heap := h₁, toks := s.toks + binds.length })
    (hco : scope.isCoroutine = false) (hgen : scope.isGenerator = false) (hk : scope.kind = .function)
    (hcell : ∀ x ∈ scope.names, x.2 ≠ .cell) : codeAny (model prog w) A (.call (.ref f) args) R s := by
  refine codeAny_call_def (fd := fnOf name qual params body scope dV kV doc pm an cdv ct) (body := body) (binds := binds) hroom (st _ _ (X _ _ ho)) rfl (T.nolimit.keeps st) ((codeRec_of X hcd).keeps st) rfl hbind hcell hloc (fun h₁ hns hk₁ => ?_) hco hgen hk
  exact h s.heap.objs.size h₁ ⟨hns, fun b o e => hk₁ b o (st _ _ e), Nat.le_of_eq sz.symm⟩ (fun q hq => ⟨hk₁ _ _ (N q hq).1, Nat.ne_of_lt (Heap.lt_size (N q hq).1), (N q hq).2⟩) fun q hq => Heap.lt_size (N q hq).1
end

theorem rm0 {n a K : Nat} (h : n + a < K) : n < K := Nat.lt_of_le_of_lt (Nat.le_add_right n a) h
theorem rm3 {n a b c K : Nat} (h : n + a < K) (e : b + c ≤ a) : n + b + c < K := by
  rw [Nat.add_assoc]
  exact Nat.lt_of_le_of_lt (Nat.add_le_add_left e n) h
theorem rm2 {n a b c K : Nat} (h : n + a < K) (e : Nat.ble (b + c) a = true) : n + b + c < K := rm3 h (Nat.le_of_ble_eq_true e)
theorem ssub {n i : Nat} (h : i < n) : n - 1 - i < n := Nat.lt_of_le_of_lt (Nat.sub_le _ _) (Nat.sub_lt (Nat.lt_of_le_of_lt (Nat.zero_le _) h) Nat.one_pos)

abbrev CC (prog : Program) (K : Frag) (w : World) (f : Addr) (D U : Nat) (mu : List (Addr × Obj)) (vs : List Value) (Post : Value → List (Addr × Obj) → Prop) : Prop :=
  ∀ (p : Program) (loose : List Str) (mean : ExcName → Option Value) (mg mb : Str → Option Value) (dp un : Nat) (gd : Option (List Code)) (fr : List Env) (base g : Heap) (s : Shared) (R : Result → Shared → Prop),
    Below (Ar dp un gd fr) base fr g → K.In g → Top p loose mean mg mb g → g.StaysIn s.heap → s.heap.objs.size = g.objs.size → (∀ q ∈ mu, s.heap.get? q.1 = some q.2 ∧ g.get? q.1 = none) →
    dp + D < recursionLimit → un + U < cLine →
    (∀ v n' h' tk', Post v n' → g.StaysIn h' → (∀ q ∈ n', h'.get? q.1 = some q.2 ∧ g.get? q.1 = none) → R (.ok (.ret v)) { s with heap := h', toks := tk' }) →
    codeAny (model prog w) (Ar dp un gd fr) (.call (.ref f) ⟨vs, []⟩) R s

theorem CC.use {prog : Program} {K : Frag} {w : World} {f : Addr} {D U : Nat} {mu rest news : List (Addr × Obj)} {vs : List Value} {Post : Value → List (Addr × Obj) → Prop}
    (C : CC prog K w f D U mu vs Post) {p : Program} {loose : List Str} {mean : ExcName → Option Value} {mg mb : Str → Option Value} {dp un : Nat} {gd : Option (List Code)} {env : Env} {outer : List Env} {A₀ : Around} {base h₀ : Heap} {L : Addr} {m : Str → Option Value} {s : Shared} {Q E : Value → Shared → Prop}
    (B : Below A₀ base outer h₀) (F : Fr h₀ L s.heap m) (X : K.In h₀) (N : News h₀ L s.heap news) (T : Top p loose mean mg mb h₀) (hf : env.frame = some L) (hke : env.scope.kind = .function)
    (P : ∀ q ∈ mu ++ rest, q ∈ news) (hd : ∀ q ∈ rest, ∀ r ∈ mu, q.1 ≠ r.1) (hdp : dp + D < recursionLimit) (hun : un + U < cLine)
    (h : ∀ v n' h' tk', Post v n' → Fr h₀ L h' m → News h₀ L h' (n' ++ rest) → (∀ q ∈ n', ∀ r ∈ rest, r.1 ≠ q.1) → Q v { s with heap := h', toks := tk' }) :
    wpAny (model prog w) (Ar dp un gd (env :: outer)) (call (.ref f) vs) Q E s := by
  have Nm : News h₀ L s.heap mu := fun q hq => N q (P q (List.mem_append_left _ hq))
  have Nr : News h₀ L s.heap rest := fun q hq => N q (P q (List.mem_append_right _ hq))
  refine wpAny_call ?_
  obtain ⟨FG, BG, stg, -⟩ := groundX (A := Ar dp un gd (env :: outer)) (R := fun r s' => match r with | .ok (.ret v) => Q v s' | .ok _ => False | .error e => E e s') B F Nm rfl hf hke
  refine C p loose mean mg mb dp un gd (env :: outer) base _ s _ BG (X.keeps stg) (T.keeps stg) (fun b o e => of_hideAll _ e) (hideAll_size _ _).symm (fun q hq => ⟨(Nm q hq).1, hideAll_none _ (List.mem_map_of_mem hq)⟩) hdp hun fun v n' h' tk' hP hst hn' => ?_
  have Fr' : Fr h₀ L h' m := ⟨FG.ns.keeps hst, fun b o e => hst b o (FG.keep b o e), F.above⟩
  have hin : ∀ r ∈ rest, (hideAll s.heap (mu.map (·.1))).get? r.1 = some r.2 := fun r hr => hideAll_get _ (Nr r hr).1 fun q => by
    obtain ⟨z, hz, e⟩ := List.mem_map.mp q
    exact hd r hr z hz e.symm
  obtain ⟨oL, hL1, hL2⟩ : ∃ o, (hideAll s.heap (mu.map (·.1))).get? L = some o ∧ True := by
    obtain ⟨o, es, ep, e, _⟩ := FG.ns
    exact ⟨o, e, trivial⟩
  have Nn : News h₀ L h' (n' ++ rest) := fun q hq => by
    rcases List.mem_append.mp hq with hq | hq
    · refine ⟨(hn' q hq).1, fun e => ?_, ?_⟩
      · have := (hn' q hq).2; rw [e, hL1] at this; cases this
      · cases z : h₀.get? q.1 with
        | none => rfl
        | some o => have := (hn' q hq).2; rw [stg _ _ z] at this; cases this
    · exact ⟨hst _ _ (hin q hq), (Nr q hq).2⟩
  exact h v n' h' tk' hP Fr' Nn fun q hq r hr e => by
    have := (hn' q hq).2; rw [← e, hin r hr] at this; cases this
end Mine
namespace Mine
section
variable {prog : Program} {w : World} {A : Around} {s : Shared} {base g : Heap} {outer : List Env} {K : Frag} {p : Program} {loose : List Str} {mean : ExcName → Option Value} {mg mb : Str → Option Value} {mu : List (Addr × Obj)}
  {R : Result → Shared → Prop} {name qual : Str} {params : Arguments} {body : List Stmt} {scope : Scope} {dV kV doc pm cdv ct oc : Value} {an od : Option Addr} {osl : Array (Option Value)} {f : Addr} {args : Args} {binds : List (Str × Value)}

theorem enterC (B : Below A base outer g) (st : g.StaysIn s.heap) (sz : s.heap.objs.size = g.objs.size) (N : ∀ q ∈ mu, s.heap.get? q.1 = some q.2 ∧ g.get? q.1 = none) (X : K.In g) (T : Top p loose mean mg mb g)
    (ho : K.lookup f = some ⟨oc, od, .func (fnOf name qual params body scope dV kV doc pm an cdv ct), osl⟩) (hcd : codeIn K cdv qual = true) (hroom : A.depth < recursionLimit)
    (hbind : BindsTo s (fnOf name qual params body scope dV kV doc pm an cdv ct) args binds) (hkind : (binds.all fun y => scope.names.lookup y.1 == some .local || scope.names.lookup y.1 == some .cell) = true)
    (hnd : ((cellsFrom 0 scope.names []).map (·.1)).Nodup)
    (h : ∀ L' h₁ tk cells, Fr g L' h₁ (bindL (envOfC qual scope L' f cdv).kindOf binds fun _ => none) → News g L' h₁ (cells ++ mu) →
      CellsAre (bindC (envOfC qual scope L' f cdv).kindOf binds fun _ => none) (cellsFrom (L' + 1) scope.names []) cells → (∀ q ∈ mu, q.1 < L') →
      wpAny (model prog w) (A.deeper (envOfC qual scope L' f cdv)) (execs body (envOfC qual scope L' f cdv))
        (fun fl s' => R (.ok (.ret (match fl with | .ret v => v | _ => .none))) s')
        (fun e s' => wpAny (model prog w) (A.deeper (envOfC qual scope L' f cdv)) (leaving (envOfC qual scope L' f cdv) e) (fun _ s'' => R (.error e) s'') (fun e' s'' => R (.error e') s'') s')
        { s with heap := h₁, toks := tk })
    (hco : scope.isCoroutine = false) (hgen : scope.isGenerator = false) (hk : scope.kind = .function) : codeAny (model prog w) A (.call (.ref f) args) R s := by
  refine codeAny_call_function (fd := fnOf name qual params body scope dV kV doc pm an cdv ct) hroom (st _ _ (X _ _ ho)) rfl hco hgen rfl ((codeRec_of X hcd).keeps st) (hbind _ _ _ _ ?_)
  refine wpAny_newFunctionEnv_cells hk (kindsX hkind _) fun env' he s' x => ?_
  subst he
  refine ⟨(T.nolimit.keeps st).keeps x.toInCall.keep, codeAny_func ?_⟩
  obtain ⟨h₁, tk, rfl, _⟩ := x.done
  have hk₁ := x.toInCall.keep
  obtain ⟨cells, NC, Y⟩ := Cl.news (h₀ := s.heap) (Nat.le_refl _) fun n c hm => ⟨x.cell n c (lookup_of_mem_nodup (cellsFrom_names scope.names 0 (s.heap.objs.size + 1) [] [] rfl ▸ hnd) hm), x.above n c hm⟩
  refine h s.heap.objs.size h₁ tk cells ⟨x.toInCall.ns, fun b o e => hk₁ b o (st _ _ e), Nat.le_of_eq sz.symm⟩ (fun p hp => ?_) Y fun q hq => Heap.lt_size (N q hq).1
  rcases List.mem_append.mp hp with hp | hp
  · refine ⟨(NC p hp).1, (NC p hp).2.1, ?_⟩
    cases q : g.get? p.1 with
    | none => rfl
    | some o => have := st _ _ q; rw [(NC p hp).2.2] at this; cases this
  · exact ⟨hk₁ _ _ (N p hp).1, Nat.ne_of_lt (Heap.lt_size (N p hp).1), (N p hp).2⟩
end
end Mine
namespace Mine
theorem out {g h : Heap} {L : Addr} {n : List (Addr × Obj)} (N : News g L h n) : ∀ q ∈ n, h.get? q.1 = some q.2 ∧ g.get? q.1 = none := fun q hq => ⟨(N q hq).1, (N q hq).2.2⟩
theorem outE {g h : Heap} : ∀ q ∈ ([] : List (Addr × Obj)), h.get? q.1 = some q.2 ∧ g.get? q.1 = none := fun _ hq => nomatch hq
abbrev tupOf (its : List Value) : Obj := { cls := .type "tuple", data := .seq its.toArray }
end Mine
namespace Mine
theorem fill : (Mine.hd.heap_39, PySem.Challenge.rw_pg0238_02) = (Mine.hd.heap_39, PySem.Challenge.rw_pg0238_02) := by
  w_top off
  k_fill
  rfl
abbrev C3 (w : World) (f : Addr) (D U : Nat) (mu : List (Addr × Obj)) (vs : List Value) (Post : Value → List (Addr × Obj) → Prop) : Prop := CC PySem.Challenge.rw_pg0238_02.row.prog (Mine.hd.heap_39 w.params) w f D U mu vs Post
end Mine
namespace Mine
section
variable {prog : Program} {w : World} {A : Around} {E : Value → Shared → Prop} {s : Shared} {h₀ : Heap} {L : Addr} {m : Str → Option Value} {news : List (Addr × Obj)}
theorem max3 {a b c : Int} {t u x : Tok} {Q : Value → Shared → Prop} (hh : A.handled = none) (F : Fr h₀ L s.heap m) (N : News h₀ L s.heap news)
    (h : ∀ h' tk t', Fr h₀ L h' m → News h₀ L h' news → Q (.int (max (max a b) c) t') { s with heap := h', toks := tk }) :
    wpAny (model prog w) A (call (.builtin "max") [.int a t, .int b u, .int c x]) Q E s :=
  max_three_ints hh fun h' tk hk => by
    have key := fun t' => h h' tk t' (F.grownK hk) (N.grown hk)
    by_cases hba : b > a
    · rw [Int.max_eq_right (Int.le_of_lt hba)] at key
      by_cases hc : c > b <;> simp only [hba, hc, if_true, if_false]
      · rw [Int.max_eq_right (Int.le_of_lt hc)] at key; exact key _
      · rw [Int.max_eq_left (Int.not_lt.mp hc)] at key; exact key _
    · rw [Int.max_eq_left (Int.not_lt.mp hba)] at key
      by_cases hc : c > a <;> simp only [hba, hc, if_true, if_false]
      · rw [Int.max_eq_right (Int.le_of_lt hc)] at key; exact key _
      · rw [Int.max_eq_left (Int.not_lt.mp hc)] at key; exact key _
theorem min3 {a b c : Int} {t u x : Tok} {Q : Value → Shared → Prop} (hh : A.handled = none) (F : Fr h₀ L s.heap m) (N : News h₀ L s.heap news)
    (h : ∀ h' tk t', Fr h₀ L h' m → News h₀ L h' news → Q (.int (min (min a b) c) t') { s with heap := h', toks := tk }) :
    wpAny (model prog w) A (call (.builtin "min") [.int a t, .int b u, .int c x]) Q E s :=
  min_three_ints hh fun h' tk hk => by
    have key := fun t' => h h' tk t' (F.grownK hk) (N.grown hk)
    by_cases hba : b < a
    · rw [Int.min_eq_right (Int.le_of_lt hba)] at key
      by_cases hc : c < b <;> simp only [hba, hc, if_true, if_false]
      · rw [Int.min_eq_right (Int.le_of_lt hc)] at key; exact key _
      · rw [Int.min_eq_left (Int.not_lt.mp hc)] at key; exact key _
    · rw [Int.min_eq_left (Int.not_lt.mp hba)] at key
      by_cases hc : c < a <;> simp only [hba, hc, if_true, if_false]
      · rw [Int.min_eq_right (Int.le_of_lt hc)] at key; exact key _
      · rw [Int.min_eq_left (Int.not_lt.mp hc)] at key; exact key _
end
end Mine
namespace Mine
section
variable {prog : Program} {w : World} {A : Around} {E : Value → Shared → Prop} {s : Shared} {h₀ : Heap} {L : Addr} {m : Str → Option Value} {news : List (Addr × Obj)}
theorem flat_rep {v : Value} : ∀ k : Nat, (List.replicate k [v]).flatten = List.replicate k v
  | 0 => rfl
  | k + 1 => by simp [List.replicate_succ, flat_rep k]
theorem ints_rep {z : Int} {t : Tok} : ∀ k : Nat, IntsAre (List.replicate k (.int z t)) (List.replicate k z)
  | 0 => .nil
  | k + 1 => .cons _ _ (ints_rep k)
theorem mulOne {l : Addr} {z : Int} {t : Tok} {k : Nat} {x : Int} {u : Tok} {Q : Value → Shared → Prop} (F : Fr h₀ L s.heap m) (N : News h₀ L s.heap news) (hm : (l, listOf [.int z t].toArray k) ∈ news)
    (h0 : 0 ≤ x) (h1 : x < 1048576) (h : ∀ r vs h', Fr h₀ L h' m → News h₀ L h' ((r, listOf vs.toArray 0) :: news) → (∀ p ∈ news, p.1 < r) → IntsAre vs (List.replicate x.toNat z) → Q (.ref r) { s with heap := h' }) :
    wpAny (model prog w) A (binaryOp .Mult (.ref l) (.int x u)) Q E s :=
  mul_list F N (N _ hm).1 (by (first | lia | omega)) (by (first | lia | omega)) (by simp; (first | lia | omega)) fun h' F' N' => by
    refine h _ (List.replicate x.toNat (.int z t)) h' F' ?_ (fun p hp => Heap.lt_size (N p hp).1) (ints_rep _)
    simpa [listMul_foldl, flat_rep] using N'
theorem splitFn {f c l : Addr} {fn oc lo : Obj} {h : Heap} {rest : List (Addr × Obj)} {G : Prop} (N : News h₀ L h ((f, fn) :: (c, oc) :: (l, lo) :: rest)) (k : ∀ r, r = (f, fn) :: (c, oc) :: rest → News h₀ L h ((l, lo) :: r) → G) : G :=
  k _ rfl fun p hp => N p (by
    rcases List.mem_cons.mp hp with rfl | hp
    · exact .tail _ (.tail _ (.head _))
    · rcases List.mem_cons.mp hp with rfl | hp
      · exact .head _
      · rcases List.mem_cons.mp hp with rfl | hp
        · exact .tail _ (.head _)
        · exact .tail _ (.tail _ (.tail _ hp)))
end
end Mine
namespace Mine
section
variable {prog : Program} {w : World} {A : Around} {s : Shared} {base g : Heap} {outer : List Env} {K : Frag} {p : Program} {loose : List Str} {mean : ExcName → Option Value} {mg mb : Str → Option Value} {mu : List (Addr × Obj)}
  {R : Result → Shared → Prop} {name qual : Str} {params : Arguments} {body : List Stmt} {scope : Scope} {cl : List (Str × Addr)} {doc pm ctv : Value} {c' : Addr} {f : Addr} {args : Args} {binds : List (Str × Value)}
theorem codeRecS {h : Heap} {c : Addr} {oc : Obj} {vs : Array Value} {qual : Str} {t : Tok} (hg : h.get? c = some oc) (hd : oc.data = .fields vs) (hv : vs[1]? = some (.str qual t)) : h.CodeRec (.ref c) qual := ⟨c, oc, vs, t, rfl, hg, hd, hv⟩
theorem enterN (B : Below A base outer g) (st : g.StaysIn s.heap) (sz : s.heap.objs.size = g.objs.size) (N : ∀ q ∈ mu, s.heap.get? q.1 = some q.2 ∧ g.get? q.1 = none) (X : K.In g) (T : Top p loose mean mg mb g)
    (ho : (f, fnMade name qual params body scope cl doc pm c' ctv) ∈ mu) (hcd : s.heap.CodeRec (.ref c') qual) (hroom : A.depth < recursionLimit)
    (hbind : BindsTo s (fnX name qual params body scope cl .none .none doc pm none (.ref c') ctv) args binds) (hloc : ∀ y ∈ binds, scope.names.lookup y.1 = some .local)
    (h : ∀ L' h₁, Fr g L' h₁ (fun y => binds.reverse.lookup y) → News g L' h₁ mu → (∀ q ∈ mu, q.1 < L') →
      wpAny (model prog w) (A.deeper (envX qual scope L' f (.ref c') cl)) (execs body (envX qual scope L' f (.ref c') cl))
        (fun fl s' => R (.ok (.ret (match fl with | .ret v => v | _ => .none))) s')
        (fun e s' => wpAny (model prog w) (A.deeper (envX qual scope L' f (.ref c') cl)) (leaving (envX qual scope L' f (.ref c') cl) e) (fun _ s'' => R (.error e) s'') (fun e' s'' => R (.error e') s'') s')
        { s with heap := h₁, toks := s.toks + binds.length })
    (hco : scope.isCoroutine = false) (hgen : scope.isGenerator = false) (hk : scope.kind = .function)
    (hcell : ∀ x ∈ scope.names, x.2 ≠ .cell) : codeAny (model prog w) A (.call (.ref f) args) R s := by
  refine codeAny_call_def (fd := fnX name qual params body scope cl .none .none doc pm none (.ref c') ctv) (body := body) (binds := binds) hroom (N _ ho).1 rfl (T.nolimit.keeps st) hcd rfl hbind hcell hloc (fun h₁ hns hk₁ => ?_) hco hgen hk
  exact h s.heap.objs.size h₁ ⟨hns, fun b o e => hk₁ b o (st _ _ e), Nat.le_of_eq sz.symm⟩ (fun q hq => ⟨hk₁ _ _ (N q hq).1, Nat.ne_of_lt (Heap.lt_size (N q hq).1), (N q hq).2⟩) fun q hq => Heap.lt_size (N q hq).1
theorem lenN {prog : Program} {w : World} {A : Around} {E : Value → Shared → Prop} {s : Shared} {h₀ : Heap} {L : Addr} {news : List (Addr × Obj)} {l : Addr} {vs : List Value} {ns : List Int} {n : Nat} {Q : Value → Shared → Prop} (N : News h₀ L s.heap news) (hm : (l, listOf vs.toArray n) ∈ news) (hi : IntsAre vs ns) (hfit : ns.length < 2 ^ 62)
    (h : ∀ t tk, Q (.int (ns.length : Nat) t) { s with toks := tk }) : wpAny (model prog w) A (call (.builtin "len") [.ref l]) Q E s := by
  have e : vs.toArray.size = ns.length := by simp [hi.length]
  refine Calls.call_len_list (PySem.IsL.isList (n := n) (N _ hm).1) (by (first | lia | omega)) ?_
  rw [e]
  exact h _ _
end
noncomputable def digs (y : Nat) : Nat → Nat → List Int
  | 0, _ => []
  | k + 1, x => ((x % 2 ^ y : Nat) : Int) :: digs y k (x / 2 ^ y)
noncomputable def splice (ns : List Int) (lo hi : Nat) (ds : List Int) : List Int := ns.take lo ++ ds ++ ns.drop hi
noncomputable def InnerC (prog : Program) (K : Frag) (w : World) (f c ca ci cn l : Addr) (fn oc oa oi on : Obj) (y e n : Nat) : Prop :=
  ∀ (x lo hi : Nat) (vs : List Value) (ns : List Int) (tx tl th : Tok), IntsAre vs ns → lo < hi → hi ≤ ns.length → hi - lo ≤ n → x < 2 ^ (y * (hi - lo)) → x < 2 ^ 48 → hi ≤ 48 →
    CC prog K w f (n + 1) (8 * (n + 1)) [(l, listOf vs.toArray e), (f, fn), (c, oc), (ca, oa), (ci, oi), (cn, on)] [.int x tx, .int lo tl, .int hi th]
      (fun v n' => ∃ vs', v = .none ∧ n' = [(l, listOf vs'.toArray e), (f, fn), (c, oc), (ca, oa), (ci, oi), (cn, on)] ∧ IntsAre vs' (splice ns lo hi (digs y (hi - lo) x)))
theorem innerSplit {prog : Program} {K : Frag} {w : World} {g h : Heap} {L f c ca ci cn l l0 t : Addr} {fn oc oa oi on lo0 ot : Obj} {y e : Nat} {vs : List Value} {G : Prop}
    (N : News g L h [(f, fn), (l, listOf vs.toArray e), (l0, lo0), (cn, on), (ca, oa), (ci, oi), (t, ot), (c, oc)]) (key : ∀ n, InnerC prog K w f c ca ci cn l fn oc oa oi on y e n)
    (k : (∀ n, InnerC prog K w f c ca ci cn l fn oc oa oi on y e n) → G) : G := k key
theorem outS {g h : Heap} {L : Addr} {n n' : List (Addr × Obj)} (N : News g L h n) (P : ∀ q ∈ n', q ∈ n) : ∀ q ∈ n', h.get? q.1 = some q.2 ∧ g.get? q.1 = none := fun q hq => ⟨(N q (P q hq)).1, (N q (P q hq)).2.2⟩
end Mine
namespace Mine
noncomputable def Is (a b : Int) : Prop := a = b
theorem land_hi (x s : Nat) : x &&& (x / 2 ^ s * 2 ^ s) = x / 2 ^ s * 2 ^ s := by
  apply Nat.eq_of_testBit_eq
  intro i
  rw [Nat.testBit_and, Nat.testBit_mul_two_pow, Nat.testBit_div_two_pow]
  by_cases h : s ≤ i
  · simp [h, Nat.sub_add_cancel h]
  · simp [h]
theorem xor_low (x s : Nat) : Builtin.bitXor (x : Int) ((x / 2 ^ s * 2 ^ s : Nat) : Int) = ((x % 2 ^ s : Nat) : Int) := by
  rw [bitXor_and, bitAnd_pp (Int.natCast_nonneg _) (Int.natCast_nonneg _)]
  simp only [Int.toNat_natCast]
  rw [land_hi]
  have := Nat.div_add_mod x (2 ^ s)
  rw [Nat.mul_comm] at this
  (first | lia | omega)
theorem digs_split (y a b x : Nat) : digs y (a + b) x = digs y a (x % 2 ^ (y * a)) ++ digs y b (x / 2 ^ (y * a)) := by
  induction a generalizing x with
  | zero => simp [digs]
  | succ a ih =>
    have e1 : 2 ^ (y * (a + 1)) = 2 ^ y * 2 ^ (y * a) := by rw [← Nat.pow_add]; congr 1; rw [Nat.mul_add]; (first | lia | omega)
    rw [show a + 1 + b = (a + b) + 1 from by (first | lia | omega)]
    simp only [digs]
    rw [ih, e1, Nat.mod_mul_right_mod, Nat.mod_mul_right_div_self, Nat.div_div_eq_div_mul]
    rfl
theorem digs_length (y k x : Nat) : (digs y k x).length = k := by
  induction k generalizing x with
  | zero => rfl
  | succ k ih => simp [digs, ih]
theorem splice_length {ns : List Int} {lo hi : Nat} {ds : List Int} (h1 : lo ≤ hi) (h2 : hi ≤ ns.length) (hd : ds.length = hi - lo) : (splice ns lo hi ds).length = ns.length := by
  simp [splice, hd]; (first | lia | omega)
theorem splice_splice {ns : List Int} {lo mid hi : Nat} {d1 d2 : List Int} (h1 : lo ≤ mid) (h2 : mid ≤ hi) (h3 : hi ≤ ns.length) (hd : d1.length = mid - lo) : splice (splice ns lo mid d1) mid hi d2 = splice ns lo hi (d1 ++ d2) := by
  have e1 : (ns.take lo ++ d1 ++ ns.drop mid).take mid = ns.take lo ++ d1 := by
    rw [List.take_append_of_le_length (by simp [hd]; (first | lia | omega)), List.take_of_length_le (by simp [hd]; (first | lia | omega))]
  have e2 : (ns.take lo ++ d1 ++ ns.drop mid).drop hi = ns.drop hi := by
    rw [List.drop_append, List.drop_of_length_le (by simp [hd]; (first | lia | omega)), List.nil_append, List.drop_drop]
    congr 1
    simp [hd]; (first | lia | omega)
  unfold splice
  rw [e1, e2]
  simp
theorem splice_one {ns : List Int} {lo hi x y : Nat} (h : lo + 1 = hi) (hl : hi ≤ ns.length) (hx : x < 2 ^ (y * (hi - lo))) : ns.set lo (x : Int) = splice ns lo hi (digs y (hi - lo) x) := by
  subst h
  have e : lo + 1 - lo = 1 := by (first | lia | omega)
  rw [e] at hx ⊢
  rw [Nat.mul_one] at hx
  simp only [digs, Nat.mod_eq_of_lt hx, splice]
  apply List.ext_getElem?
  intro i
  rw [List.getElem?_set]
  by_cases h1 : lo = i
  · subst h1
    simp only [if_true]
    rw [if_pos (by (first | lia | omega))]
    rw [List.append_assoc, List.getElem?_append_right (by simp; (first | lia | omega))]
    simp [Nat.min_eq_left (show lo ≤ ns.length by (first | lia | omega))]
  · simp only [h1, if_false]
    by_cases h2 : i < lo
    · rw [List.append_assoc, List.getElem?_append_left (by simp; (first | lia | omega)), List.getElem?_take_of_lt h2]
    · rw [List.append_assoc, List.getElem?_append_right (by simp; (first | lia | omega)), List.getElem?_append_right (by simp; (first | lia | omega))]
      simp [Nat.min_eq_left (show lo ≤ ns.length by (first | lia | omega))]
      congr 1
      (first | lia | omega)
section
variable {prog : Program} {w : World} {A : Around} {E : Value → Shared → Prop} {s : Shared} {a b n v : Int} {t u : Tok} {Q : Value → Shared → Prop}
theorem subIs (e : Is (a - b) v) (h : Q (.int v s.toks) { s with toks := s.toks + 1 }) : wpAny (model prog w) A (binaryOp .Sub (.int a t) (.int b u)) Q E s := PyProof.Rows.sub_int (by rw [show a - b = v from e]; exact h)
theorem addIs (e : Is (a + b) v) (h : Q (.int v s.toks) { s with toks := s.toks + 1 }) : wpAny (model prog w) A (binaryOp .Add (.int a t) (.int b u)) Q E s := PyProof.Rows.add_int (by rw [show a + b = v from e]; exact h)
theorem mulIs (e : Is (a * b) v) (hm : Builtin.Int.intBits a ≤ 64) (h : Q (.int v s.toks) { s with toks := s.toks + 1 }) : wpAny (model prog w) A (binaryOp .Mult (.int a t) (.int b u)) Q E s := PyProof.Rows.mul_int (by rw [show a * b = v from e]; exact h) (IntMulOk.of_left hm)
theorem shrIs (e : Is (a.fdiv (2 ^ n.toNat)) v) (hn : 0 ≤ n) (h : Q (.int v s.toks) { s with toks := s.toks + 1 }) : wpAny (model prog w) A (binaryOp .RShift (.int a t) (.int n u)) Q E s := PyProof.Rows.rshift_int hn (by rw [show a.fdiv (2 ^ n.toNat) = v from e]; exact h)
theorem shlIs (e : Is (a * 2 ^ n.toNat) v) (hn : 0 ≤ n) (hn2 : n ≤ 1000000) (ha : a.natAbs < 2 ^ 64) (h : Q (.int v s.toks) { s with toks := s.toks + 1 }) : wpAny (model prog w) A (binaryOp .LShift (.int a t) (.int n u)) Q E s := PyProof.Rows.lshift_int_small hn hn2 ha (by rw [show a * 2 ^ n.toNat = v from e]; exact h)
theorem xorIs (e : Is (Builtin.bitXor a b) v) (h : Q (.int v s.toks) { s with toks := s.toks + 1 }) : wpAny (model prog w) A (binaryOp .BitXor (.int a t) (.int b u)) Q E s := PyProof.Rows.xor_int (by rw [show Builtin.bitXor a b = v from e]; exact h)
theorem bits64 {x : Int} (h : x.natAbs < 2 ^ 64) : Builtin.Int.intBits x ≤ 64 := intBits_le_iff.mpr h
theorem fdivP (x s : Nat) : (x : Int).fdiv (2 ^ ((s : Int)).toNat) = ((x / 2 ^ s : Nat) : Int) := by
  rw [Int.toNat_natCast, Int.fdiv_eq_ediv_of_nonneg _ (Int.le_of_lt (Int.pow_pos (by decide)))]
  simp
end
end Mine
namespace Mine
theorem i2d_base {vs' : List Value} {ns : List Int} {lo hi x y : Nat} (h : IntsAre vs' (ns.set ((lo : Int)).toNat (x : Int))) (h1 : lo + 1 = hi) (hl : hi ≤ ns.length) (hx : x < 2 ^ (y * (hi - lo))) : IntsAre vs' (splice ns lo hi (digs y (hi - lo) x)) := by
  rw [Int.toNat_natCast, splice_one h1 hl hx] at h
  exact h
theorem mem_self {α : Type} {l : List α} : ∀ q ∈ l ++ [], q ∈ l := by simp
theorem i2d_join {vs' : List Value} {ns : List Int} {lo mid hi x y : Nat} (h1 : lo ≤ mid) (h2 : mid ≤ hi) (h3 : hi ≤ ns.length)
    (h : IntsAre vs' (splice (splice ns lo mid (digs y (mid - lo) (x % 2 ^ ((mid - lo) * y)))) mid hi (digs y (hi - mid) (x / 2 ^ ((mid - lo) * y))))) : IntsAre vs' (splice ns lo hi (digs y (hi - lo) x)) := by
  rw [splice_splice h1 h2 h3 (digs_length _ _ _), Nat.mul_comm, ← digs_split, show mid - lo + (hi - mid) = hi - lo from by (first | lia | omega)] at h
  exact h
end Mine
namespace Mine
noncomputable def undigs (y : Nat) : List Int → Int
  | [] => 0
  | d :: r => d + 2 ^ y * undigs y r
noncomputable def seg (y : Nat) (ds : List Int) (lo hi : Nat) : Int := undigs y ((ds.drop lo).take (hi - lo))
theorem undigs_append (y : Nat) (a b : List Int) : undigs y (a ++ b) = undigs y a + 2 ^ (y * a.length) * undigs y b := by
  induction a with
  | nil => simp [undigs]
  | cons d r ih =>
    have e : (2 : Int) ^ (y * (r.length + 1)) = 2 ^ y * 2 ^ (y * r.length) := by rw [← Int.pow_add]; congr 1; rw [Nat.mul_add]; (first | lia | omega)
    simp only [List.cons_append, undigs, ih, List.length_cons, e, Int.mul_add, Int.mul_assoc]
    (first | lia | omega)
theorem undigs_bound (y : Nat) (a : List Int) (h : ∀ d ∈ a, 0 ≤ d ∧ d < 2 ^ y) : 0 ≤ undigs y a ∧ undigs y a < 2 ^ (y * a.length) := by
  induction a with
  | nil => simp [undigs]
  | cons d r ih =>
    have ⟨h1, h2⟩ := h d (.head _)
    have ⟨i1, i2⟩ := ih fun x hx => h x (.tail _ hx)
    have e : (2 : Int) ^ (y * (r.length + 1)) = 2 ^ y * 2 ^ (y * r.length) := by rw [← Int.pow_add]; congr 1; rw [Nat.mul_add]; (first | lia | omega)
    have hp : (0 : Int) < 2 ^ y := Int.pow_pos (by decide)
    simp only [undigs, List.length_cons, e]
    have m1 : 0 ≤ 2 ^ y * undigs y r := Int.mul_nonneg (Int.le_of_lt hp) i1
    have m2 : 2 ^ y * (undigs y r + 1) ≤ 2 ^ y * 2 ^ (y * r.length) := Int.mul_le_mul_of_nonneg_left (by (first | lia | omega)) (Int.le_of_lt hp)
    rw [Int.mul_add, Int.mul_one] at m2
    (first | lia | omega)
theorem seg_one {y : Nat} {ds : List Int} {lo hi : Nat} (h : lo + 1 = hi) (h2 : hi ≤ ds.length) : ds.getD ((lo : Int)).toNat 0 = seg y ds lo hi := by
  subst h
  have h3 : lo < ds.length := h2
  rw [Int.toNat_natCast, seg, show lo + 1 - lo = 1 from by (first | lia | omega), List.drop_eq_getElem_cons h3]
  simp only [List.take_succ_cons, List.take_zero, undigs, Int.mul_zero, Int.add_zero]
  simp [List.getD, h3]
theorem seg_join {y : Nat} {ds : List Int} {lo mid hi : Nat} (h1 : lo ≤ mid) (h2 : mid ≤ hi) (h3 : hi ≤ ds.length) : seg y ds mid hi * 2 ^ ((mid - lo) * y) + seg y ds lo mid = seg y ds lo hi := by
  have e : (ds.drop lo).take (hi - lo) = (ds.drop lo).take (mid - lo) ++ (ds.drop mid).take (hi - mid) := by
    rw [show hi - lo = (mid - lo) + (hi - mid) from by (first | lia | omega), List.take_add, List.drop_drop]
    congr 3
    (first | lia | omega)
  have hl : ((ds.drop lo).take (mid - lo)).length = mid - lo := by simp; (first | lia | omega)
  unfold seg
  rw [e, undigs_append, hl, Int.mul_comm, Nat.mul_comm y]
  (first | lia | omega)
theorem seg_bound {y : Nat} {ds : List Int} {lo hi : Nat} (h : ∀ d ∈ ds, 0 ≤ d ∧ d < 2 ^ y) (hs : y * ds.length ≤ 62) : 0 ≤ seg y ds lo hi ∧ seg y ds lo hi < 2 ^ 62 := by
  have ⟨h1, h2⟩ := undigs_bound y ((ds.drop lo).take (hi - lo)) fun d hd => h d (List.mem_of_mem_drop (List.mem_of_mem_take hd))
  refine ⟨h1, Int.lt_of_lt_of_le h2 ?_⟩
  have hl : ((ds.drop lo).take (hi - lo)).length ≤ ds.length := by simp; (first | lia | omega)
  have : y * ((ds.drop lo).take (hi - lo)).length ≤ 62 := Nat.le_trans (Nat.mul_le_mul_left _ hl) hs
  exact_mod_cast Nat.pow_le_pow_right (n := 2) (by decide) this
theorem seg_all {y : Nat} {ds : List Int} : seg y ds 0 ds.length = undigs y ds := by simp [seg]
noncomputable def InnerD (prog : Program) (K : Frag) (w : World) (f c c1 c2 c3 l : Addr) (fn oc o1 o2 o3 lo : Obj) (y : Nat) (ds : List Int) (n : Nat) : Prop :=
  ∀ (a b : Nat) (ta tb : Tok), a < b → b ≤ ds.length → b - a ≤ n →
    CC prog K w f (n + 1) (8 * (n + 1)) [(l, lo), (f, fn), (c, oc), (c1, o1), (c2, o2), (c3, o3)] [.int a ta, .int b tb]
      (fun v n' => (∃ t, v = .int (seg y ds a b) t) ∧ n' = [(l, lo), (f, fn), (c, oc), (c1, o1), (c2, o2), (c3, o3)])
theorem innerSplitD {prog : Program} {K : Frag} {w : World} {g h : Heap} {L f c c1 c2 c3 l t : Addr} {fn oc o1 o2 o3 lo ot : Obj} (y : Nat) (ds : List Int) {G : Prop}
    (N : News g L h [(f, fn), (c3, o3), (c2, o2), (c1, o1), (l, lo), (t, ot), (c, oc)]) (key : ∀ n, InnerD prog K w f c c1 c2 c3 l fn oc o1 o2 o3 lo y ds n)
    (k : (∀ n, InnerD prog K w f c c1 c2 c3 l fn oc o1 o2 o3 lo y ds n) → G) : G := k key
end Mine
namespace Mine
noncomputable def TS (P : Addr) (qual : Str) (line col : Nat) (ps : Array Value) (ct : Addr) (oct : Obj) : Prop :=
  ps = #[] ∨ (ps = #[rawInt line, rawInt col, .ref ct] ∧ ct ≠ P ∧ ∃ vs t, oct.data = .fields vs ∧ vs[1]? = some (.str qual t))
theorem updF_end {P : Addr} {o : Obj} : ∀ {pre : List (Addr × Obj)}, (∀ q ∈ pre, q.1 ≠ P) → UpdF P o (pre ++ [(P, o)]) (fun o' => pre ++ [(P, o')])
  | [], _ => .head fun _ h => nomatch h
  | p :: r, h => .tail (h p (.head _)) (updF_end fun q hq => h q (.tail _ hq))
section
variable {M : Model} {A : Around} {E : Value → Shared → Prop} {s : Shared} {g : Heap} {L a c P ct : Addr} {m mg mb : Str → Option Value} {cn : Str} {cs : Scope} {ccd : Value} {cl : List (Str × Addr)} {news : List (Addr × Obj)} {oct : Obj}
  {p : Program} {loose : List Str} {mean : ExcName → Option Value} {name qual : Str} {params : Arguments} {body : List Stmt} {scope : Scope} {ps : Array Value} {pos : Pos} {firstLine : Nat} {clos : List (Str × Addr)}
theorem nestBoth {Q : Value → Shared → Prop} (F : Fr g L s.heap m) (N : News g L s.heap news) (T : Top p loose mean mg mb g) (C : CodeHd g c P) (hcd : ccd = .ref c)
    (hs : news = news.dropLast.dropLast ++ [(P, tabObj ps), (ct, oct)]) (ht : TS P qual pos.line pos.col ps ct oct) (hP : ∀ q ∈ news.dropLast.dropLast, q.1 ≠ P) (hc : ∀ q ∈ news.dropLast.dropLast, q.1 ≠ ct)
    (hcl : closureFor scope (envX cn cs L a ccd cl) = pure clos)
    (h : ∀ f c' oc' vs t ctv doc h' tk, Fr g L h' m →
      News g L h' ((f, fnMade name qual params body scope clos doc ((mg "__name__").getD .none) c' ctv) :: (news.dropLast.dropLast ++ [(P, tabObj #[rawInt pos.line, rawInt pos.col, .ref c']), (c', oc')])) →
      oc'.data = .fields vs → vs[1]? = some (.str qual t) → (∀ q ∈ news.dropLast.dropLast, q.1 ≠ c') → (∀ q ∈ news.dropLast.dropLast, q.1 ≠ f) → P ≠ f → c' ≠ f → c' ≠ P → Q (.ref f) { s with heap := h', toks := tk }) :
    wpAny M A (makeFunction name qual params (.stmts body) scope (envX cn cs L a ccd cl) [] [] [] pos firstLine) Q E s := by
  generalize hpre : news.dropLast.dropLast = pre at *
  subst hs
  clear hpre
  rcases ht with rfl | ⟨rfl, hne, vs, t, hd, hv⟩
  · have N1 : News g L s.heap (pre ++ [(P, tabObj #[])]) := fun q hq => N q (by
      rcases List.mem_append.mp hq with hq | hq
      · exact List.mem_append_left _ hq
      · exact List.mem_append_right _ (by simp at hq ⊢; exact .inl hq))
    refine nest_K F N1 T C hcd (updF_end hP) (by simp [TriplesOk]) (by rfl) hcl fun f c' oc vs t ctv doc h' tk F' N' hd hv h1 h2 => ?_
    refine h f c' oc vs t ctv doc h' tk F' (fun q hq => N' q ?_) hd hv (fun q hq => Nat.ne_of_lt (h1 q (List.mem_append_left _ hq))) (fun q hq => Nat.ne_of_lt (Nat.lt_trans (h1 q (List.mem_append_left _ hq)) h2)) (Nat.ne_of_lt (Nat.lt_trans (h1 (P, tabObj #[]) (by simp)) h2)) (Nat.ne_of_lt h2) (Nat.ne_of_gt (h1 (P, tabObj #[]) (by simp)))
    rcases List.mem_cons.mp hq with rfl | hq
    · exact .head _
    · rcases List.mem_append.mp hq with hq | hq
      · exact .tail _ (.tail _ (List.mem_append_left _ hq))
      · rcases List.mem_cons.mp hq with rfl | hq
        · exact .tail _ (.tail _ (List.mem_append_right _ (.head _)))
        · rw [List.mem_singleton.mp hq]; exact .tail _ (.head _)
  · refine nestHit_K (c' := ct) F N T C hcd (List.mem_append_right _ (.head _)) (by simp [TriplesOk, rawInt]) (by simp [codeAmong, rawInt]) hcl fun f ctv doc h' tk F' N' h1 => ?_
    exact h f ct oct vs t ctv doc h' tk F' N' hd hv hc (fun q hq => Nat.ne_of_lt (h1 q (List.mem_append_left _ hq))) (Nat.ne_of_lt (h1 _ (List.mem_append_right _ (.head _)))) (Nat.ne_of_lt (h1 _ (List.mem_append_right _ (.tail _ (.head _))))) hne
end
end Mine
local macro_rules | `(tactic| k_ne) => `(tactic| (refine neN ?_; (try dsimp only); first | assumption | (apply Ne.symm; assumption)))
theorem Mine.rows0_0 : True := by
  (k_with "call builtin:max" => (k_here; (with_reducible show wpAny _ _ (call (Value.builtin _) [Value.int _ _, Value.int _ _, Value.int _ _]) _ _ _); (with_unfolding_all refine' Mine.max3 ?zz_k1 ?zz_k2 ?zz_k3 ?_; (case zz_k1 => rfl); (case zz_k2 => k_asm); (case zz_k3 => k_asm); k_whole); intro _ _ _ _ _))
  (k_with "call builtin:min" => (k_here; (with_reducible show wpAny _ _ (call (Value.builtin _) [Value.int _ _, Value.int _ _, Value.int _ _]) _ _ _); (with_unfolding_all refine' Mine.min3 ?zz_k1 ?zz_k2 ?zz_k3 ?_; (case zz_k1 => rfl); (case zz_k2 => k_asm); (case zz_k3 => k_asm); k_whole); intro _ _ _ _ _))
  (k_with "binaryOp Mult ref int" => (k_here; k_dflt (refine' Mine.mulOne ?zz_k1 ?zz_k2 ?zz_k3 ?zz_k4 ?zz_k5 ?_; (case zz_k1 => k_asm); (case zz_k2 => k_asm); (case zz_k3 => k_mem); (case zz_k4 => first | (first | lia | omega) | assumption | l_fact); (case zz_k5 => first | (first | lia | omega) | assumption | l_fact); k_whole); intro _ _ _ _ _ l1 _; (try k_lt l1); (try k_sweep)))
  (k_with "call builtin:divmod" => (k_here; (with_reducible show wpAny _ _ (call (Value.builtin _) [Value.int _ _, Value.int _ _]) _ _ _); refine divmod_N (by assumption) (by assumption) (by side_arith) ?_; intro _ _ _))
  (k_with "call builtin:len" => (k_here; (with_reducible show wpAny _ _ (call (Value.builtin _) [Value.ref _]) _ _ _); k_dflt (refine' Mine.lenN ?zz_k1 ?zz_k2 ?zz_k3 ?zz_k4 ?_; (case zz_k1 => k_asm); (case zz_k2 => k_mem); (case zz_k3 => with_reducible assumption); (case zz_k4 => ((try simp only [List.length_append, List.length_cons, List.length_nil, List.length_replicate, List.length_map]); (first | lia | omega))); k_whole); intro _ _))
  (k_with "binaryOp Sub int int" => (k_here; with_reducible refine' Mine.subIs ?zz_k1 ?_; (case zz_k1 => assumption)))
  (k_with "binaryOp Add int int" => (k_here; with_reducible refine' Mine.addIs ?zz_k1 ?_; (case zz_k1 => assumption)))
  (k_with "binaryOp Mult int int" => (k_here; with_reducible refine' Mine.mulIs ?zz_k1 ?zz_k2 ?_; (case zz_k1 => assumption); (case zz_k2 => exact Mine.bits64 (by (first | lia | omega)))))
  (k_with "binaryOp RShift int int" => (k_here; with_reducible refine' Mine.shrIs ?zz_k1 ?zz_k2 ?_; (case zz_k1 => assumption); (case zz_k2 => (first | lia | omega))))
  (k_with "binaryOp LShift int int" => (k_here; with_reducible refine' Mine.shlIs ?zz_k1 ?zz_k2 ?zz_k3 ?zz_k4 ?_; (case zz_k1 => assumption); (case zz_k2 => (first | lia | omega)); (case zz_k3 => (first | lia | omega)); (case zz_k4 => (first | lia | omega))))
  (k_with "binaryOp BitXor int int" => (k_here; with_reducible refine' Mine.xorIs ?zz_k1 ?_; (case zz_k1 => assumption)))
  (k_with "exec FunctionDef" => (k_here; kn_here; k_dflt (refine' nestDef_K ?zz_d0 ?zz_k0 ?zz_a0 ?_; (case zz_d0 => exact rfl); (case zz_k0 => exact rfl); (case zz_a0 => exact rfl)); (k_dflt (refine' Mine.nestBoth ?zz_F ?zz_N ?zz_T ?zz_C ?zz_cd ?zz_hs ?zz_ht ?zz_hP ?zz_hc ?zz_cl ?_; (case zz_F => k_asm); (case zz_N => k_asm); (case zz_T => k_asm); (case zz_cd => exact rfl); (case zz_C => kn_code); (case zz_hs => exact rfl); (case zz_ht => assumption); (case zz_hP => (dsimp only [List.dropLast]; k_all)); (case zz_hc => (dsimp only [List.dropLast]; k_all)); (case zz_cl => exact rfl); k_whole); intro _ _ _ _ _ _ _ _ _ _ N' _ _ l1 l2 _ _ _; (dsimp only [List.dropLast, List.append, HAppend.hAppend, Append.append] at N' l1 l2); (simp only [List.forall_mem_cons, List.forall_mem_nil, and_true] at l1 l2); (repeat (obtain ⟨_, l1⟩ := l1)); (repeat (obtain ⟨_, l2⟩ := l2)))))
  (k_with "execs cons" => (k_here; k_fold))
  (k_with "eval ListComp" => (k_here; k_fold))
  trivial
namespace Mine
noncomputable def subCost (x y : Str) : Int := if x = y then 0 else if Txt.lower x = Txt.lower y then 1 else 2
theorem subCost1 {x y : Str} (h : (x == y) = true) : 0 = subCost x y := by simp at h; simp [subCost, h]
theorem subCost2 {x y : Str} (h : (x == y) = false) (h2 : (Txt.lower x == Txt.lower y) = true) : 1 = subCost x y := by simp at h h2; simp [subCost, h, h2]
theorem subCost3 {x y : Str} (h : (x == y) = false) (h2 : (Txt.lower x == Txt.lower y) = false) : 2 = subCost x y := by simp at h h2; simp [subCost, h, h2]
theorem sub_spec (w : World) (x y : Str) (tx ty : Tok) (hx : x.length ≤ 1) (hy : y.length ≤ 1) : C3 w 77 1 8 [] [.str x tx, .str y ty] (fun v n' => n' = [] ∧ ∃ t, v = .int (subCost x y) t) := by
  intro p loose mean mg mb dp un gd fr base g s R B X T st sz N hd hu hret
  k_dflt (refine' enterP ?k1 ?kst ?ksz ?kN ?kX ?kT ?k6 ?k7 ?k8 ?k9 ?kB ?_ ?c2 ?c3 ?c4 ?c5; (case k1 => exact B); (case kst => exact st); (case ksz => exact sz); (case kN => exact N); (case kX => exact X); (case kT => exact T); (case k6 => k_is); (case k7 => k_is); (case k8 => first | exact Mine.rm0 (by assumption) | ktr_room); (case k9 => exact BindsTo.of_eq rfl); (case c5 => decide); (case kB => exact locs rfl); (case c2 => exact rfl); (case c3 => exact rfl); (case c4 => exact rfl); k_whole; intro L' h' F' N' l0; (try dsimp only); (try k_lt l0); (try k_fold))
  k_steps
  all_goals refine hret _ _ _ _ ⟨rfl, ⟨_, congrArg (fun z => Value.int z _) ?_⟩⟩ (Fr.keep (by k_asm)) outE
  · exact subCost1 (by assumption)
  · exact subCost2 (by assumption) (by assumption)
  · exact subCost3 (by assumption) (by assumption)
end Mine
namespace Mine
theorem div_spec (w : World) (x y z : Int) (tx ty tz : Tok) (hx : (Builtin.Int.intBits x : Int) - z ≤ 4000) (hz : 0 ≤ z) (hy : 0 < y) (hy2 : y < 1073741824) :
    C3 w 35 1 8 [] [.int x tx, .int y ty, .int z tz] (fun v n' => ∃ r t1 t2, v = .ref r ∧ n' = [(r, tupOf [.int (x.fdiv y) t1, .int (x.fmod y) t2])]) := by
  intro p loose mean mg mb dp un gd fr base g s R B X T st sz N hd hu hret
  k_dflt (refine' enterP ?k1 ?kst ?ksz ?kN ?kX ?kT ?k6 ?k7 ?k8 ?k9 ?kB ?_ ?c2 ?c3 ?c4 ?c5; (case k1 => exact B); (case kst => exact st); (case ksz => exact sz); (case kN => exact N); (case kX => exact X); (case kT => exact T); (case k6 => k_is); (case k7 => k_is); (case k8 => first | exact Mine.rm0 (by assumption) | ktr_room); (case k9 => exact BindsTo.of_eq rfl); (case c5 => decide); (case kB => exact locs rfl); (case c2 => exact rfl); (case c3 => exact rfl); (case c4 => exact rfl); k_whole; intro L' h' F' N' l0; (try dsimp only); (try k_lt l0); (try k_fold))
  k_steps
  exact hret _ _ _ _ ⟨_, _, _, rfl, rfl⟩ (Fr.keep (by k_asm)) (out (by k_asm))
end Mine
namespace Mine
noncomputable def ndig (x y : Nat) : Nat := (((Builtin.Int.intBits (x : Int) : Int) + y - 1).fdiv y).toNat
theorem bits48 {x : Nat} (h : x < 2 ^ 48) : Builtin.Int.intBits (x : Int) ≤ 48 := intBits_le_iff.mpr (by simpa using h)
theorem ndig_spec (x y : Nat) (hx : x < 2 ^ 48) (hy : 0 < y) : 0 ≤ ((Builtin.Int.intBits (x : Int) : Int) + y - 1).fdiv y ∧ ((Builtin.Int.intBits (x : Int) : Int) + y - 1).fdiv y ≤ 48 ∧ x < 2 ^ (y * ndig x y) := by
  have hb := bits48 hx
  have hxb : x < 2 ^ Builtin.Int.intBits (x : Int) := by
    have := (intBits_le_iff (m := Builtin.Int.intBits (x : Int)) (x := (x : Int))).mp (Nat.le_refl _)
    simpa using this
  unfold ndig
  generalize Builtin.Int.intBits (x : Int) = b at *
  have e : ((b : Int) + y - 1).fdiv y = (((b + (y - 1)) / y : Nat) : Int) := by
    rw [show (b : Int) + y - 1 = ((b + (y - 1) : Nat) : Int) from by (first | lia | omega), Int.fdiv_eq_ediv_of_nonneg _ (Int.natCast_nonneg _)]
    rfl
  rw [e]
  refine ⟨Int.natCast_nonneg _, ?_, ?_⟩
  · have : (b + (y - 1)) / y ≤ 48 := by
      apply Nat.le_of_lt_succ
      rw [Nat.div_lt_iff_lt_mul hy]
      have : 49 * y = 48 * y + y := by (first | lia | omega)
      have : 48 ≤ 48 * y := by (first | lia | omega)
      show _ < 49 * y
      (first | lia | omega)
    (first | lia | omega)
  · rw [Int.toNat_natCast]
    refine Nat.lt_of_lt_of_le hxb (Nat.pow_le_pow_right (by decide) ?_)
    have := Nat.div_add_mod (b + (y - 1)) y
    have := Nat.mod_lt (b + (y - 1)) hy
    (first | lia | omega)
theorem i2d_end {vs : List Value} {x y k : Nat} (h : IntsAre vs (splice (List.replicate k 0) 0 (List.replicate k (0 : Int)).length (digs y ((List.replicate k (0 : Int)).length - 0) x))) : IntsAre vs (digs y k x) := by
  simpa [splice] using h
theorem i2d_zero {vs : List Value} {y : Nat} (hy : 0 < y) (h : IntsAre vs (List.replicate (((Builtin.Int.intBits ((0 : Nat) : Int) : Int) + y - 1).fdiv y).toNat 0)) : IntsAre vs (digs y (ndig 0 y) 0) := by
  have e : ((Builtin.Int.intBits ((0 : Nat) : Int) : Int) + y - 1).fdiv y = 0 := by
    have : Builtin.Int.intBits ((0 : Nat) : Int) = 0 := by decide
    rw [this, Int.fdiv_eq_ediv_of_nonneg _ (Int.natCast_nonneg _)]
    exact Int.ediv_eq_zero_of_lt (by (first | lia | omega)) (by (first | lia | omega))
  unfold ndig
  rw [e] at h ⊢
  exact h
theorem i2d_zero' {vs : List Value} {x y : Nat} (hy : 0 < y) (hx : x = 0) (h : IntsAre vs (List.replicate (((Builtin.Int.intBits ((x : Nat) : Int) : Int) + y - 1).fdiv y).toNat 0)) : IntsAre vs (digs y (ndig x y) x) := by
  subst hx
  exact i2d_zero hy h
theorem i2d_pos {x y n : Nat} (hx : x ≠ 0) (h : x < 2 ^ (y * n)) : 0 < n := by
  rcases n with _ | n
  · simp at h; (first | lia | omega)
  · (first | lia | omega)
theorem i2d_spec (w : World) (x y : Nat) (tx ty : Tok) (hx : x < 2 ^ 48) (hy : 0 < y) (hy2 : y ≤ 48) (ps : Array Value) (ct : Addr) (oct : Obj) (hTS : TS 44 "_int2digits.<locals>.inner" 73 4 ps ct oct) :
    C3 w 49 60 480 [(44, tabObj ps), (ct, oct)] [.int x tx, .int y ty]
      (fun v n' => ∃ r vs e ps' c' oc', v = .ref r ∧ n' = [(r, listOf vs.toArray e), (44, tabObj ps'), (c', oc')] ∧ IntsAre vs (digs y (ndig x y) x) ∧ TS 44 "_int2digits.<locals>.inner" 73 4 ps' c' oc' ∧ r ≠ 44 ∧ r ≠ c') := by
  obtain ⟨hq0, hq1, hq2⟩ := ndig_spec x y hx hy
  have hb := bits48 hx
  intro p loose mean mg mb dp un gd fr base g s R B X T st sz N hd hu hret
  k_dflt (refine' enterC ?k1 ?kst ?ksz ?kN ?kX ?kT ?k6 ?k7 ?k8 ?k9 ?kB ?kD ?_ ?c2 ?c3 ?c4; (case k1 => exact B); (case kst => exact st); (case ksz => exact sz); (case kN => exact N); (case kX => exact X); (case kT => exact T); (case k6 => k_is); (case k7 => k_is); (case k8 => first | exact Mine.rm0 (by assumption) | ktr_room); (case k9 => exact BindsTo.of_eq rfl); (case kB => exact rfl); (case kD => decide +kernel); (case c2 => exact rfl); (case c3 => exact rfl); (case c4 => exact rfl); k_whole; intro L' h' tk' cells' F' N' Y' l0; (try k_lt l0); k_cells Y'; (try simp only [List.cons_append, List.nil_append] at N'); (try dsimp only); (try k_fold))
  have codeHd := codeHd_of_K (c := 48) (P := 44) X (by kernel_rfl)
  k_steps
  · refine innerSplit (prog := PySem.Challenge.rw_pg0238_02.row.prog) (K := Mine.hd.heap_39 w.params) (w := w) (y := y) (by assumption : News _ _ _ _) ?key ?_
    case key =>
      clear hret N st sz B X T hd hu
      intro n
      induction n with
      | zero =>
        intro x lo hi vs ns tx tl th hi1 hlh hhi hn
        exact absurd hlh (Nat.not_lt_of_le (Nat.le_of_sub_eq_zero (Nat.le_zero.mp hn)))
      | succ n ih =>
        intro x lo hi vs ns tx tl th hi1 hlh hhi hn hxb hx48 hi48
        obtain ⟨mid, hmid⟩ : ∃ mid, mid = (lo + hi) / 2 := ⟨_, rfl⟩
        obtain ⟨sh, hsh⟩ : ∃ sh, sh = (mid - lo) * y := ⟨_, rfl⟩
        have i1 : Is ((lo : Int) + hi) ((lo + hi : Nat) : Int) := by unfold Is; (first | lia | omega)
        have i2 : Is (((lo + hi : Nat) : Int).fdiv (2 ^ Int.toNat 1)) (mid : Int) := by
          have := fdivP (lo + hi) 1
          subst hmid
          simpa [Is] using this
        have hm1 : 2 * mid ≤ lo + hi := by (first | lia | omega)
        have hm2 : lo + hi ≤ 2 * mid + 1 := by (first | lia | omega)
        clear hmid
        have i3 : Is ((mid : Int) - lo) ((mid - lo : Nat) : Int) := by unfold Is; (first | lia | omega)
        have i4 : Is (((mid - lo : Nat) : Int) * y) (sh : Int) := by unfold Is; subst hsh; simp
        have hshb : sh ≤ 48 * 48 := by subst hsh; exact Nat.mul_le_mul (by (first | lia | omega)) hy2
        have i5 : Is ((x : Int).fdiv (2 ^ ((sh : Int)).toNat)) ((x / 2 ^ sh : Nat) : Int) := fdivP x sh
        have hup : x / 2 ^ sh ≤ x := Nat.div_le_self _ _
        have hup48 : x / 2 ^ sh < 2 ^ 48 := Nat.lt_of_le_of_lt hup hx48
        have i6 : Is (((x / 2 ^ sh : Nat) : Int) * 2 ^ ((sh : Int)).toNat) ((x / 2 ^ sh * 2 ^ sh : Nat) : Int) := by unfold Is; simp
        have i7 : Is (Builtin.bitXor (x : Int) ((x / 2 ^ sh * 2 ^ sh : Nat) : Int)) ((x % 2 ^ sh : Nat) : Int) := xor_low x sh
        have hlow : x % 2 ^ sh ≤ x := Nat.mod_le _ _
        have hlow48 : x % 2 ^ sh < 2 ^ 48 := Nat.lt_of_le_of_lt hlow hx48
        have hlow2 : x % 2 ^ sh < 2 ^ (y * (mid - lo)) := by rw [hsh, Nat.mul_comm y]; exact Nat.mod_lt _ (Nat.two_pow_pos _)
        have hup2 : x / 2 ^ sh < 2 ^ (y * (hi - mid)) := by
          rw [Nat.div_lt_iff_lt_mul (Nat.two_pow_pos _), ← Nat.pow_add, hsh, Nat.mul_comm (mid - lo), ← Nat.mul_add, show hi - mid + (mid - lo) = hi - lo from by (first | lia | omega)]
          exact hxb
        have hjoin := fun vs' => i2d_join (vs' := vs') (ns := ns) (lo := lo) (mid := mid) (hi := hi) (x := x) (y := y) (by (first | lia | omega)) (by (first | lia | omega)) hhi
        rw [← hsh] at hjoin
        generalize hUP : x / 2 ^ sh = up at *
        generalize hLW : x % 2 ^ sh = lw at *
        generalize hZZ : up * 2 ^ sh = zz at *
        intro p loose mean mg mb dp un gd fr base g s R B X T st sz N hd hu hret
        k_dflt (refine' enterN ?k1 ?kst ?ksz ?kN ?kX ?kT ?k6 ?k7 ?k8 ?k9 ?kB ?_ ?c2 ?c3 ?c4 ?c5; (case k1 => exact B); (case kst => exact st); (case ksz => exact sz); (case kN => exact N); (case kX => exact X); (case kT => exact T); (case k6 => k_mem); (case k7 => refine' codeRecS ?crA ?crB ?crC; (case crB => assumption); (case crC => assumption); (case crA => exact (N (_, _) (by k_mem)).1)); (case k8 => first | exact Mine.rm0 (by assumption) | ktr_room); (case k9 => exact BindsTo.of_eq rfl); (case c5 => decide); (case kB => exact locs rfl); (case c2 => exact rfl); (case c3 => exact rfl); (case c4 => exact rfl); k_whole; intro L' h' F' N' l0; (try dsimp only); (try k_lt l0); (try k_fold))
        k_steps
        · exact hret _ _ _ _ ⟨_, rfl, rfl, i2d_base (by assumption) (by (first | lia | omega)) hhi hxb⟩ (Fr.keep (by k_asm)) (out (by k_asm))
        · k_dflt (refine' CC.use (rest := []) (ih _ _ _ _ _ _ _ _ hi1 ?a1 ?a2 ?a3 hlow2 hlow48 ?a6) ?cB ?cF ?cX ?cN ?cT ?cf ?ck ?cP ?cd ?cdp ?cun ?_; (case a1 => (first | lia | omega)); (case a2 => (first | lia | omega)); (case a3 => (first | lia | omega)); (case a6 => (first | lia | omega)); (case cB => exact B); (case cF => k_asm); (case cX => exact X); (case cN => k_asm); (case cT => exact T); (case cf => exact rfl); (case ck => exact rfl); (case cP => repeat' (first | exact List.forall_mem_nil _ | (refine' List.forall_mem_cons.mpr ⟨?_, ?_⟩) | k_mem)); (case cd => repeat' (first | exact List.forall_mem_nil _ | (refine' List.forall_mem_cons.mpr ⟨?_, ?_⟩) | k_ne)); (case cdp => first | exact Mine.rm2 (by assumption) (by exact rfl) | exact Mine.rm0 (by assumption) | exact Mine.rm3 (by assumption) (by omega) | ktr_room); (case cun => first | exact Mine.rm2 (by assumption) (by exact rfl) | exact Mine.rm0 (by assumption) | exact Mine.rm3 (by assumption) (by omega) | ktr_units))
          intro v9 n9 h9 tk9 P9 F9 N9 _
          obtain ⟨vs9, rfl, rfl, hi9⟩ := P9
          simp only [List.append_nil] at N9
          have hl9 : (splice ns lo mid (digs y (mid - lo) lw)).length = ns.length := splice_length (by (first | lia | omega)) (by (first | lia | omega)) (digs_length _ _ _)
          dsimp only
          k_steps
          k_dflt (refine' CC.use (rest := []) (ih _ _ _ _ _ _ _ _ hi9 ?a1 ?a2 ?a3 hup2 hup48 ?a6) ?cB ?cF ?cX ?cN ?cT ?cf ?ck ?cP ?cd ?cdp ?cun ?_; (case a1 => (first | lia | omega)); (case a2 => (first | lia | omega)); (case a3 => (first | lia | omega)); (case a6 => (first | lia | omega)); (case cB => exact B); (case cF => k_asm); (case cX => exact X); (case cN => k_asm); (case cT => exact T); (case cf => exact rfl); (case ck => exact rfl); (case cP => repeat' (first | exact List.forall_mem_nil _ | (refine' List.forall_mem_cons.mpr ⟨?_, ?_⟩) | k_mem)); (case cd => repeat' (first | exact List.forall_mem_nil _ | (refine' List.forall_mem_cons.mpr ⟨?_, ?_⟩) | k_ne)); (case cdp => first | exact Mine.rm2 (by assumption) (by exact rfl) | exact Mine.rm0 (by assumption) | exact Mine.rm3 (by assumption) (by omega) | ktr_room); (case cun => first | exact Mine.rm2 (by assumption) (by exact rfl) | exact Mine.rm0 (by assumption) | exact Mine.rm3 (by assumption) (by omega) | ktr_units))
          intro v8 n8 h8 tk8 P8 F8 N8 _
          obtain ⟨vs8, rfl, rfl, hi8⟩ := P8
          simp only [List.append_nil] at N8
          dsimp only
          k_steps
          exact hret _ _ _ _ ⟨_, rfl, rfl, hjoin _ hi8⟩ (Fr.keep (by k_asm)) (out (by k_asm))
    intro key
    k_dflt (refine' CC.use (rest := [(44, _)]) (key 49 _ 0 _ _ _ _ _ _ (by assumption) ?a1 ?a2 ?a3 ?a4 ?a5 ?a6) ?cB ?cF ?cX ?cN ?cT ?cf ?ck ?cP ?cd ?cdp ?cun ?_; (case a1 => (simp only [List.length_replicate]; exact i2d_pos (by (first | lia | omega)) hq2)); (case a2 => exact Nat.le_refl _); (case a3 => (simp only [List.length_replicate]; exact Nat.le_trans (Nat.sub_le _ _) (Nat.le_succ_of_le (Int.toNat_le.mpr hq1)))); (case a4 => (simp only [List.length_replicate]; exact hq2)); (case a5 => exact hx); (case a6 => (simp only [List.length_replicate]; exact Int.toNat_le.mpr hq1)); (case cB => exact B); (case cF => k_asm); (case cX => exact X); (case cN => k_asm); (case cT => exact T); (case cf => exact rfl); (case ck => exact rfl); (case cP => repeat' (first | exact List.forall_mem_nil _ | (refine' List.forall_mem_cons.mpr ⟨?_, ?_⟩) | k_mem)); (case cd => repeat' (first | exact List.forall_mem_nil _ | (refine' List.forall_mem_cons.mpr ⟨?_, ?_⟩) | k_ne)); (case cdp => first | exact Mine.rm2 (by assumption) (by exact rfl) | exact Mine.rm0 (by assumption) | exact Mine.rm3 (by assumption) (by omega) | ktr_room); (case cun => first | exact Mine.rm2 (by assumption) (by exact rfl) | exact Mine.rm0 (by assumption) | exact Mine.rm3 (by assumption) (by omega) | ktr_units))
    intro v9 n9 h9 tk9 P9 F9 N9 _
    obtain ⟨vs9, rfl, rfl, hi9⟩ := P9
    simp only [List.cons_append, List.nil_append] at N9
    dsimp only
    k_steps
    k_dflt (refine' hret _ _ _ _ ⟨_, _, _, _, _, _, rfl, rfl, ?i, .inr ⟨?e1, ?ne, _, _, ?d1, ?d2⟩, ?n1, ?n2⟩ (Fr.keep ?F) (outS ?N (List.forall_mem_cons.mpr ⟨?m1, List.forall_mem_cons.mpr ⟨?m2, List.forall_mem_cons.mpr ⟨?m3, List.forall_mem_nil _⟩⟩⟩)); (case F => k_asm); (case N => k_asm); (case m1 => k_mem); (case m2 => k_mem); (case e1 => exact rfl); (case m3 => k_mem); (case d1 => assumption); (case d2 => assumption); (case ne => assumption); (case n1 => k_ne); (case n2 => assumption); (case i => exact i2d_end hi9))
  · dsimp only
    k_dflt (refine' hret _ _ _ _ ⟨_, _, _, _, _, _, rfl, rfl, ?i, .inr ⟨?e1, ?ne, _, _, ?d1, ?d2⟩, ?n1, ?n2⟩ (Fr.keep ?F) (outS ?N (List.forall_mem_cons.mpr ⟨?m1, List.forall_mem_cons.mpr ⟨?m2, List.forall_mem_cons.mpr ⟨?m3, List.forall_mem_nil _⟩⟩⟩)); (case F => k_asm); (case N => k_asm); (case m1 => k_mem); (case m2 => k_mem); (case e1 => exact rfl); (case m3 => k_mem); (case d1 => assumption); (case d2 => assumption); (case ne => assumption); (case n1 => k_ne); (case n2 => assumption); (case i => exact i2d_zero' hy (by (first | lia | omega)) (by assumption)))
end Mine
namespace Mine
theorem d2i_spec (w : World) (l : Addr) (vs : List Value) (e : Nat) (ds : List Int) (y : Nat) (ty : Tok) (hi : IntsAre vs ds) (hy : 0 < y) (hsz : y * ds.length ≤ 62) (hds : ∀ d ∈ ds, 0 ≤ d ∧ d < 2 ^ y) (ps : Array Value) (ct : Addr) (oct : Obj) (hTS : TS 51 "_digits2int.<locals>.inner" 88 4 ps ct oct) (hl1 : l ≠ 51) (hl2 : l ≠ ct) :
    C3 w 56 80 640 [(l, listOf vs.toArray e), (51, tabObj ps), (ct, oct)] [.ref l, .int y ty]
      (fun v n' => ∃ t ps' c' oc', v = .int (undigs y ds) t ∧ n' = [(l, listOf vs.toArray e), (51, tabObj ps'), (c', oc')] ∧ TS 51 "_digits2int.<locals>.inner" 88 4 ps' c' oc' ∧ l ≠ c') := by
  have hlen : ds.length ≤ 62 := Nat.le_trans (Nat.le_mul_of_pos_left _ hy) hsz
  intro p loose mean mg mb dp un gd fr base g s R B X T st sz N hd hu hret
  k_dflt (refine' enterC ?k1 ?kst ?ksz ?kN ?kX ?kT ?k6 ?k7 ?k8 ?k9 ?kB ?kD ?_ ?c2 ?c3 ?c4; (case k1 => exact B); (case kst => exact st); (case ksz => exact sz); (case kN => exact N); (case kX => exact X); (case kT => exact T); (case k6 => k_is); (case k7 => k_is); (case k8 => first | exact Mine.rm0 (by assumption) | ktr_room); (case k9 => exact BindsTo.of_eq rfl); (case kB => exact rfl); (case kD => decide +kernel); (case c2 => exact rfl); (case c3 => exact rfl); (case c4 => exact rfl); k_whole; intro L' h' tk' cells' F' N' Y' l0; (try k_lt l0); k_cells Y'; (try simp only [List.cons_append, List.nil_append] at N'); (try dsimp only); (try k_fold))
  have codeHd := codeHd_of_K (c := 55) (P := 51) X (by kernel_rfl)
  k_steps
  · refine innerSplitD (prog := PySem.Challenge.rw_pg0238_02.row.prog) (K := Mine.hd.heap_39 w.params) (w := w) y ds (by assumption : News _ _ _ _) ?key ?_
    case key =>
      clear hret N st sz B X T hd hu
      intro n
      induction n with
      | zero =>
        intro a b ta tb hlh hhi hn
        exact absurd hlh (Nat.not_lt_of_le (Nat.le_of_sub_eq_zero (Nat.le_zero.mp hn)))
      | succ n ih =>
        intro lo hi' tl th hlh hhi hn
        obtain ⟨mid, hmid⟩ : ∃ mid, mid = (lo + hi') / 2 := ⟨_, rfl⟩
        obtain ⟨sh, hsh⟩ : ∃ sh, sh = (mid - lo) * y := ⟨_, rfl⟩
        have i1 : Is ((lo : Int) + hi') ((lo + hi' : Nat) : Int) := by unfold Is; (first | lia | omega)
        have i2 : Is (((lo + hi' : Nat) : Int).fdiv (2 ^ Int.toNat 1)) (mid : Int) := by
          have := fdivP (lo + hi') 1
          subst hmid
          simpa [Is] using this
        have hm1 : 2 * mid ≤ lo + hi' := by (first | lia | omega)
        have hm2 : lo + hi' ≤ 2 * mid + 1 := by (first | lia | omega)
        clear hmid
        have i3 : Is ((mid : Int) - lo) ((mid - lo : Nat) : Int) := by unfold Is; (first | lia | omega)
        have i4 : Is (((mid - lo : Nat) : Int) * y) (sh : Int) := by unfold Is; subst hsh; simp
        have hshb : sh ≤ 62 * 62 := by
          subst hsh
          have h1 : (mid - lo) * y ≤ ds.length * y := Nat.mul_le_mul_right _ (by (first | lia | omega))
          rw [Nat.mul_comm ds.length] at h1
          (first | lia | omega)
        have i5 : Is (seg y ds mid hi' * 2 ^ ((sh : Int)).toNat) (seg y ds mid hi' * 2 ^ sh) := rfl
        have i6 : Is (seg y ds mid hi' * 2 ^ sh + seg y ds lo mid) (seg y ds lo hi') := by rw [hsh]; exact seg_join (by (first | lia | omega)) (by (first | lia | omega)) hhi
        have hb1 := seg_bound (lo := mid) (hi := hi') hds hsz
        intro p loose mean mg mb dp un gd fr base g s R B X T st sz N hd hu hret
        k_dflt (refine' enterN ?k1 ?kst ?ksz ?kN ?kX ?kT ?k6 ?k7 ?k8 ?k9 ?kB ?_ ?c2 ?c3 ?c4 ?c5; (case k1 => exact B); (case kst => exact st); (case ksz => exact sz); (case kN => exact N); (case kX => exact X); (case kT => exact T); (case k6 => k_mem); (case k7 => refine' codeRecS ?crA ?crB ?crC; (case crB => assumption); (case crC => assumption); (case crA => exact (N (_, _) (by k_mem)).1)); (case k8 => first | exact Mine.rm0 (by assumption) | ktr_room); (case k9 => exact BindsTo.of_eq rfl); (case c5 => decide); (case kB => exact locs rfl); (case c2 => exact rfl); (case c3 => exact rfl); (case c4 => exact rfl); k_whole; intro L' h' F' N' l0; (try dsimp only); (try k_lt l0); (try k_fold))
        k_steps
        · exact hret _ _ _ _ ⟨⟨_, congrArg (fun z => Value.int z _) (seg_one (by (first | lia | omega)) hhi)⟩, rfl⟩ (Fr.keep (by k_asm)) (out (by k_asm))
        · k_dflt (refine' CC.use (rest := []) (ih _ _ _ _ ?a1 ?a2 ?a3) ?cB ?cF ?cX ?cN ?cT ?cf ?ck ?cP ?cd ?cdp ?cun ?_; (case a1 => (first | lia | omega)); (case a2 => (first | lia | omega)); (case a3 => (first | lia | omega)); (case cB => exact B); (case cF => k_asm); (case cX => exact X); (case cN => k_asm); (case cT => exact T); (case cf => exact rfl); (case ck => exact rfl); (case cP => repeat' (first | exact List.forall_mem_nil _ | (refine' List.forall_mem_cons.mpr ⟨?_, ?_⟩) | k_mem)); (case cd => repeat' (first | exact List.forall_mem_nil _ | (refine' List.forall_mem_cons.mpr ⟨?_, ?_⟩) | k_ne)); (case cdp => first | exact Mine.rm2 (by assumption) (by exact rfl) | exact Mine.rm0 (by assumption) | exact Mine.rm3 (by assumption) (by omega) | ktr_room); (case cun => first | exact Mine.rm2 (by assumption) (by exact rfl) | exact Mine.rm0 (by assumption) | exact Mine.rm3 (by assumption) (by omega) | ktr_units))
          intro v9 n9 h9 tk9 P9 F9 N9 _
          obtain ⟨⟨t9, rfl⟩, rfl⟩ := P9
          simp only [List.append_nil] at N9
          dsimp only
          k_steps
          k_dflt (refine' CC.use (rest := []) (ih _ _ _ _ ?a1 ?a2 ?a3) ?cB ?cF ?cX ?cN ?cT ?cf ?ck ?cP ?cd ?cdp ?cun ?_; (case a1 => (first | lia | omega)); (case a2 => (first | lia | omega)); (case a3 => (first | lia | omega)); (case cB => exact B); (case cF => k_asm); (case cX => exact X); (case cN => k_asm); (case cT => exact T); (case cf => exact rfl); (case ck => exact rfl); (case cP => repeat' (first | exact List.forall_mem_nil _ | (refine' List.forall_mem_cons.mpr ⟨?_, ?_⟩) | k_mem)); (case cd => repeat' (first | exact List.forall_mem_nil _ | (refine' List.forall_mem_cons.mpr ⟨?_, ?_⟩) | k_ne)); (case cdp => first | exact Mine.rm2 (by assumption) (by exact rfl) | exact Mine.rm0 (by assumption) | exact Mine.rm3 (by assumption) (by omega) | ktr_room); (case cun => first | exact Mine.rm2 (by assumption) (by exact rfl) | exact Mine.rm0 (by assumption) | exact Mine.rm3 (by assumption) (by omega) | ktr_units))
          intro v8 n8 h8 tk8 P8 F8 N8 _
          obtain ⟨⟨t8, rfl⟩, rfl⟩ := P8
          simp only [List.append_nil] at N8
          dsimp only
          k_steps
          exact hret _ _ _ _ ⟨⟨_, rfl⟩, rfl⟩ (Fr.keep (by k_asm)) (out (by k_asm))
    intro key
    k_dflt (refine' CC.use (rest := [(51, _)]) (key 63 0 _ _ _ ?a1 ?a2 ?a3) ?cB ?cF ?cX ?cN ?cT ?cf ?ck ?cP ?cd ?cdp ?cun ?_; (case a1 => assumption); (case a2 => exact Nat.le_refl _); (case a3 => (first | lia | omega)); (case cB => exact B); (case cF => k_asm); (case cX => exact X); (case cN => k_asm); (case cT => exact T); (case cf => exact rfl); (case ck => exact rfl); (case cP => repeat' (first | exact List.forall_mem_nil _ | (refine' List.forall_mem_cons.mpr ⟨?_, ?_⟩) | k_mem)); (case cd => repeat' (first | exact List.forall_mem_nil _ | (refine' List.forall_mem_cons.mpr ⟨?_, ?_⟩) | k_ne)); (case cdp => first | exact Mine.rm2 (by assumption) (by exact rfl) | exact Mine.rm0 (by assumption) | exact Mine.rm3 (by assumption) (by omega) | ktr_room); (case cun => first | exact Mine.rm2 (by assumption) (by exact rfl) | exact Mine.rm0 (by assumption) | exact Mine.rm3 (by assumption) (by omega) | ktr_units))
    intro v9 n9 h9 tk9 P9 F9 N9 _
    obtain ⟨⟨t9, rfl⟩, rfl⟩ := P9
    simp only [List.cons_append, List.nil_append] at N9
    dsimp only
    k_steps
    k_dflt (refine' hret _ _ _ _ ⟨_, _, _, _, congrArg (fun z => Value.int z _) seg_all, rfl, .inr ⟨?e1, ?ne, _, _, ?d1, ?d2⟩, ?n1⟩ (Fr.keep ?F) (outS ?N (List.forall_mem_cons.mpr ⟨?m1, List.forall_mem_cons.mpr ⟨?m2, List.forall_mem_cons.mpr ⟨?m3, List.forall_mem_nil _⟩⟩⟩)); (case F => k_asm); (case N => k_asm); (case m1 => k_mem); (case m2 => k_mem); (case e1 => exact rfl); (case m3 => k_mem); (case d1 => assumption); (case d2 => assumption); (case ne => assumption); (case n1 => assumption))
  · obtain rfl : ds = [] := by cases ds <;> simp_all
    k_dflt (refine' hret _ _ _ _ ⟨_, _, _, _, rfl, rfl, .inr ⟨?e1, ?ne, _, _, ?d1, ?d2⟩, ?n1⟩ (Fr.keep ?F) (outS ?N (List.forall_mem_cons.mpr ⟨?m1, List.forall_mem_cons.mpr ⟨?m2, List.forall_mem_cons.mpr ⟨?m3, List.forall_mem_nil _⟩⟩⟩)); (case F => k_asm); (case N => k_asm); (case m1 => k_mem); (case m2 => k_mem); (case e1 => exact rfl); (case m3 => k_mem); (case d1 => assumption); (case d2 => assumption); (case ne => assumption); (case n1 => assumption))
end Mine
namespace Mine
inductive Pick (x : Addr × Obj) : List (Addr × Obj) → List (Addr × Obj) → Prop
  | head {r} : Pick x (x :: r) r
  | tail {y r r'} : Pick x r r' → Pick x (y :: r) (y :: r')
inductive Picks : List (Addr × Obj) → List (Addr × Obj) → List (Addr × Obj) → Prop
  | nil {r} : Picks [] r r
  | cons {x mu r r' r''} : Pick x r r' → Picks mu r' r'' → Picks (x :: mu) r r''
theorem Pick.sub {x : Addr × Obj} {n n' : List (Addr × Obj)} (h : Pick x n n') : x ∈ n ∧ ∀ q ∈ n', q ∈ n := by
  induction h with
  | head => exact ⟨.head _, fun q hq => .tail _ hq⟩
  | tail _ ih => exact ⟨.tail _ ih.1, fun q hq => by
      rcases List.mem_cons.mp hq with rfl | hq
      · exact .head _
      · exact .tail _ (ih.2 q hq)⟩
theorem Picks.sub {mu n n' : List (Addr × Obj)} (h : Picks mu n n') : ∀ q ∈ mu ++ n', q ∈ n := by
  induction h with
  | nil => exact fun q hq => hq
  | cons p _ ih =>
    intro q hq
    rcases List.mem_cons.mp hq with rfl | hq
    · exact p.sub.1
    · exact p.sub.2 q (ih q hq)
theorem CC.useK {prog : Program} {K : Frag} {w : World} {f : Addr} {D U : Nat} {mu rest news : List (Addr × Obj)} {vs : List Value} {Post : Value → List (Addr × Obj) → Prop}
    (C : CC prog K w f D U mu vs Post) {p : Program} {loose : List Str} {mean : ExcName → Option Value} {mg mb : Str → Option Value} {dp un : Nat} {gd : Option (List Code)} {env : Env} {outer : List Env} {A₀ : Around} {base h₀ : Heap} {L : Addr} {m : Str → Option Value} {s : Shared} {Q E : Value → Shared → Prop}
    (P : Picks mu news rest) (B : Below A₀ base outer h₀) (F : Fr h₀ L s.heap m) (X : K.In h₀) (N : News h₀ L s.heap news) (T : Top p loose mean mg mb h₀) (hf : env.frame = some L) (hke : env.scope.kind = .function)
    (hd : ∀ q ∈ rest, ∀ r ∈ mu, q.1 ≠ r.1) (hdp : dp + D < recursionLimit) (hun : un + U < cLine)
    (h : ∀ v n' h' tk', Post v n' → Fr h₀ L h' m → News h₀ L h' (n' ++ rest) → (∀ q ∈ n', ∀ r ∈ rest, r.1 ≠ q.1) → Q v { s with heap := h', toks := tk' }) :
    wpAny (model prog w) (Ar dp un gd (env :: outer)) (call (.ref f) vs) Q E s := C.use B F X N T hf hke P.sub hd hdp hun h
end Mine
namespace Mine
section
variable {w : World} {p : Program} {loose : List Str} {mean : ExcName → Option Value} {mg mb : Str → Option Value} {dp un : Nat} {gd : Option (List Code)} {env : Env} {outer : List Env} {A₀ : Around} {base h₀ : Heap} {L : Addr} {m : Str → Option Value} {s : Shared} {Q E : Value → Shared → Prop} {news n1 n2 rest : List (Addr × Obj)}
theorem useDiv {x y z : Nat} {tx ty tz : Tok} (hx : (Builtin.Int.intBits (x : Int) : Int) - (z : Int) ≤ 4000) (hy : 0 < y) (hy2 : y < 1073741824)
    (B : Below A₀ base outer h₀) (F : Fr h₀ L s.heap m) (X : (Mine.hd.heap_39 w.params).In h₀) (N : News h₀ L s.heap news) (T : Top p loose mean mg mb h₀) (hf : env.frame = some L) (hke : env.scope.kind = .function) (hdp : dp + 1 < recursionLimit) (hun : un + 8 < cLine)
    (h : ∀ r t1 t2 h' tk', Fr h₀ L h' m → News h₀ L h' ((r, tupOf [.int ((x / y : Nat) : Int) t1, .int ((x % y : Nat) : Int) t2]) :: news) → (∀ q ∈ news, q.1 ≠ r) → Q (.ref r) { s with heap := h', toks := tk' }) :
    wpAny (model PySem.Challenge.rw_pg0238_02.row.prog w) (Ar dp un gd (env :: outer)) (call (.ref 35) [.int x tx, .int y ty, .int z tz]) Q E s := by
  refine CC.useK (div_spec w x y z tx ty tz hx (Int.natCast_nonneg _) (by (first | lia | omega)) (by (first | lia | omega))) Picks.nil B F X N T hf hke (fun _ _ _ h => nomatch h) hdp hun fun v n' h' tk' P F' N' D => ?_
  obtain ⟨r, t1, t2, rfl, rfl⟩ := P
  have e1 : (x : Int).fdiv y = ((x / y : Nat) : Int) := by rw [Int.fdiv_eq_ediv_of_nonneg _ (Int.natCast_nonneg _)]; rfl
  have e2 : (x : Int).fmod y = ((x % y : Nat) : Int) := by rw [Int.fmod_eq_emod_of_nonneg _ (Int.natCast_nonneg _)]; rfl
  rw [e1, e2] at N'
  exact h r t1 t2 h' tk' F' N' (D _ (.head _))
theorem useI2d {x y : Nat} {tx ty : Tok} {ps : Array Value} {ct : Addr} {oct : Obj} (hx : x < 2 ^ 48) (hy : 0 < y) (hy2 : y ≤ 48)
    (N : News h₀ L s.heap news) (p1 : Pick (44, tabObj ps) news n1) (hTS : TS 44 "_int2digits.<locals>.inner" 73 4 ps ct oct) (p2 : Pick (ct, oct) n1 rest)
    (B : Below A₀ base outer h₀) (F : Fr h₀ L s.heap m) (X : (Mine.hd.heap_39 w.params).In h₀) (T : Top p loose mean mg mb h₀) (hf : env.frame = some L) (hke : env.scope.kind = .function)
    (hd : ∀ q ∈ rest, ∀ r ∈ [(44, tabObj ps), (ct, oct)], q.1 ≠ r.1) (hdp : dp + 60 < recursionLimit) (hun : un + 480 < cLine)
    (h : ∀ r vs e ps' c' oc' h' tk', Fr h₀ L h' m → News h₀ L h' ((r, listOf vs.toArray e) :: (44, tabObj ps') :: (c', oc') :: rest) → IntsAre vs (digs y (ndig x y) x) → TS 44 "_int2digits.<locals>.inner" 73 4 ps' c' oc' → r ≠ 44 → r ≠ c' → (∀ q ∈ rest, q.1 ≠ r) → (∀ q ∈ rest, q.1 ≠ c') → Q (.ref r) { s with heap := h', toks := tk' }) :
    wpAny (model PySem.Challenge.rw_pg0238_02.row.prog w) (Ar dp un gd (env :: outer)) (call (.ref 49) [.int x tx, .int y ty]) Q E s := by
  refine CC.useK (i2d_spec w x y tx ty hx hy hy2 ps ct oct hTS) (.cons p1 (.cons p2 .nil)) B F X N T hf hke hd hdp hun fun v n' h' tk' P F' N' D => ?_
  obtain ⟨r, vs, e, ps', c', oc', rfl, rfl, i1, t1, e1, e2⟩ := P
  exact h r vs e ps' c' oc' h' tk' F' N' i1 t1 e1 e2 (D _ (.head _)) (D (c', oc') (.tail _ (.tail _ (.head _))))
theorem useD2i {l : Addr} {vs : List Value} {e : Nat} {ds : List Int} {y : Nat} {ty : Tok} {ps : Array Value} {ct : Addr} {oct : Obj} (N : News h₀ L s.heap news) (p0 : Pick (l, listOf vs.toArray e) news n1) (hi : IntsAre vs ds) (hy : 0 < y) (hsz : y * ds.length ≤ 62) (hds : ∀ d ∈ ds, 0 ≤ d ∧ d < 2 ^ y)
    (p1 : Pick (51, tabObj ps) n1 n2) (hTS : TS 51 "_digits2int.<locals>.inner" 88 4 ps ct oct) (p2 : Pick (ct, oct) n2 rest) (hl1 : l ≠ 51) (hl2 : l ≠ ct)
    (B : Below A₀ base outer h₀) (F : Fr h₀ L s.heap m) (X : (Mine.hd.heap_39 w.params).In h₀) (T : Top p loose mean mg mb h₀) (hf : env.frame = some L) (hke : env.scope.kind = .function)
    (hd : ∀ q ∈ rest, ∀ r ∈ [(l, listOf vs.toArray e), (51, tabObj ps), (ct, oct)], q.1 ≠ r.1) (hdp : dp + 80 < recursionLimit) (hun : un + 640 < cLine)
    (h : ∀ t ps' c' oc' h' tk', Fr h₀ L h' m → News h₀ L h' ((l, listOf vs.toArray e) :: (51, tabObj ps') :: (c', oc') :: rest) → TS 51 "_digits2int.<locals>.inner" 88 4 ps' c' oc' → l ≠ c' → (∀ q ∈ rest, q.1 ≠ c') → Q (.int (undigs y ds) t) { s with heap := h', toks := tk' }) :
    wpAny (model PySem.Challenge.rw_pg0238_02.row.prog w) (Ar dp un gd (env :: outer)) (call (.ref 56) [.ref l, .int y ty]) Q E s := by
  refine CC.useK (d2i_spec w l vs e ds y ty hi hy hsz hds ps ct oct hTS hl1 hl2) (.cons p0 (.cons p1 (.cons p2 .nil))) B F X N T hf hke hd hdp hun fun v n' h' tk' P F' N' D => ?_
  obtain ⟨t, ps', c', oc', rfl, rfl, t1, e1⟩ := P
  exact h t ps' c' oc' h' tk' F' N' t1 e1 (D (c', oc') (.tail _ (.tail _ (.head _))))
end
end Mine
namespace Mine
noncomputable def LEnd (h₀ : Heap) (L : Addr) {σ : Type} (Led : σ → List (Addr × Obj)) (ps : σ → List (Str × Value)) (P : σ → Prop) (m : Str → Option Value) (nx : List (Addr × Obj)) : Prop := ∃ c : σ, nx = Led c ∧ (∀ p ∈ ps c, m p.1 = some p.2) ∧ P c
theorem kstB_self {u : Str → Option Value} {l : List (Str × Value)} (h : ∀ p ∈ l, u p.1 = some p.2) : kstB u l = u := by
  funext z
  exact kstB_eq h fun _ => rfl
section
variable {prog : Program} {w : World} {A : Around} {E : Value → Shared → Prop} {s : Shared} {env : Env} {h₀ : Heap} {x : Str} {body : List Stmt} {Q : Flow → Shared → Prop}
theorem loopS {σ : Type} {I : Addr} {fp wr : List Addr} {n : Nat} {Pv : Nat → Value → Prop} {St : Nat → Heap → Prop} {m₀ : Str → Option Value} (Led : σ → List (Addr × Obj)) (ps : σ → List (Str × Value)) (P : Nat → σ → Prop) (c₀ : σ)
    (W : Walks prog w A I fp wr n Pv St) (hLf : env.locals ∉ fp) (hwr : ∀ b ∈ wr, h₀.get? b = none) (hfp : ∀ q ∈ Led c₀, q.1 ∉ fp) (hst : St 0 s.heap) (F : Fr h₀ env.locals s.heap m₀) (N : News h₀ env.locals s.heap (Led c₀)) (hk : ∀ p ∈ ps c₀, m₀ p.1 = some p.2) (hp : P 0 c₀)
    (turn : ∀ i v (c : σ) (u : Str → Option Value) h tk own, i < n → Pv i v → OwnOff own ((Led c₀).map (·.1)) → P i c → Fr h₀ env.locals h (fun y => if y = x then some v else kstB u (ps c) y) → News h₀ env.locals h (Led c ++ own) →
      wpAny (model prog w) A (execs body env) (InvPostN h₀ env.locals (LEnd h₀ env.locals Led ps (P (i + 1))) own ((Led c₀).map (·.1)) { s with heap := h, toks := tk } Q) E { s with heap := h, toks := tk })
    (done : ∀ (c : σ) (u : Str → Option Value) h tk, P n c → Fr h₀ env.locals h (kstB u (ps c)) → News h₀ env.locals h (Led c) → Q .next { s with heap := h, toks := tk }) :
    LoopAtV prog w A h₀ env x body Q E (.ref I) s := by
  refine loop_invN (fun i m nx => LEnd h₀ env.locals Led ps (P i) m nx) W hLf hwr (fun p hp' hw => hfp p hp' (W.sub _ hw)) hfp hst F N ⟨c₀, rfl, hk, hp⟩ ?_ ?_
  · rintro i v m₁ news₁ h tk own hi hv _ hoff ⟨c, rfl, h1, h2⟩ F₁ N₁
    exact turn i v c m₁ h tk own hi hv hoff h2 (by rw [show (fun y => if y = x then some v else kstB m₁ (ps c) y) = fun y => if y = x then some v else m₁ y from by rw [kstB_self h1]]; exact F₁) N₁
  · rintro m₁ news₁ h tk ⟨c, rfl, h1, h2⟩ F₁ N₁
    exact done c m₁ h tk h2 (by rw [kstB_self h1]; exact F₁) N₁
theorem turnEnd {σ : Type} {L : Addr} {Led : σ → List (Addr × Obj)} {ps : σ → List (Str × Value)} {P : σ → Prop} {own news' : List (Addr × Obj)} {adr : List Addr} {s₁ : Shared} {h' : Heap} {tk : Nat} {m' : Str → Option Value} (c : σ)
    (F : Fr h₀ L h' m') (N : News h₀ L h' news') (hn : ∀ p ∈ Led c, p ∈ news') (ho : ∀ p ∈ own, p ∈ news') (ha : (Led c).map (·.1) = adr) (hk : ∀ p ∈ ps c, m' p.1 = some p.2) (hp : P c) :
    InvPostN h₀ L (LEnd h₀ L Led ps P) own adr s₁ Q .next { s₁ with heap := h', toks := tk } := InvEndN.intro F N ⟨c, rfl, hk, hp⟩ ha hn ho
theorem loopRev {σ : Type} {I ax : Addr} {vs : List Value} {e : Nat} {news news1 : List (Addr × Obj)} {m₀ : Str → Option Value} (Led : σ → List (Addr × Obj)) (ps : σ → List (Str × Value)) (P : Nat → σ → Prop) (c₀ : σ)
    (hh : A.handled = none) (F : Fr h₀ env.locals s.heap m₀) (N : News h₀ env.locals s.heap news) (p1 : Pick (I, revObj ax ((vs.length : Int) - 1)) news news1) (hax : (ax, listOf vs.toArray e) ∈ news) (hne : ax ≠ I)
    (hL : ∀ q ∈ Led c₀, q ∈ news) (hI : ∀ q ∈ Led c₀, q.1 ≠ I) (hA : ∀ q ∈ Led c₀, q.1 ≠ ax) (hk : ∀ p ∈ ps c₀, m₀ p.1 = some p.2) (hp : P 0 c₀)
    (turn : ∀ i v (c : σ) (u : Str → Option Value) h tk own, i < vs.length → vs[vs.length - 1 - i]? = some v → OwnOff own ((Led c₀).map (·.1)) → P i c → Fr h₀ env.locals h (fun y => if y = x then some v else kstB u (ps c) y) → News h₀ env.locals h (Led c ++ own) →
      wpAny (model prog w) A (execs body env) (InvPostN h₀ env.locals (LEnd h₀ env.locals Led ps (P (i + 1))) own ((Led c₀).map (·.1)) { s with heap := h, toks := tk } Q) E { s with heap := h, toks := tk })
    (done : ∀ (c : σ) (u : Str → Option Value) h tk, P vs.length c → Fr h₀ env.locals h (kstB u (ps c)) → News h₀ env.locals h (Led c) → Q .next { s with heap := h, toks := tk }) :
    wpAny (model prog w) A (pyIter (.ref I)) (fun it s₂ => LoopAtV prog w A h₀ env x body Q E it s₂) E s := by
  have hIx := N _ p1.sub.1
  have hax' := N _ hax
  have hl : s.heap.IsList ax vs.toArray := PySem.IsL.isList (n := e) hax'.1
  have hit : s.heap.IsRevIter I ax ((vs.length : Int) - 1) := ⟨_, hIx.1, rfl, rfl⟩
  refine wpAny_pyIter_revIter hit ?_
  have W := Walks.listRev (prog := prog) (w := w) hh I ax hne vs.toArray
  have hlen : vs.toArray.size = vs.length := by simp
  rw [hlen] at W
  refine loopS Led ps P c₀ W ?_ ?_ ?_ ⟨Nat.zero_le _, ?_, hl⟩ F (fun q hq => N q (hL q hq)) hk hp ?_ done
  · intro hmm
    rcases List.mem_cons.mp hmm with e | hmm
    · exact hIx.2.1 e.symm
    · exact hax'.2.1 (List.mem_singleton.mp hmm).symm
  · intro b hb
    rw [List.mem_singleton.mp hb]
    exact hIx.2.2
  · intro q hq hmm
    rcases List.mem_cons.mp hmm with e | hmm
    · exact hI q hq e
    · exact hA q hq (List.mem_singleton.mp hmm)
  · have e : (vs.length : Int) - 1 - ((0 : Nat) : Int) = (vs.length : Int) - 1 := by (first | lia | omega)
    rw [e]
    exact hit
  · intro i v c u h tk own hi hv
    exact turn i v c u h tk own hi (by simpa using hv)
end
end Mine
namespace Mine
theorem appendL {prog : Program} {w : World} {A : Around} {E : Value → Shared → Prop} {s : Shared} {h₀ : Heap} {L D : Addr} {m : Str → Option Value} {news news' : List (Addr × Obj)} {vs : List Value} {n : Nat} {x : Value} {Q : Value → Shared → Prop} (F : Fr h₀ L s.heap m) (N : News h₀ L s.heap news)
    (U : Upd D (listOf vs.toArray n) (listOf (vs ++ [x]).toArray (n + 1)) news news') (hsz : vs.length ≤ 1000000)
    (h : ∀ h', Fr h₀ L h' m → News h₀ L h' news' → Q .none { s with heap := h' }) : wpAny (model prog w) A (call (.builtin "list.append") [.ref D, x]) Q E s :=
  append_K F N (by rw [← List.push_toArray] at U; exact U) h (by rw [List.size_toArray]; unfold sizeLine; (first | lia | omega))
end Mine
namespace Mine
theorem ints_rev : ∀ {vs : List Value} {ns : List Int}, IntsAre vs ns → IntsAre vs.reverse ns.reverse
  | _, _, .nil => .nil
  | _, _, .cons n t h => by
    rw [List.reverse_cons, List.reverse_cons]
    exact (ints_rev h).append (.cons n t .nil)
theorem reverseL {prog : Program} {w : World} {A : Around} {E : Value → Shared → Prop} {s : Shared} {h₀ : Heap} {L D : Addr} {m : Str → Option Value} {news news' : List (Addr × Obj)} {vs : List Value} {ns : List Int} {n : Nat} {Q : Value → Shared → Prop} (F : Fr h₀ L s.heap m) (N : News h₀ L s.heap news)
    (U : Upd D (listOf vs.toArray n) (listOf vs.reverse.toArray n) news news') (hi : IntsAre vs ns) (hsz : vs.length ≤ 1000000)
    (h : ∀ h', Fr h₀ L h' m → News h₀ L h' news' → IntsAre vs.reverse ns.reverse → Q .none { s with heap := h' }) : wpAny (model prog w) A (call (.builtin "list.reverse") [.ref D]) Q E s :=
  kl_reverse F N (l := vs.reverse) (by simp) U (by simp; unfold sizeLine; (first | lia | omega)) fun h' F' N' => h h' F' N' (ints_rev hi)
end Mine
namespace Mine
theorem digs_get (y : Nat) : ∀ (k x j : Nat), j < k → (digs y k x)[j]? = some (((x / 2 ^ (y * j)) % 2 ^ y : Nat) : Int)
  | 0, _, _, h => absurd h (Nat.not_lt_zero _)
  | k + 1, x, 0, _ => by simp [digs]
  | k + 1, x, j + 1, h => by
    have := digs_get y k (x / 2 ^ y) j (Nat.lt_of_succ_lt_succ h)
    simp only [digs, List.getElem?_cons_succ, this]
    rw [Nat.div_div_eq_div_mul, ← Nat.pow_add, show y + y * j = y * (j + 1) from by rw [Nat.mul_add]; (first | lia | omega)]
theorem dm_top (a n j : Nat) : a / 2 ^ (n * j) = a / 2 ^ (n * (j + 1)) * 2 ^ n + (a / 2 ^ (n * j)) % 2 ^ n := by
  have := Nat.div_add_mod (a / 2 ^ (n * j)) (2 ^ n)
  rw [Nat.div_div_eq_div_mul, ← Nat.pow_add, show n * j + n = n * (j + 1) from by rw [Nat.mul_add]; (first | lia | omega)] at this
  rw [Nat.mul_comm] at this
  (first | lia | omega)
theorem dm_quot (t b m d : Nat) (hb : 0 < b) : (t * m + d) / b = t / b * m + (t % b * m + d) / b := by
  have h := Nat.div_add_mod t b
  have e : t * m + d = (t % b * m + d) + b * (t / b * m) := by
    have : t * m = b * (t / b * m) + t % b * m := by
      rw [← Nat.mul_assoc, ← Nat.add_mul, h]
    (first | lia | omega)
  rw [e, Nat.add_mul_div_left _ _ hb]
  (first | lia | omega)
theorem dm_rem (t b m d : Nat) : (t * m + d) % b = (t % b * m + d) % b := by
  have h := Nat.div_add_mod t b
  have e : t * m + d = (t % b * m + d) + b * (t / b * m) := by
    have : t * m = b * (t / b * m) + t % b * m := by
      rw [← Nat.mul_assoc, ← Nat.add_mul, h]
    (first | lia | omega)
  rw [e, Nat.add_mul_mod_self_left]
theorem dm_small (r b m d : Nat) (hb : 0 < b) (hr : r < b) (hd : d < m) : (r * m + d) / b < m := by
  rw [Nat.div_lt_iff_lt_mul hb]
  have h1 : (r + 1) * m ≤ b * m := Nat.mul_le_mul_right _ hr
  rw [Nat.add_mul, Nat.one_mul] at h1
  rw [Nat.mul_comm m]
  (first | lia | omega)
noncomputable def DmInv (a b n nd i r : Nat) (vsq : List Value) : Prop :=
  ∃ qs : List Int, IntsAre vsq qs ∧ qs.length = i ∧ (∀ q ∈ qs, 0 ≤ q ∧ q < 2 ^ n) ∧ undigs n qs.reverse = ((a / 2 ^ (n * (nd - i)) / b : Nat) : Int) ∧ r = a / 2 ^ (n * (nd - i)) % b
theorem DmInv.start {a b n nd : Nat} (h : a < 2 ^ (n * nd)) : DmInv a b n nd 0 0 [] := by
  refine ⟨[], .nil, rfl, by simp, ?_, ?_⟩
  · simp [undigs, Nat.div_eq_of_lt h]
  · simp [Nat.div_eq_of_lt h]
theorem DmInv.step {a b n nd i r q : Nat} {vsq : List Value} {t : Tok} (I : DmInv a b n nd i r vsq) (hb : 0 < b) (hi : i < nd)
    (hq : q = (r * 2 ^ n + (a / 2 ^ (n * (nd - 1 - i))) % 2 ^ n) / b) : DmInv a b n nd (i + 1) ((r * 2 ^ n + (a / 2 ^ (n * (nd - 1 - i))) % 2 ^ n) % b) (vsq ++ [.int q t]) := by
  obtain ⟨qs, h1, h2, h3, h4, h5⟩ := I
  have ej : nd - i = (nd - 1 - i) + 1 := by (first | lia | omega)
  have ej2 : nd - (i + 1) = nd - 1 - i := by (first | lia | omega)
  rw [ej] at h4 h5
  rw [← show n * (nd - 1 - i + 1) = n * (nd - 1 - i + 1) from rfl] at h4
  have htop := dm_top a n (nd - 1 - i)
  refine ⟨qs ++ [(q : Int)], h1.append (.cons _ _ .nil), by simp [h2], ?_, ?_, ?_⟩
  · intro z hz
    rcases List.mem_append.mp hz with hz | hz
    · exact h3 z hz
    · rw [List.mem_singleton.mp hz, hq]
      have := dm_small r b (2 ^ n) ((a / 2 ^ (n * (nd - 1 - i))) % 2 ^ n) hb (h5 ▸ Nat.mod_lt _ hb) (Nat.mod_lt _ (Nat.two_pow_pos _))
      refine ⟨Int.natCast_nonneg _, ?_⟩
      exact_mod_cast this
  · rw [List.reverse_append]
    show (q : Int) + 2 ^ n * undigs n qs.reverse = _
    rw [h4, ej2, hq, h5]
    have e := dm_quot (a / 2 ^ (n * (nd - 1 - i + 1))) b (2 ^ n) ((a / 2 ^ (n * (nd - 1 - i))) % 2 ^ n) hb
    rw [← htop] at e
    rw [e]
    simp only [Int.natCast_add, Int.natCast_mul, Int.natCast_pow]
    rw [Int.mul_comm]
    simp only [Int.add_comm]
    rfl
  · rw [ej2, h5, ← dm_rem, ← htop]
end Mine
namespace Mine
section
variable {prog : Program} {w : World} {A : Around} {E : Value → Shared → Prop} {s : Shared} {env : Env} {h₀ : Heap} {x : Str} {body : List Stmt} {Q : Flow → Shared → Prop}
theorem loopRevQ {I ax lq : Addr} {vs : List Value} {e : Nat} {news n1 n2 tl : List (Addr × Obj)} {m₀ : Str → Option Value} (nr nq : Str) (pcs : List (Str × Value)) (P : Nat → Nat → List Value → Prop) {t0 : Tok}
    (hh : A.handled = none) (F : Fr h₀ env.locals s.heap m₀) (N : News h₀ env.locals s.heap news) (p1 : Pick (I, revObj ax ((vs.length : Int) - 1)) news n1) (p2 : Pick (ax, listOf vs.toArray e) n1 n2) (hq : m₀ nq = some (.ref lq)) (p3 : Pick (lq, listOf #[] 0) n2 tl)
    (hr : m₀ nr = some (.int (0 : Nat) t0)) (hpcs : ∀ p ∈ pcs, m₀ p.1 = some p.2) (hne : ax ≠ I) (hI0 : lq ≠ I) (hA0 : lq ≠ ax) (hI : ∀ q ∈ tl, q.1 ≠ I) (hA : ∀ q ∈ tl, q.1 ≠ ax) (hp : P 0 0 [])
    (turn : ∀ i v r tr (vsq : List Value) eq (u : Str → Option Value) h tk own, i < vs.length → vs[vs.length - 1 - i]? = some v → OwnOff own (lq :: tl.map (·.1)) → P i r vsq → Fr h₀ env.locals h (fun y => if y = x then some v else kstB u ((nr, .int (r : Nat) tr) :: (nq, .ref lq) :: pcs) y) → News h₀ env.locals h (((lq, listOf vsq.toArray eq) :: tl) ++ own) →
      wpAny (model prog w) A (execs body env) (InvPostN h₀ env.locals (LEnd h₀ env.locals (fun c : Nat × Tok × List Value × Nat => (lq, listOf c.2.2.1.toArray c.2.2.2) :: tl) (fun c => (nr, .int (c.1 : Nat) c.2.1) :: (nq, .ref lq) :: pcs) (fun c => P (i + 1) c.1 c.2.2.1)) own (lq :: tl.map (·.1)) { s with heap := h, toks := tk } Q) E { s with heap := h, toks := tk })
    (done : ∀ r tr (vsq : List Value) eq (u : Str → Option Value) h tk, P vs.length r vsq → Fr h₀ env.locals h (kstB u ((nr, .int (r : Nat) tr) :: (nq, .ref lq) :: pcs)) → News h₀ env.locals h ((lq, listOf vsq.toArray eq) :: tl) → Q .next { s with heap := h, toks := tk }) :
    wpAny (model prog w) A (pyIter (.ref I)) (fun it s₂ => LoopAtV prog w A h₀ env x body Q E it s₂) E s :=
  loopRev (fun c : Nat × Tok × List Value × Nat => (lq, listOf c.2.2.1.toArray c.2.2.2) :: tl) (fun c => (nr, .int (c.1 : Nat) c.2.1) :: (nq, .ref lq) :: pcs) (fun i c => P i c.1 c.2.2.1) (0, t0, [], 0) hh F N p1 (p1.sub.2 _ p2.sub.1) hne
    (fun q hq => by
      rcases List.mem_cons.mp hq with rfl | hq
      · exact p1.sub.2 _ (p2.sub.2 _ p3.sub.1)
      · exact p1.sub.2 _ (p2.sub.2 _ (p3.sub.2 _ hq)))
    (fun q hq => by
      rcases List.mem_cons.mp hq with rfl | hq
      · exact hI0
      · exact hI q hq)
    (fun q hq => by
      rcases List.mem_cons.mp hq with rfl | hq
      · exact hA0
      · exact hA q hq)
    (fun p hp => by
      rcases List.mem_cons.mp hp with rfl | hp
      · exact hr
      · rcases List.mem_cons.mp hp with rfl | hp
        · exact hq
        · exact hpcs p hp) hp
    (fun i v c u h tk own hi hv ho hP F N => turn i v c.1 c.2.1 c.2.2.1 c.2.2.2 u h tk own hi hv ho hP F N)
    (fun c u h tk hP F N => done c.1 c.2.1 c.2.2.1 c.2.2.2 u h tk hP F N)
end
end Mine
namespace Mine
theorem turnEndN {h₀ : Heap} {σ : Type} {L : Addr} {Led : σ → List (Addr × Obj)} {ps : σ → List (Str × Value)} {P : σ → Prop} {own news' : List (Addr × Obj)} {adr : List Addr} {s₁ : Shared} {h' : Heap} {tk : Nat} {m' : Str → Option Value} (c : σ)
    (F : Fr h₀ L h' m') (N : News h₀ L h' news') (hk : ∀ p ∈ ps c, m' p.1 = some p.2) (hn : ∀ p ∈ Led c, p ∈ news') (ho : ∀ p ∈ own, p ∈ news') (ha : (Led c).map (·.1) = adr) (hp : P c) :
    InvEndN h₀ L (LEnd h₀ L Led ps P) own adr s₁ { s₁ with heap := h', toks := tk } := InvEndN.intro F N ⟨c, rfl, hk, hp⟩ ha hn ho
end Mine
theorem Mine.rows1_0 : True := by
  k_with_none
  (k_with "call builtin:list.append" => (k_here; (with_reducible show wpAny _ _ (call (Value.builtin _) [Value.ref _, _]) _ _ _); k_dflt (refine' Mine.appendL ?zz_k1 ?zz_k2 ?zz_k3 ?zz_k4 ?_; (case zz_k1 => k_asm); (case zz_k2 => k_asm); (case zz_k3 => k_upd); (case zz_k4 => first | (first | lia | omega) | (simp only [List.length_nil, List.length_cons]; (first | lia | omega))); k_whole); intro _ _ _; (try k_sweep)))
  (k_with "call builtin:list.reverse" => (k_here; (with_reducible show wpAny _ _ (call (Value.builtin _) _) _ _ _); (try dsimp only); k_dflt (refine' Mine.reverseL ?zz_k1 ?zz_k2 ?zz_k3 ?zz_k4 ?zz_k5 ?_; (case zz_k1 => k_asm); (case zz_k2 => k_asm); (case zz_k3 => k_upd); (case zz_k4 => with_reducible assumption); (case zz_k5 => (first | lia | omega)); k_whole); intro _ _ _ _; (try k_sweep)))
  (k_with "call builtin:max" => (k_here; (with_reducible show wpAny _ _ (call (Value.builtin _) [Value.int _ _, Value.int _ _, Value.int _ _]) _ _ _); (with_unfolding_all refine' Mine.max3 ?zz_k1 ?zz_k2 ?zz_k3 ?_; (case zz_k1 => rfl); (case zz_k2 => k_asm); (case zz_k3 => k_asm); k_whole); intro _ _ _ _ _))
  (k_with "call builtin:min" => (k_here; (with_reducible show wpAny _ _ (call (Value.builtin _) [Value.int _ _, Value.int _ _, Value.int _ _]) _ _ _); (with_unfolding_all refine' Mine.min3 ?zz_k1 ?zz_k2 ?zz_k3 ?_; (case zz_k1 => rfl); (case zz_k2 => k_asm); (case zz_k3 => k_asm); k_whole); intro _ _ _ _ _))
  (k_with "binaryOp Mult ref int" => (k_here; k_dflt (refine' Mine.mulOne ?zz_k1 ?zz_k2 ?zz_k3 ?zz_k4 ?zz_k5 ?_; (case zz_k1 => k_asm); (case zz_k2 => k_asm); (case zz_k3 => k_mem); (case zz_k4 => first | (first | lia | omega) | assumption | l_fact); (case zz_k5 => first | (first | lia | omega) | assumption | l_fact); k_whole); intro _ _ _ _ _ l1 _; (try k_lt l1); (try k_sweep)))
  (k_with "call builtin:divmod" => (k_here; (with_reducible show wpAny _ _ (call (Value.builtin _) [Value.int _ _, Value.int _ _]) _ _ _); refine divmod_N (by assumption) (by assumption) (by side_arith) ?_; intro _ _ _))
  (k_with "call builtin:len" => (k_here; (with_reducible show wpAny _ _ (call (Value.builtin _) [Value.ref _]) _ _ _); k_dflt (refine' Mine.lenN ?zz_k1 ?zz_k2 ?zz_k3 ?zz_k4 ?_; (case zz_k1 => k_asm); (case zz_k2 => k_mem); (case zz_k3 => with_reducible assumption); (case zz_k4 => ((try simp only [List.length_append, List.length_cons, List.length_nil, List.length_replicate, List.length_map]); (first | lia | omega))); k_whole); intro _ _))
  (k_with "binaryOp Sub int int" => (k_here; with_reducible refine' Mine.subIs ?zz_k1 ?_; (case zz_k1 => assumption)))
  (k_with "binaryOp Add int int" => (k_here; with_reducible refine' Mine.addIs ?zz_k1 ?_; (case zz_k1 => assumption)))
  (k_with "binaryOp Mult int int" => (k_here; with_reducible refine' Mine.mulIs ?zz_k1 ?zz_k2 ?_; (case zz_k1 => assumption); (case zz_k2 => exact Mine.bits64 (by (first | lia | omega)))))
  (k_with "binaryOp RShift int int" => (k_here; with_reducible refine' Mine.shrIs ?zz_k1 ?zz_k2 ?_; (case zz_k1 => assumption); (case zz_k2 => (first | lia | omega))))
  (k_with "binaryOp LShift int int" => (k_here; with_reducible refine' Mine.shlIs ?zz_k1 ?zz_k2 ?zz_k3 ?zz_k4 ?_; (case zz_k1 => assumption); (case zz_k2 => (first | lia | omega)); (case zz_k3 => (first | lia | omega)); (case zz_k4 => (first | lia | omega))))
  (k_with "binaryOp BitXor int int" => (k_here; with_reducible refine' Mine.xorIs ?zz_k1 ?_; (case zz_k1 => assumption)))
  (k_with "exec FunctionDef" => (k_here; kn_here; k_dflt (refine' nestDef_K ?zz_d0 ?zz_k0 ?zz_a0 ?_; (case zz_d0 => exact rfl); (case zz_k0 => exact rfl); (case zz_a0 => exact rfl)); (k_dflt (refine' Mine.nestBoth ?zz_F ?zz_N ?zz_T ?zz_C ?zz_cd ?zz_hs ?zz_ht ?zz_hP ?zz_hc ?zz_cl ?_; (case zz_F => k_asm); (case zz_N => k_asm); (case zz_T => k_asm); (case zz_cd => exact rfl); (case zz_C => kn_code); (case zz_hs => exact rfl); (case zz_ht => assumption); (case zz_hP => (dsimp only [List.dropLast]; k_all)); (case zz_hc => (dsimp only [List.dropLast]; k_all)); (case zz_cl => exact rfl); k_whole); intro _ _ _ _ _ _ _ _ _ _ N' _ _ l1 l2 _ _ _; (dsimp only [List.dropLast, List.append, HAppend.hAppend, Append.append] at N' l1 l2); (simp only [List.forall_mem_cons, List.forall_mem_nil, and_true] at l1 l2); (repeat (obtain ⟨_, l1⟩ := l1)); (repeat (obtain ⟨_, l2⟩ := l2)))))
  (k_with "call builtin:list.append" => (k_here; (with_reducible show wpAny _ _ (call (Value.builtin _) [Value.ref _, _]) _ _ _); k_dflt (refine' Mine.appendL ?zz_k1 ?zz_k2 ?zz_k3 ?zz_k4 ?_; (case zz_k1 => k_asm); (case zz_k2 => k_asm); (case zz_k3 => k_upd); (case zz_k4 => first | (first | lia | omega) | (simp only [List.length_nil, List.length_cons]; (first | lia | omega))); k_whole); intro _ _ _; (try k_sweep)))
  (k_with "call builtin:list.reverse" => (k_here; (with_reducible show wpAny _ _ (call (Value.builtin _) _) _ _ _); (try dsimp only); k_dflt (refine' Mine.reverseL ?zz_k1 ?zz_k2 ?zz_k3 ?zz_k4 ?zz_k5 ?_; (case zz_k1 => k_asm); (case zz_k2 => k_asm); (case zz_k3 => k_upd); (case zz_k4 => with_reducible assumption); (case zz_k5 => (first | lia | omega)); k_whole); intro _ _ _ _; (try k_sweep)))
  (k_with "unaryOp Invert int" => (k_here; with_reducible refine' Mine.invIs ?zz_k1 ?_; (case zz_k1 => assumption)))
  (k_with "call ref" => (k_here; (with_reducible show wpAny _ _ (call (Value.ref 35) [Value.int _ _, Value.int _ _, Value.int _ _]) _ _ _); k_dflt (refine' Mine.useDiv ?zz_h1 ?zz_h3 ?zz_h4 ?zz_cB ?zz_cF ?zz_cX ?zz_cN ?zz_cT ?zz_cf ?zz_ck ?zz_cdp ?zz_cun ?_; (case zz_cN => k_asm); (case zz_cB => k_asm); (case zz_cF => k_asm); (case zz_cX => k_asm); (case zz_cT => k_asm); (case zz_cf => exact rfl); (case zz_ck => exact rfl); (case zz_cdp => ktr_room); (case zz_cun => ktr_units); (case zz_h1 => first | assumption | (first | lia | omega)); (case zz_h3 => first | assumption | (first | lia | omega)); (case zz_h4 => first | assumption | (first | lia | omega)); k_whole); intro _ _ _ _ _ _ _ D'; (try simp only [List.cons_append, List.nil_append, List.forall_mem_cons, List.forall_mem_nil, and_true] at D'); (repeat (obtain ⟨_, D'⟩ := D'))))
  (k_with "call ref" => (k_here; (with_reducible show wpAny _ _ (call (Value.ref 49) [Value.int _ _, Value.int _ _]) _ _ _); k_dflt (refine' Mine.useI2d ?zz_h1 ?zz_h2 ?zz_h3 ?zz_cN ?zz_p1 ?zz_cTS ?zz_p2 ?zz_cB ?zz_cF ?zz_cX ?zz_cT ?zz_cf ?zz_ck ?zz_cd ?zz_cdp ?zz_cun ?_; (case zz_cN => k_asm); (case zz_p1 => repeat' (first | exact Mine.Pick.head | refine' Mine.Pick.tail ?_)); (case zz_cTS => assumption); (case zz_p2 => repeat' (first | exact Mine.Pick.head | refine' Mine.Pick.tail ?_)); (case zz_cB => k_asm); (case zz_cF => k_asm); (case zz_cX => k_asm); (case zz_cT => k_asm); (case zz_cf => exact rfl); (case zz_ck => exact rfl); (case zz_cdp => ktr_room); (case zz_cun => ktr_units); (case zz_h1 => first | assumption | (first | lia | omega)); (case zz_h2 => first | assumption | (first | lia | omega)); (case zz_h3 => first | assumption | (first | lia | omega)); (case zz_cd => repeat' (first | exact List.forall_mem_nil _ | (refine' List.forall_mem_cons.mpr ⟨?_, ?_⟩) | k_ne)); k_whole); intro _ _ _ _ _ _ _ _ _ _ _ _ _ _ D1' D2'; (try simp only [List.cons_append, List.nil_append, List.forall_mem_cons, List.forall_mem_nil, and_true] at D1' D2'); (repeat (obtain ⟨_, D1'⟩ := D1')); (repeat (obtain ⟨_, D2'⟩ := D2'))))
  (k_with "call ref" => (k_here; (with_reducible show wpAny _ _ (call (Value.ref 56) [Value.ref _, Value.int _ _]) _ _ _); k_dflt (refine' Mine.useD2i ?zz_cN ?zz_p0 ?zz_hi ?zz_h1 ?zz_h2 ?zz_h3 ?zz_p1 ?zz_cTS ?zz_p2 ?zz_n1 ?zz_n2 ?zz_cB ?zz_cF ?zz_cX ?zz_cT ?zz_cf ?zz_ck ?zz_cd ?zz_cdp ?zz_cun ?_; (case zz_cN => k_asm); (case zz_p0 => repeat' (first | exact Mine.Pick.head | refine' Mine.Pick.tail ?_)); (case zz_hi => with_reducible assumption); (case zz_p1 => repeat' (first | exact Mine.Pick.head | refine' Mine.Pick.tail ?_)); (case zz_cTS => assumption); (case zz_p2 => repeat' (first | exact Mine.Pick.head | refine' Mine.Pick.tail ?_)); (case zz_cB => k_asm); (case zz_cF => k_asm); (case zz_cX => k_asm); (case zz_cT => k_asm); (case zz_cf => exact rfl); (case zz_ck => exact rfl); (case zz_cdp => ktr_room); (case zz_cun => ktr_units); (case zz_h1 => first | assumption | (first | lia | omega)); (case zz_h2 => first | assumption | (first | lia | omega)); (case zz_h3 => assumption); (case zz_n1 => k_ne); (case zz_n2 => k_ne); (case zz_cd => repeat' (first | exact List.forall_mem_nil _ | (refine' List.forall_mem_cons.mpr ⟨?_, ?_⟩) | k_ne)); k_whole); intro _ _ _ _ _ _ _ _ _ _ D2'; (try simp only [List.cons_append, List.nil_append, List.forall_mem_cons, List.forall_mem_nil, and_true] at D2'); (repeat (obtain ⟨_, D2'⟩ := D2'))))
  (k_with "execs cons" => (k_here; k_fold))
  (k_with "eval ListComp" => (k_here; k_fold))
  trivial
namespace Mine
theorem ndig_mul (x y : Nat) (hx : x < 2 ^ 48) (hy : 0 < y) : y * ndig x y ≤ 48 + (y - 1) := by
  have hb := bits48 hx
  unfold ndig
  generalize Builtin.Int.intBits (x : Int) = b at *
  have e : ((b : Int) + y - 1).fdiv y = (((b + (y - 1)) / y : Nat) : Int) := by
    rw [show (b : Int) + y - 1 = ((b + (y - 1) : Nat) : Int) from by (first | lia | omega), Int.fdiv_eq_ediv_of_nonneg _ (Int.natCast_nonneg _)]
    rfl
  rw [e, Int.toNat_natCast]
  have := Nat.mul_div_le (b + (y - 1)) y
  (first | lia | omega)
theorem dmp_spec (w : World) (a b : Nat) (ta tb : Tok) (ha : a < 2 ^ 48) (hb : 0 < b) (hb2 : b < 2 ^ 14)
    (p44 p51 : Array Value) (c44 c51 : Addr) (o44 o51 : Obj) (h44 : TS 44 "_int2digits.<locals>.inner" 73 4 p44 c44 o44) (h51 : TS 51 "_digits2int.<locals>.inner" 88 4 p51 c51 o51) (d1 : c44 ≠ 51) (d2 : c51 ≠ 44) (d3 : c44 ≠ c51) :
    C3 w 63 84 680 [(44, tabObj p44), (c44, o44), (51, tabObj p51), (c51, o51)] [.int a ta, .int b tb]
      (fun v n' => ∃ r t1 t2 p44' p51' c44' c51' o44' o51', v = .ref r ∧ n' = [(r, tupOf [.int ((a / b : Nat) : Int) t1, .int ((a % b : Nat) : Int) t2]), (44, tabObj p44'), (c44', o44'), (51, tabObj p51'), (c51', o51')] ∧ TS 44 "_int2digits.<locals>.inner" 73 4 p44' c44' o44' ∧ TS 51 "_digits2int.<locals>.inner" 88 4 p51' c51' o51' ∧ c44' ≠ 51 ∧ c51' ≠ 44 ∧ c44' ≠ c51') := by
  have hn1 : 0 < Builtin.Int.intBits (b : Int) := by
    rcases Nat.eq_zero_or_pos (Builtin.Int.intBits (b : Int)) with h | h
    · have := intBits_le_iff.mp (Nat.le_of_eq h)
      simp at this; (first | lia | omega)
    · exact h
  have hn2 : Builtin.Int.intBits (b : Int) ≤ 14 := intBits_le_iff.mpr (by simpa using hb2)
  obtain ⟨hq0, hq1, hq2⟩ := ndig_spec a _ ha hn1
  have hnd : ndig a (Builtin.Int.intBits (b : Int)) ≤ 48 := by unfold ndig; exact Int.toNat_le.mpr hq1
  have hlen := digs_length (Builtin.Int.intBits (b : Int)) (ndig a (Builtin.Int.intBits (b : Int))) a
  have hget := digs_get (Builtin.Int.intBits (b : Int)) (ndig a (Builtin.Int.intBits (b : Int))) a
  intro p loose mean mg mb dp un gd fr base g s R B X T st sz N hd hu hret
  k_dflt (refine' enterP ?k1 ?kst ?ksz ?kN ?kX ?kT ?k6 ?k7 ?k8 ?k9 ?kB ?_ ?c2 ?c3 ?c4 ?c5; (case k1 => exact B); (case kst => exact st); (case ksz => exact sz); (case kN => exact N); (case kX => exact X); (case kT => exact T); (case k6 => k_is); (case k7 => k_is); (case k8 => first | exact Mine.rm0 (by assumption) | ktr_room); (case k9 => exact BindsTo.of_eq rfl); (case c5 => decide); (case kB => exact locs rfl); (case c2 => exact rfl); (case c3 => exact rfl); (case c4 => exact rfl); k_whole; intro L' h' F' N' l0; (try dsimp only); (try k_lt l0); (try k_fold))
  k_steps
  k_dflt (refine' loopRevQ "r" "q_digits" [("n", .int (Builtin.Int.intBits (b : Int)) _), ("b", .int b tb)] (fun i r vsq => DmInv a b (Builtin.Int.intBits (b : Int)) (ndig a (Builtin.Int.intBits (b : Int))) i r vsq) ?hh ?F ?N ?p1 ?p2 ?hq ?p3 ?hr ?hpcs ?hne ?hI0 ?hA0 ?hI ?hA ?hp ?turn ?done; (case hh => exact rfl); (case F => k_asm); (case N => k_asm); (case p1 => repeat' (first | exact Mine.Pick.head | refine' Mine.Pick.tail ?_)); (case p2 => repeat' (first | exact Mine.Pick.head | refine' Mine.Pick.tail ?_)); (case hq => exact rfl); (case p3 => repeat' (first | exact Mine.Pick.head | refine' Mine.Pick.tail ?_)); (case hr => exact rfl); (case hpcs => repeat' (first | exact List.forall_mem_nil _ | (refine' List.forall_mem_cons.mpr ⟨?_, ?_⟩) | exact rfl)); (case hne => k_ne); (case hI0 => k_ne); (case hA0 => k_ne); (case hI => k_all); (case hA => k_all); (case hp => exact DmInv.start hq2))
  · intro i v r tr vsq eq u h tk own hi1 hv hoff hP F1 N1
    simp only [List.cons_append, List.nil_append] at N1
    rename IntsAre _ (digs _ _ _) => iX
    have hvl := iX.length
    rw [hlen] at hvl
    obtain ⟨td, hv2⟩ := iX.get _ _ (hget (ndig a (Builtin.Int.intBits (b : Int)) - 1 - i) (ssub (by rw [← hvl]; exact hi1)))
    rw [hvl, hv2] at hv
    obtain rfl := Option.some.inj hv
    have hP2 := hP
    obtain ⟨qs, q1, q2, q3, q4, q5⟩ := hP2
    have hvq := q1.length
    have hrb : r < b := by rw [q5]; exact Nat.mod_lt _ hb
    have hdlt : (a / 2 ^ (Builtin.Int.intBits (b : Int) * (ndig a (Builtin.Int.intBits (b : Int)) - 1 - i))) % 2 ^ Builtin.Int.intBits (b : Int) < 2 ^ Builtin.Int.intBits (b : Int) := Nat.mod_lt _ (Nat.two_pow_pos _)
    have hst := fun q t (e : q = _) => DmInv.step (q := q) (t := t) hP hb (by (first | lia | omega)) e
    generalize hD : (a / 2 ^ (Builtin.Int.intBits (b : Int) * (ndig a (Builtin.Int.intBits (b : Int)) - 1 - i))) % 2 ^ Builtin.Int.intBits (b : Int) = d at *
    have i1 : Is ((r : Int) * 2 ^ ((Builtin.Int.intBits (b : Int) : Nat) : Int).toNat) ((r * 2 ^ Builtin.Int.intBits (b : Int) : Nat) : Int) := by unfold Is; simp
    have i2 : Is (((r * 2 ^ Builtin.Int.intBits (b : Int) : Nat) : Int) + (d : Int)) ((r * 2 ^ Builtin.Int.intBits (b : Int) + d : Nat) : Int) := by unfold Is; simp
    have hz : (Builtin.Int.intBits ((r * 2 ^ Builtin.Int.intBits (b : Int) + d : Nat) : Int) : Int) - (Builtin.Int.intBits (b : Int) : Int) ≤ 4000 := by
      have h1 : Builtin.Int.intBits ((r * 2 ^ Builtin.Int.intBits (b : Int) + d : Nat) : Int) ≤ 64 := by
        refine intBits_le_iff.mpr ?_
        have h2 : 2 ^ Builtin.Int.intBits (b : Int) ≤ 2 ^ 14 := Nat.pow_le_pow_right (by decide) hn2
        have h3 : r * 2 ^ Builtin.Int.intBits (b : Int) ≤ 2 ^ 14 * 2 ^ 14 := Nat.mul_le_mul (by (first | lia | omega)) h2
        rw [Int.natAbs_natCast]
        (first | lia | omega)
      (first | lia | omega)
    k_steps
    k_dflt (refine' turnEndN (_, _, _, _) ?F ?N ?hk ?hn ?ho ?ha ?hp; (case F => k_asm); (case N => k_asm); (case hk => repeat' (first | exact List.forall_mem_nil _ | (refine' List.forall_mem_cons.mpr ⟨?_, ?_⟩) | exact rfl)); (case hn => repeat' (first | exact List.forall_mem_nil _ | (refine' List.forall_mem_cons.mpr ⟨?_, ?_⟩) | k_mem)); (case ho => (intro p hp; k_ownIn)); (case ha => exact rfl); (case hp => exact hst _ _ rfl))
  · intro r tr vsq eq u h tk hP F1 N1
    rename IntsAre _ (digs _ _ _) => iX
    have hvl := iX.length
    rw [hlen] at hvl
    rw [hvl] at hP
    obtain ⟨qs, q1, q2, q3, q4, q5⟩ := hP
    have hvq := q1.length
    rw [Nat.sub_self, Nat.mul_zero, Nat.pow_zero, Nat.div_one] at q4 q5
    subst q5
    have hsz : Builtin.Int.intBits (b : Int) * qs.reverse.length ≤ 62 := by
      rw [List.length_reverse, q2]
      have := ndig_mul a _ ha hn1
      (first | lia | omega)
    have hds : ∀ d ∈ qs.reverse, 0 ≤ d ∧ d < 2 ^ Builtin.Int.intBits (b : Int) := fun d hd => q3 d (List.mem_reverse.mp hd)
    clear hq0 hq1 hget iX
    k_steps
    rename News _ _ _ _ => NN
    rw [q4] at NN
    k_dflt (refine' hret _ _ _ _ ⟨_, _, _, _, _, _, _, _, _, rfl, rfl, ?t44, ?t51, ?e1, ?e2, ?e3⟩ (Fr.keep ?F) (outS NN (List.forall_mem_cons.mpr ⟨?m1, List.forall_mem_cons.mpr ⟨?m2, List.forall_mem_cons.mpr ⟨?m3, List.forall_mem_cons.mpr ⟨?m4, List.forall_mem_cons.mpr ⟨?m5, List.forall_mem_nil _⟩⟩⟩⟩⟩)); (case F => k_asm); (case m1 => k_mem); (case m2 => k_mem); (case m4 => k_mem); (case t44 => assumption); (case t51 => assumption); (case m3 => k_mem); (case m5 => k_mem); (case e1 => k_ne); (case e2 => k_ne); (case e3 => k_ne))
end Mine
namespace Mine
abbrev T44 := TS 44 "_int2digits.<locals>.inner" 73 4
abbrev T51 := TS 51 "_digits2int.<locals>.inner" 88 4
section
variable {w : World} {p : Program} {loose : List Str} {mean : ExcName → Option Value} {mg mb : Str → Option Value} {dp un : Nat} {gd : Option (List Code)} {env : Env} {outer : List Env} {A₀ : Around} {base h₀ : Heap} {L : Addr} {m : Str → Option Value} {s : Shared} {Q E : Value → Shared → Prop} {news n1 n2 n3 rest : List (Addr × Obj)}
  {p44 p51 : Array Value} {c44 c51 : Addr} {o44 o51 : Obj}
theorem useQ {f : Addr} {D U : Nat} {vs : List Value} {x y : Int} (C : C3 w f D U [(44, tabObj p44), (c44, o44), (51, tabObj p51), (c51, o51)] vs
      (fun v n' => ∃ r t1 t2 p44' p51' c44' c51' o44' o51', v = .ref r ∧ n' = [(r, tupOf [.int x t1, .int y t2]), (44, tabObj p44'), (c44', o44'), (51, tabObj p51'), (c51', o51')] ∧ T44 p44' c44' o44' ∧ T51 p51' c51' o51' ∧ c44' ≠ 51 ∧ c51' ≠ 44 ∧ c44' ≠ c51'))
    (N : News h₀ L s.heap news) (p1 : Pick (44, tabObj p44) news n1) (p2 : Pick (c44, o44) n1 n2) (p3 : Pick (51, tabObj p51) n2 n3) (p4 : Pick (c51, o51) n3 rest)
    (B : Below A₀ base outer h₀) (F : Fr h₀ L s.heap m) (X : (Mine.hd.heap_39 w.params).In h₀) (T : Top p loose mean mg mb h₀) (hf : env.frame = some L) (hke : env.scope.kind = .function)
    (hd : ∀ q ∈ rest, ∀ r ∈ [(44, tabObj p44), (c44, o44), (51, tabObj p51), (c51, o51)], q.1 ≠ r.1) (hdp : dp + D < recursionLimit) (hun : un + U < cLine)
    (h : ∀ r t1 t2 p44' p51' c44' c51' o44' o51' h' tk', Fr h₀ L h' m → News h₀ L h' ((r, tupOf [.int x t1, .int y t2]) :: (44, tabObj p44') :: (c44', o44') :: (51, tabObj p51') :: (c51', o51') :: rest) → T44 p44' c44' o44' → T51 p51' c51' o51' → c44' ≠ 51 → c51' ≠ 44 → c44' ≠ c51' → (∀ q ∈ rest, q.1 ≠ r) → (∀ q ∈ rest, q.1 ≠ c44') → (∀ q ∈ rest, q.1 ≠ c51') → Q (.ref r) { s with heap := h', toks := tk' }) :
    wpAny (model PySem.Challenge.rw_pg0238_02.row.prog w) (Ar dp un gd (env :: outer)) (call (.ref f) vs) Q E s := by
  refine CC.useK C (.cons p1 (.cons p2 (.cons p3 (.cons p4 .nil)))) B F X N T hf hke hd hdp hun fun v n' h' tk' P F' N' D => ?_
  obtain ⟨r, t1, t2, p44', p51', c44', c51', o44', o51', rfl, rfl, e1, e2, e3, e4, e5⟩ := P
  exact h r t1 t2 p44' p51' c44' c51' o44' o51' h' tk' F' N' e1 e2 e3 e4 e5 (D _ (.head _)) (D (c44', o44') (.tail _ (.tail _ (.head _)))) (D (c51', o51') (.tail _ (.tail _ (.tail _ (.tail _ (.head _))))))
end
end Mine
namespace Mine
theorem invIs {prog : Program} {w : World} {A : Around} {E : Value → Shared → Prop} {s : Shared} {a v : Int} {t : Tok} {Q : Value → Shared → Prop} (e : Is (Builtin.bitNot a) v) (h : Q (.int v s.toks) { s with toks := s.toks + 1 }) : wpAny (model prog w) A (unaryOp .Invert (.int a t)) Q E s :=
  PyProof.Rows.invert_int (by rw [show Builtin.bitNot a = v from e]; exact h)
end Mine
theorem Mine.rows2_0 : True := by
  k_with_none
  (k_with "unaryOp Invert int" => (k_here; with_reducible refine' Mine.invIs ?zz_k1 ?_; (case zz_k1 => assumption)))
  (k_with "call builtin:max" => (k_here; (with_reducible show wpAny _ _ (call (Value.builtin _) [Value.int _ _, Value.int _ _, Value.int _ _]) _ _ _); (with_unfolding_all refine' Mine.max3 ?zz_k1 ?zz_k2 ?zz_k3 ?_; (case zz_k1 => rfl); (case zz_k2 => k_asm); (case zz_k3 => k_asm); k_whole); intro _ _ _ _ _))
  (k_with "call builtin:min" => (k_here; (with_reducible show wpAny _ _ (call (Value.builtin _) [Value.int _ _, Value.int _ _, Value.int _ _]) _ _ _); (with_unfolding_all refine' Mine.min3 ?zz_k1 ?zz_k2 ?zz_k3 ?_; (case zz_k1 => rfl); (case zz_k2 => k_asm); (case zz_k3 => k_asm); k_whole); intro _ _ _ _ _))
  (k_with "binaryOp Mult ref int" => (k_here; k_dflt (refine' Mine.mulOne ?zz_k1 ?zz_k2 ?zz_k3 ?zz_k4 ?zz_k5 ?_; (case zz_k1 => k_asm); (case zz_k2 => k_asm); (case zz_k3 => k_mem); (case zz_k4 => first | (first | lia | omega) | assumption | l_fact); (case zz_k5 => first | (first | lia | omega) | assumption | l_fact); k_whole); intro _ _ _ _ _ l1 _; (try k_lt l1); (try k_sweep)))
  (k_with "call builtin:divmod" => (k_here; (with_reducible show wpAny _ _ (call (Value.builtin _) [Value.int _ _, Value.int _ _]) _ _ _); refine divmod_N (by assumption) (by assumption) (by side_arith) ?_; intro _ _ _))
  (k_with "call builtin:len" => (k_here; (with_reducible show wpAny _ _ (call (Value.builtin _) [Value.ref _]) _ _ _); k_dflt (refine' Mine.lenN ?zz_k1 ?zz_k2 ?zz_k3 ?zz_k4 ?_; (case zz_k1 => k_asm); (case zz_k2 => k_mem); (case zz_k3 => with_reducible assumption); (case zz_k4 => ((try simp only [List.length_append, List.length_cons, List.length_nil, List.length_replicate, List.length_map]); (first | lia | omega))); k_whole); intro _ _))
  (k_with "binaryOp Sub int int" => (k_here; with_reducible refine' Mine.subIs ?zz_k1 ?_; (case zz_k1 => assumption)))
  (k_with "binaryOp Add int int" => (k_here; with_reducible refine' Mine.addIs ?zz_k1 ?_; (case zz_k1 => assumption)))
  (k_with "binaryOp Mult int int" => (k_here; with_reducible refine' Mine.mulIs ?zz_k1 ?zz_k2 ?_; (case zz_k1 => assumption); (case zz_k2 => exact Mine.bits64 (by (first | lia | omega)))))
  (k_with "binaryOp RShift int int" => (k_here; with_reducible refine' Mine.shrIs ?zz_k1 ?zz_k2 ?_; (case zz_k1 => assumption); (case zz_k2 => (first | lia | omega))))
  (k_with "binaryOp LShift int int" => (k_here; with_reducible refine' Mine.shlIs ?zz_k1 ?zz_k2 ?zz_k3 ?zz_k4 ?_; (case zz_k1 => assumption); (case zz_k2 => (first | lia | omega)); (case zz_k3 => (first | lia | omega)); (case zz_k4 => (first | lia | omega))))
  (k_with "binaryOp BitXor int int" => (k_here; with_reducible refine' Mine.xorIs ?zz_k1 ?_; (case zz_k1 => assumption)))
  (k_with "exec FunctionDef" => (k_here; kn_here; k_dflt (refine' nestDef_K ?zz_d0 ?zz_k0 ?zz_a0 ?_; (case zz_d0 => exact rfl); (case zz_k0 => exact rfl); (case zz_a0 => exact rfl)); (k_dflt (refine' Mine.nestBoth ?zz_F ?zz_N ?zz_T ?zz_C ?zz_cd ?zz_hs ?zz_ht ?zz_hP ?zz_hc ?zz_cl ?_; (case zz_F => k_asm); (case zz_N => k_asm); (case zz_T => k_asm); (case zz_cd => exact rfl); (case zz_C => kn_code); (case zz_hs => exact rfl); (case zz_ht => assumption); (case zz_hP => (dsimp only [List.dropLast]; k_all)); (case zz_hc => (dsimp only [List.dropLast]; k_all)); (case zz_cl => exact rfl); k_whole); intro _ _ _ _ _ _ _ _ _ _ N' _ _ l1 l2 _ _ _; (dsimp only [List.dropLast, List.append, HAppend.hAppend, Append.append] at N' l1 l2); (simp only [List.forall_mem_cons, List.forall_mem_nil, and_true] at l1 l2); (repeat (obtain ⟨_, l1⟩ := l1)); (repeat (obtain ⟨_, l2⟩ := l2)))))
  (k_with "call builtin:list.append" => (k_here; (with_reducible show wpAny _ _ (call (Value.builtin _) [Value.ref _, _]) _ _ _); k_dflt (refine' Mine.appendL ?zz_k1 ?zz_k2 ?zz_k3 ?zz_k4 ?_; (case zz_k1 => k_asm); (case zz_k2 => k_asm); (case zz_k3 => k_upd); (case zz_k4 => first | (first | lia | omega) | (simp only [List.length_nil, List.length_cons]; (first | lia | omega))); k_whole); intro _ _ _; (try k_sweep)))
  (k_with "call builtin:list.reverse" => (k_here; (with_reducible show wpAny _ _ (call (Value.builtin _) _) _ _ _); (try dsimp only); k_dflt (refine' Mine.reverseL ?zz_k1 ?zz_k2 ?zz_k3 ?zz_k4 ?zz_k5 ?_; (case zz_k1 => k_asm); (case zz_k2 => k_asm); (case zz_k3 => k_upd); (case zz_k4 => with_reducible assumption); (case zz_k5 => (first | lia | omega)); k_whole); intro _ _ _ _; (try k_sweep)))
  (k_with "unaryOp Invert int" => (k_here; with_reducible refine' Mine.invIs ?zz_k1 ?_; (case zz_k1 => assumption)))
  (k_with "call ref" => (k_here; (with_reducible show wpAny _ _ (call (Value.ref 63) [Value.int _ _, Value.int _ _]) _ _ _); k_dflt (refine' Mine.useQ (Mine.dmp_spec _ _ _ _ _ ?zz_h1 ?zz_h2 ?zz_h3 _ _ _ _ _ _ ?zz_t44 ?zz_t51 ?zz_d1 ?zz_d2 ?zz_d3) ?zz_cN ?zz_p1 ?zz_p2 ?zz_p3 ?zz_p4 ?zz_cB ?zz_cF ?zz_cX ?zz_cT ?zz_cf ?zz_ck ?zz_cd ?zz_cdp ?zz_cun ?_; (case zz_cN => k_asm); (case zz_p1 => repeat' (first | exact Mine.Pick.head | refine' Mine.Pick.tail ?_)); (case zz_t44 => assumption); (case zz_p2 => repeat' (first | exact Mine.Pick.head | refine' Mine.Pick.tail ?_)); (case zz_p3 => repeat' (first | exact Mine.Pick.head | refine' Mine.Pick.tail ?_)); (case zz_t51 => assumption); (case zz_p4 => repeat' (first | exact Mine.Pick.head | refine' Mine.Pick.tail ?_)); (case zz_cB => k_asm); (case zz_cF => k_asm); (case zz_cX => k_asm); (case zz_cT => k_asm); (case zz_cf => exact rfl); (case zz_ck => exact rfl); (case zz_cdp => ktr_room); (case zz_cun => ktr_units); (case zz_h1 => first | assumption | (first | lia | omega)); (case zz_h2 => first | assumption | (first | lia | omega)); (case zz_h3 => first | assumption | (first | lia | omega)); (case zz_d1 => k_ne); (case zz_d2 => k_ne); (case zz_d3 => k_ne); (case zz_cd => repeat' (first | exact List.forall_mem_nil _ | (refine' List.forall_mem_cons.mpr ⟨?_, ?_⟩) | k_ne)); k_whole); intro _ _ _ _ _ _ _ _ _ _ _ _ _ _ _ _ _ _ D1' D2' D3'; (try simp only [List.cons_append, List.nil_append, List.forall_mem_cons, List.forall_mem_nil, and_true] at D1' D2' D3'); (repeat (obtain ⟨_, D1'⟩ := D1')); (repeat (obtain ⟨_, D2'⟩ := D2')); (repeat (obtain ⟨_, D3'⟩ := D3'))))
  (k_with "execs cons" => (k_here; k_fold))
  (k_with "eval ListComp" => (k_here; k_fold))
  trivial
namespace Mine
noncomputable abbrev IdmPost (x y : Int) (v : Value) (n' : List (Addr × Obj)) : Prop := ∃ r t1 t2 p44' p51' c44' c51' o44' o51', v = .ref r ∧ n' = [(r, tupOf [.int x t1, .int y t2]), (44, tabObj p44'), (c44', o44'), (51, tabObj p51'), (c51', o51')] ∧ T44 p44' c44' o44' ∧ T51 p51' c51' o51' ∧ c44' ≠ 51 ∧ c51' ≠ 44 ∧ c44' ≠ c51'
theorem idm_pos (w : World) (a b : Nat) (ta tb : Tok) (ha : a < 2 ^ 48) (hb : 0 < b) (hb2 : b < 2 ^ 14)
    (p44 p51 : Array Value) (c44 c51 : Addr) (o44 o51 : Obj) (h44 : T44 p44 c44 o44) (h51 : T51 p51 c51 o51) (d1 : c44 ≠ 51) (d2 : c51 ≠ 44) (d3 : c44 ≠ c51) :
    C3 w 70 86 700 [(44, tabObj p44), (c44, o44), (51, tabObj p51), (c51, o51)] [.int a ta, .int b tb] (IdmPost ((a / b : Nat) : Int) ((a % b : Nat) : Int)) := by
  intro p loose mean mg mb dp un gd fr base g s R B X T st sz N hd hu hret
  k_dflt (refine' enterP ?k1 ?kst ?ksz ?kN ?kX ?kT ?k6 ?k7 ?k8 ?k9 ?kB ?_ ?c2 ?c3 ?c4 ?c5; (case k1 => exact B); (case kst => exact st); (case ksz => exact sz); (case kN => exact N); (case kX => exact X); (case kT => exact T); (case k6 => k_is); (case k7 => k_is); (case k8 => first | exact Mine.rm0 (by assumption) | ktr_room); (case k9 => exact BindsTo.of_eq rfl); (case c5 => decide); (case kB => exact locs rfl); (case c2 => exact rfl); (case c3 => exact rfl); (case c4 => exact rfl); k_whole; intro L' h' F' N' l0; (try dsimp only); (try k_lt l0); (try k_fold))
  k_steps
  · exfalso; (first | lia | omega)
  · exact hret _ _ _ _ ⟨_, _, _, _, _, _, _, _, _, rfl, rfl, by assumption, by assumption, by assumption, by assumption, by assumption⟩ (Fr.keep (by k_asm)) (out (by k_asm))
end Mine
theorem Mine.rows2_1 : True := by
  (k_with "call ref" => (k_here; (with_reducible show wpAny _ _ (call (Value.ref 70) [Value.int _ _, Value.int _ _]) _ _ _); k_dflt (refine' Mine.useQ (Mine.idm_pos _ _ _ _ _ ?zz_h1 ?zz_h2 ?zz_h3 _ _ _ _ _ _ ?zz_t44 ?zz_t51 ?zz_d1 ?zz_d2 ?zz_d3) ?zz_cN ?zz_p1 ?zz_p2 ?zz_p3 ?zz_p4 ?zz_cB ?zz_cF ?zz_cX ?zz_cT ?zz_cf ?zz_ck ?zz_cd ?zz_cdp ?zz_cun ?_; (case zz_cN => k_asm); (case zz_p1 => repeat' (first | exact Mine.Pick.head | refine' Mine.Pick.tail ?_)); (case zz_t44 => assumption); (case zz_p2 => repeat' (first | exact Mine.Pick.head | refine' Mine.Pick.tail ?_)); (case zz_p3 => repeat' (first | exact Mine.Pick.head | refine' Mine.Pick.tail ?_)); (case zz_t51 => assumption); (case zz_p4 => repeat' (first | exact Mine.Pick.head | refine' Mine.Pick.tail ?_)); (case zz_cB => k_asm); (case zz_cF => k_asm); (case zz_cX => k_asm); (case zz_cT => k_asm); (case zz_cf => exact rfl); (case zz_ck => exact rfl); (case zz_cdp => ktr_room); (case zz_cun => ktr_units); (case zz_h1 => first | assumption | (first | lia | omega)); (case zz_h2 => first | assumption | (first | lia | omega)); (case zz_h3 => first | assumption | (first | lia | omega)); (case zz_d1 => k_ne); (case zz_d2 => k_ne); (case zz_d3 => k_ne); (case zz_cd => repeat' (first | exact List.forall_mem_nil _ | (refine' List.forall_mem_cons.mpr ⟨?_, ?_⟩) | k_ne)); k_whole); intro _ _ _ _ _ _ _ _ _ _ _ _ _ _ _ _ _ _ D1' D2' D3'; (try simp only [List.cons_append, List.nil_append, List.forall_mem_cons, List.forall_mem_nil, and_true] at D1' D2' D3'); (repeat (obtain ⟨_, D1'⟩ := D1')); (repeat (obtain ⟨_, D2'⟩ := D2')); (repeat (obtain ⟨_, D3'⟩ := D3'))))
  trivial
namespace Mine
theorem idm_neg (w : World) (a b : Nat) (ta tb : Tok) (ha : a < 2 ^ 48) (hb : 0 < b) (hb2 : b < 2 ^ 14)
    (p44 p51 : Array Value) (c44 c51 : Addr) (o44 o51 : Obj) (h44 : T44 p44 c44 o44) (h51 : T51 p51 c51 o51) (d1 : c44 ≠ 51) (d2 : c51 ≠ 44) (d3 : c44 ≠ c51) :
    C3 w 70 88 720 [(44, tabObj p44), (c44, o44), (51, tabObj p51), (c51, o51)] [.int (-((a : Int) + 1)) ta, .int b tb] (IdmPost (-((a / b : Nat) : Int) - 1) ((b : Int) + (-((a % b : Nat) : Int) - 1))) := by
  have i1 : Is (Builtin.bitNot (-((a : Int) + 1))) (a : Int) := by unfold Is Builtin.bitNot; (first | lia | omega)
  have i2 : Is (Builtin.bitNot ((a / b : Nat) : Int)) (-((a / b : Nat) : Int) - 1) := rfl
  have i3 : Is (Builtin.bitNot ((a % b : Nat) : Int)) (-((a % b : Nat) : Int) - 1) := rfl
  intro p loose mean mg mb dp un gd fr base g s R B X T st sz N hd hu hret
  k_dflt (refine' enterP ?k1 ?kst ?ksz ?kN ?kX ?kT ?k6 ?k7 ?k8 ?k9 ?kB ?_ ?c2 ?c3 ?c4 ?c5; (case k1 => exact B); (case kst => exact st); (case ksz => exact sz); (case kN => exact N); (case kX => exact X); (case kT => exact T); (case k6 => k_is); (case k7 => k_is); (case k8 => first | exact Mine.rm0 (by assumption) | ktr_room); (case k9 => exact BindsTo.of_eq rfl); (case c5 => decide); (case kB => exact locs rfl); (case c2 => exact rfl); (case c3 => exact rfl); (case c4 => exact rfl); k_whole; intro L' h' F' N' l0; (try dsimp only); (try k_lt l0); (try k_fold))
  k_steps
  · exfalso; (first | lia | omega)
  k_dflt (refine' hret _ _ _ _ ⟨_, _, _, _, _, _, _, _, _, rfl, rfl, ?t44, ?t51, ?e1, ?e2, ?e3⟩ (Fr.keep ?F) (outS ?N (List.forall_mem_cons.mpr ⟨?m1, List.forall_mem_cons.mpr ⟨?m2, List.forall_mem_cons.mpr ⟨?m3, List.forall_mem_cons.mpr ⟨?m4, List.forall_mem_cons.mpr ⟨?m5, List.forall_mem_nil _⟩⟩⟩⟩⟩)); (case F => k_asm); (case N => k_asm); (case m1 => k_mem); (case m2 => k_mem); (case m4 => k_mem); (case t44 => assumption); (case t51 => assumption); (case m3 => k_mem); (case m5 => k_mem); (case e1 => k_ne); (case e2 => k_ne); (case e3 => k_ne))

end Mine
namespace Mine
noncomputable def Halt (P : Prop) : Prop := P
theorem halt {P : Prop} (h : Halt P) : P := h
theorem goOn {P : Prop} (h : P) : Halt P := h
end Mine
namespace Mine
section
variable {prog : Program} {w : World} {A : Around} {E : Value → Shared → Prop} {Q : Flow → Shared → Prop} {s : Shared} {env : Env} {h₀ : Heap} {L : Addr}
noncomputable def WEnd {σ : Type} (h₀ : Heap) (L : Addr) (s : Shared) (Led : σ → List (Addr × Obj)) (ps : σ → List (Str × Value)) (P : σ → Prop) (μ : σ → Nat) (c : σ) (s₂ : Shared) : Prop :=
  ∃ (c' : σ) (h' : Heap) (tk : Nat) (m' : Str → Option Value) (news' : List (Addr × Obj)), s₂ = { s with heap := h', toks := tk } ∧ Fr h₀ L h' m' ∧ News h₀ L h' news' ∧ (∀ p ∈ Led c', p ∈ news') ∧ (∀ p ∈ ps c', m' p.1 = some p.2) ∧ P c' ∧ μ c' < μ c
noncomputable def WPost {σ : Type} (h₀ : Heap) (L : Addr) (s : Shared) (Led : σ → List (Addr × Obj)) (ps : σ → List (Str × Value)) (P : σ → Prop) (μ : σ → Nat) (Q : Flow → Shared → Prop) (c : σ) (f : Flow) (s₂ : Shared) : Prop :=
  match f with
  | .ret v => Q (.ret v) s₂
  | .brk => Q .next s₂
  | _ => WEnd h₀ L s Led ps P μ c s₂
theorem wEnd {σ : Type} {h₀ : Heap} {L : Addr} {s : Shared} {Led : σ → List (Addr × Obj)} {ps : σ → List (Str × Value)} {P : σ → Prop} {μ : σ → Nat} {c : σ} {h' : Heap} {tk : Nat} {m' : Str → Option Value} {news' : List (Addr × Obj)} (c' : σ)
    (F : Fr h₀ L h' m') (N : News h₀ L h' news') (hk : ∀ p ∈ ps c', m' p.1 = some p.2) (hn : ∀ p ∈ Led c', p ∈ news') (hp : P c') (hm : μ c' < μ c) : WPost h₀ L s Led ps P μ Q c .next { s with heap := h', toks := tk } :=
  ⟨c', h', tk, m', news', rfl, F, N, hn, hk, hp, hm⟩
theorem whileS {σ : Type} {test : Expr} {body : List Stmt} {pos : Pos} {m₀ : Str → Option Value} (Led : σ → List (Addr × Obj)) (ps : σ → List (Str × Value)) (P : σ → Prop) (μ : σ → Nat) (c₀ : σ)
    (F : Fr h₀ L s.heap m₀) (N : News h₀ L s.heap (Led c₀)) (hk : ∀ p ∈ ps c₀, m₀ p.1 = some p.2) (hp : P c₀)
    (turn : ∀ (c : σ) (u : Str → Option Value) h tk, P c → Fr h₀ L h (kstB u (ps c)) → News h₀ L h (Led c) →
      wpAny (model prog w) A (isTrue test env (eval test env)) (fun b s₂ =>
        if b = true then wpAny (model prog w) A (execs body env) (WPost h₀ L s Led ps P μ Q c) E s₂ else Q .next s₂) E { s with heap := h, toks := tk })
    (hE : PassesOwn (model prog w) A env E := by passes_own) :
    wpAny (model prog w) A (exec (.While test body [] pos) env) Q E s := by
  refine While_inv2 (fun n m nx => ∃ c : σ, nx = Led c ∧ μ c = n ∧ (∀ p ∈ ps c, m p.1 = some p.2) ∧ P c) F N ⟨c₀, rfl, rfl, hk, hp⟩ ?_ hE
  rintro n m₁ nx h tk F₁ N₁ ⟨c, hnx, hsz, h1, hp'⟩
  rw [hnx] at N₁
  rw [← hsz]
  refine wpAny_mono (turn c m₁ h tk hp' (by rw [kstB_self h1]; exact F₁) N₁) (fun b s₂ p => ?_) fun _ _ x => x
  cases b with
  | false => simpa using p
  | true =>
    simp only [if_true] at p ⊢
    refine wpAny_mono p (fun f s₃ q => ?_) fun _ _ x => x
    cases f with
    | ret v => exact q
    | brk => exact q
    | next =>
      obtain ⟨c', h', tk', m', news', rfl, F', N', hn, hk9, hp9, hm9⟩ := q
      exact ⟨h', tk', m', Led c', μ c', rfl, F', fun p hp => N' p (hn p hp), hm9, c', rfl, rfl, hk9, hp9⟩
    | cont =>
      obtain ⟨c', h', tk', m', news', rfl, F', N', hn, hk9, hp9, hm9⟩ := q
      exact ⟨h', tk', m', Led c', μ c', rfl, F', fun p hp => N' p (hn p hp), hm9, c', rfl, rfl, hk9, hp9⟩
end
end Mine
namespace Mine
section
variable {prog : Program} {w : World} {A : Around} {E : Value → Shared → Prop} {Q : Flow → Shared → Prop} {s : Shared} {env : Env} {h₀ : Heap} {L : Addr}
noncomputable def WExit {σ : Type} (h₀ : Heap) (L : Addr) (s : Shared) (Led : σ → List (Addr × Obj)) (ps : σ → List (Str × Value)) (Pe : σ → Prop) (c : σ) (s₂ : Shared) : Prop :=
  ∃ (h' : Heap) (tk : Nat) (m' : Str → Option Value) (news' : List (Addr × Obj)), s₂ = { s with heap := h', toks := tk } ∧ Fr h₀ L h' m' ∧ News h₀ L h' news' ∧ (∀ p ∈ Led c, p ∈ news') ∧ (∀ p ∈ ps c, m' p.1 = some p.2) ∧ Pe c
theorem wExit {σ : Type} {Led : σ → List (Addr × Obj)} {ps : σ → List (Str × Value)} {Pe : σ → Prop} {c : σ} {h' : Heap} {tk : Nat} {m' : Str → Option Value} {news' : List (Addr × Obj)}
    (F : Fr h₀ L h' m') (N : News h₀ L h' news') (hk : ∀ p ∈ ps c, m' p.1 = some p.2) (hn : ∀ p ∈ Led c, p ∈ news') (hp : Pe c) : WExit h₀ L s Led ps Pe c { s with heap := h', toks := tk } :=
  ⟨h', tk, m', news', rfl, F, N, hn, hk, hp⟩
theorem whileX {σ : Type} {test : Expr} {body : List Stmt} {pos : Pos} {m₀ : Str → Option Value} (Led : σ → List (Addr × Obj)) (ps : σ → List (Str × Value)) (P Pe : σ → Prop) (μ : σ → Nat) (c₀ : σ)
    (F : Fr h₀ L s.heap m₀) (N : News h₀ L s.heap (Led c₀)) (hk : ∀ p ∈ ps c₀, m₀ p.1 = some p.2) (hp : P c₀)
    (turn : ∀ (c : σ) (u : Str → Option Value) h tk, P c → Fr h₀ L h (kstB u (ps c)) → News h₀ L h (Led c) →
      wpAny (model prog w) A (isTrue test env (eval test env)) (fun b s₂ =>
        if b = true then wpAny (model prog w) A (execs body env) (WPost h₀ L s Led ps P μ (fun _ _ => False) c) E s₂ else WExit h₀ L s Led ps Pe c s₂) E { s with heap := h, toks := tk })
    (done : ∀ (c : σ) (u : Str → Option Value) h tk, Pe c → Fr h₀ L h (kstB u (ps c)) → News h₀ L h (Led c) → Q .next { s with heap := h, toks := tk })
    (hE : PassesOwn (model prog w) A env E := by passes_own) :
    wpAny (model prog w) A (exec (.While test body [] pos) env) Q E s := by
  refine whileS Led ps P μ c₀ F N hk hp (fun c u h tk hP F1 N1 => ?_) hE
  refine wpAny_mono (turn c u h tk hP F1 N1) (fun b s₂ p => ?_) fun _ _ x => x
  cases b with
  | true =>
    simp only [if_true] at p ⊢
    refine wpAny_mono p (fun f s₃ q => ?_) fun _ _ x => x
    cases f with
    | ret v => exact q.elim
    | brk => exact q.elim
    | next => exact q
    | cont => exact q
  | false =>
    simp only [Bool.false_eq_true, if_false] at p ⊢
    obtain ⟨h', tk', m', news', rfl, F', N', hn, hk', hp'⟩ := p
    exact done c m' h' tk' hp' (by rw [kstB_self hk']; exact F') fun q hq => N' q (hn q hq)
end
end Mine
namespace Mine
theorem whileK {prog : Program} {w : World} {A : Around} {E : Value → Shared → Prop} {Q : Flow → Shared → Prop} {s : Shared} {env : Env} {h₀ : Heap} {L : Addr} {σ : Type} {test : Expr} {body : List Stmt} {pos : Pos} {m₀ : Str → Option Value} (news : List (Addr × Obj)) (nx : Str) (val : σ → Value) (pcs : List (Str × Value)) (P Pe : σ → Prop) (μ : σ → Nat) (c₀ : σ)
    (F : Fr h₀ L s.heap m₀) (N : News h₀ L s.heap news) (hx : m₀ nx = some (val c₀)) (hk : ∀ p ∈ pcs, m₀ p.1 = some p.2) (hp : P c₀)
    (turn : ∀ (c : σ) (u : Str → Option Value) h tk, P c → Fr h₀ L h (kstB u ((nx, val c) :: pcs)) → News h₀ L h news →
      wpAny (model prog w) A (isTrue test env (eval test env)) (fun b s₂ =>
        if b = true then wpAny (model prog w) A (execs body env) (WPost h₀ L s (fun _ => news) (fun c => (nx, val c) :: pcs) P μ (fun _ _ => False) c) E s₂ else WExit h₀ L s (fun _ => news) (fun c => (nx, val c) :: pcs) Pe c s₂) E { s with heap := h, toks := tk })
    (done : ∀ (c : σ) (u : Str → Option Value) h tk, Pe c → Fr h₀ L h (kstB u ((nx, val c) :: pcs)) → News h₀ L h news → Q .next { s with heap := h, toks := tk })
    (hE : PassesOwn (model prog w) A env E := by passes_own) :
    wpAny (model prog w) A (exec (.While test body [] pos) env) Q E s :=
  whileX (fun _ => news) (fun c => (nx, val c) :: pcs) P Pe μ c₀ F N (fun p hp => by
    rcases List.mem_cons.mp hp with rfl | hp
    · exact hx
    · exact hk p hp) hp turn done hE
end Mine
namespace Mine
noncomputable def S (l : List Nat) : Str := ⟨l.toArray⟩
theorem S_len (l : List Nat) : (S l).length = l.length := by show l.toArray.size = _; simp
theorem S_cps (l : List Nat) : (S l).cps.toList = l := rfl
theorem S_inj {a b : List Nat} : S a = S b ↔ a = b := by
  constructor
  · intro h; have := congrArg (fun z : Str => z.cps.toList) h; simpa [S] using this
  · rintro rfl; rfl
theorem slice_from (l : List Nat) (k : Nat) (h : k ≤ l.length) : Txt.slice (S l) (some (k : Int)) none = S (l.drop k) := by
  rw [slice_from_eq (b := ((l.length : Nat) : Int)) (Int.natCast_nonneg _) (by rw [S_len]; (first | lia | omega)) (by rw [S_len])]
  rw [S_cps, Int.toNat_natCast]
  unfold S
  congr 2
  rw [List.take_of_length_le (by rw [List.length_drop]; (first | lia | omega))]
theorem slice_all (l : List Nat) : Txt.slice (S l) none none = S l := by
  unfold Txt.slice
  rw [if_pos]
  have e : (Builtin.Str.strSliceIndices none none 1 (S l).length) = List.range (S l).length := by
    unfold Builtin.Str.strSliceIndices sliceRange
    simp only [show (1 : Int) > 0 by decide, if_true, Int.ediv_one]
    by_cases h : (0 : Int) < ((S l).length : Int)
    · rw [if_pos h]
      have : (((S l).length : Int) - 0 + 1 - 1).toNat = (S l).length := by (first | lia | omega)
      rw [this]
      conv => rhs; rw [← List.map_id (List.range (S l).length)]
      apply List.map_congr_left
      intro a _
      simp
    · rw [if_neg h]
      have : (S l).length = 0 := by (first | lia | omega)
      rw [this]; rfl
  rw [e]
  simp
theorem slice_neg (l : List Nat) (j : Nat) (h0 : 0 < j) (h : j ≤ l.length) : Txt.slice (S l) none (some (-(j : Int))) = S (l.take (l.length - j)) := by
  have e : Builtin.Str.strSliceIndices none (some (-(j : Int))) 1 (S l).length = Builtin.Str.strSliceIndices none (some (((l.length - j : Nat) : Int))) 1 (S l).length := by
    unfold Builtin.Str.strSliceIndices
    rw [S_len]
    have h1 : (-(j : Int)) < 0 := by (first | lia | omega)
    have h2 : ¬ (((l.length - j : Nat) : Int) < 0) := by (first | lia | omega)
    have h3 : -(j : Int) + (l.length : Nat) = ((l.length - j : Nat) : Int) := by (first | lia | omega)
    simp only [h1, h2, if_true, if_false, h3]
  have e2 : Txt.slice (S l) none (some (-(j : Int))) = Txt.slice (S l) none (some (((l.length - j : Nat) : Int))) := by
    unfold Txt.slice
    rw [e]
  rw [e2]
  have := slice_closes_toL (x := S l) (j := ((l.length - j : Nat) : Int)) (Int.natCast_nonneg _) (by rw [S_len]; (first | lia | omega))
  rw [eq_of_beq this, S_cps]
  simp [S]
theorem item_at (l : List Nat) (k : Nat) (h : k < l.length) : Txt.item (S l) (k : Int) = S [l.getD k 0] := by
  unfold Txt.item Txt.charAt
  rw [S_len]
  have e : seqIndex? (k : Int) l.length = some k := by
    unfold seqIndex?
    have h1 : ¬ ((k : Int) < 0) := by (first | lia | omega)
    simp only [h1, if_false]
    rw [if_pos (by simp; (first | lia | omega))]
    simp
  rw [e]
  simp [S, List.getD, h]
theorem item_neg (l : List Nat) (j : Nat) (h : j < l.length) : Txt.item (S l) (-(j : Int) - 1) = S [l.getD (l.length - 1 - j) 0] := by
  unfold Txt.item Txt.charAt
  rw [S_len]
  have e : seqIndex? (-(j : Int) - 1) l.length = some (l.length - 1 - j) := by
    unfold seqIndex?
    have h1 : (-(j : Int) - 1) < 0 := by (first | lia | omega)
    simp only [h1, if_true]
    rw [if_pos (by simp; (first | lia | omega))]
    congr 1
    (first | lia | omega)
  rw [e]
  have : l.length - 1 - j < l.length := by (first | lia | omega)
  simp [S, List.getD, this]
section
variable {prog : Program} {w : World} {A : Around} {E : Value → Shared → Prop} {s : Shared} {h₀ : Heap} {L : Addr} {m : Str → Option Value} {news : List (Addr × Obj)} {value slice : PySem.Expr} {xs ys : List Nat} {k j : Nat} {t u : Tok} {Q : Value → Shared → Prop}
theorem sFrom (F : Fr h₀ L s.heap m) (N : News h₀ L s.heap news) (hk : k ≤ xs.length) (hl : xs.length ≤ 1000)
    (h : ∀ h' t' tk, Fr h₀ L h' m → News h₀ L h' news → Q (.str (S (xs.drop k)) t') { s with heap := h', toks := tk })
    (hs : subscripted slice false (.str (S xs) t) (.ref s.heap.objs.size) = operate [.ref s.heap.objs.size, .str (S xs) t] (getItem (.str (S xs) t) (.ref s.heap.objs.size)))
    (ht : ∀ r, letTemporaryGo value (.str (S xs) t) r = pure ()) :
    wpAny (model prog w) A (subscriptTail value slice (.str (S xs) t) (.ref s.heap.objs.size)) Q E { s with heap := s.heap.push { cls := .type "slice", data := .fields #[.int (k : Int) u, .none, .none] } } :=
  slice_strN_sn F N (fun h' t' tk F' N' => by rw [slice_from xs k hk]; exact h h' t' tk F' N') hs ht (by rw [S_len]; unfold sizeLine; (first | lia | omega))
theorem sAll (F : Fr h₀ L s.heap m) (N : News h₀ L s.heap news) (hl : xs.length ≤ 1000)
    (h : ∀ h' t' tk, Fr h₀ L h' m → News h₀ L h' news → Q (.str (S xs) t') { s with heap := h', toks := tk })
    (hs : subscripted slice false (.str (S xs) t) (.ref s.heap.objs.size) = operate [.ref s.heap.objs.size, .str (S xs) t] (getItem (.str (S xs) t) (.ref s.heap.objs.size)))
    (ht : ∀ r, letTemporaryGo value (.str (S xs) t) r = pure ()) :
    wpAny (model prog w) A (subscriptTail value slice (.str (S xs) t) (.ref s.heap.objs.size)) Q E { s with heap := s.heap.push { cls := .type "slice", data := .fields #[.none, .none, .none] } } :=
  slice_strN_nn F N (fun h' t' tk F' N' => by rw [slice_all]; exact h h' t' tk F' N') hs ht (by rw [S_len]; unfold sizeLine; (first | lia | omega))
theorem sNeg (F : Fr h₀ L s.heap m) (N : News h₀ L s.heap news) (h0 : 0 < j) (hj : j ≤ xs.length) (hl : xs.length ≤ 1000)
    (h : ∀ h' t' tk, Fr h₀ L h' m → News h₀ L h' news → Q (.str (S (xs.take (xs.length - j))) t') { s with heap := h', toks := tk })
    (hs : subscripted slice false (.str (S xs) t) (.ref s.heap.objs.size) = operate [.ref s.heap.objs.size, .str (S xs) t] (getItem (.str (S xs) t) (.ref s.heap.objs.size)))
    (ht : ∀ r, letTemporaryGo value (.str (S xs) t) r = pure ()) :
    wpAny (model prog w) A (subscriptTail value slice (.str (S xs) t) (.ref s.heap.objs.size)) Q E { s with heap := s.heap.push { cls := .type "slice", data := .fields #[.none, .int (-(j : Int)) u, .none] } } :=
  slice_strN_ns F N (fun h' t' tk F' N' => by rw [slice_neg xs j h0 hj]; exact h h' t' tk F' N') hs ht (by rw [S_len]; unfold sizeLine; (first | lia | omega))
theorem sItem (hk : k < xs.length) (hl : xs.length ≤ 1000) (h : ∀ t' tk, Q (.str (S [xs.getD k 0]) t') { s with toks := tk })
    (hs : subscripted slice false (.str (S xs) t) (.int (k : Int) u) = operate [.str (S xs) t, .int (k : Int) u] (getItem (.str (S xs) t) (.int (k : Int) u)))
    (ht : ∀ r, letTemporaryGo value (.str (S xs) t) r = pure ()) :
    wpAny (model prog w) A (subscriptTail value slice (.str (S xs) t) (.int (k : Int) u)) Q E s :=
  item_str (by simp [fitsSsize]; (first | lia | omega)) (by rw [S_len]; (first | lia | omega)) (by rw [S_len]; (first | lia | omega)) (fun _ => by rw [item_at xs k hk]; exact h _ _) hs ht
theorem sItemN (hk : j < xs.length) (hl : xs.length ≤ 1000) (h : ∀ t' tk, Q (.str (S [xs.getD (xs.length - 1 - j) 0]) t') { s with toks := tk })
    (hs : subscripted slice false (.str (S xs) t) (.int (-(j : Int) - 1) u) = operate [.str (S xs) t, .int (-(j : Int) - 1) u] (getItem (.str (S xs) t) (.int (-(j : Int) - 1) u)))
    (ht : ∀ r, letTemporaryGo value (.str (S xs) t) r = pure ()) :
    wpAny (model prog w) A (subscriptTail value slice (.str (S xs) t) (.int (-(j : Int) - 1) u)) Q E s :=
  item_str (by simp [fitsSsize]; (first | lia | omega)) (by rw [S_len]; (first | lia | omega)) (by rw [S_len]; (first | lia | omega)) (fun _ => by rw [item_neg xs j hk]; exact h _ _) hs ht
theorem sTruthy {Q : Bool → Shared → Prop} (hl : xs.length ≤ 1000) (h : ∀ tk, Q (decide (0 < xs.length)) { s with toks := tk }) : wpAny (model prog w) A (truthy (.str (S xs) t)) Q E s :=
  PySem.P.truthy_str (by rw [S_len]; (first | lia | omega)) (by
    have e : (((S xs).length : Int) != 0) = decide (0 < xs.length) := by
      rw [S_len]
      cases xs with
      | nil => rfl
      | cons a r => simp; (first | lia | omega)
    rw [e]; exact h _)
theorem sEq (h : Q (.bool (decide (xs = ys))) s) : wpAny (model prog w) A (compareOp .Eq (.str (S xs) t) (.str (S ys) u)) Q E s :=
  PySem.P.eq_str (by
    have e : ((S xs).cps.toList == (S ys).cps.toList) = decide (xs = ys) := by rw [S_cps, S_cps]; by_cases h : xs = ys <;> simp [h]
    rw [e]; exact h)
theorem sLen (hl : xs.length ≤ 1000) (h : ∀ t' tk, Q (.int (xs.length : Nat) t') { s with toks := tk }) : wpAny (model prog w) A (call (.builtin "len") [.str (S xs) t]) Q E s :=
  PyProof.Rows.len_str (by rw [S_len]; (first | lia | omega)) (by rw [S_len]; exact h _ _)
end
end Mine
namespace Mine
noncomputable def orNone (j : Nat) (t : Tok) : Value := if j = 0 then .none else .int (-(j : Int)) t
section
variable {prog : Program} {w : World} {A : Around} {E : Value → Shared → Prop} {s : Shared} {h₀ : Heap} {L a : Addr} {m : Str → Option Value} {news : List (Addr × Obj)} {value slice : PySem.Expr} {xs : List Nat} {j k2 : Nat} {t u : Tok} {Q : Value → Shared → Prop} {cn : Str} {cs : Scope} {ccd : Value} {x : Str} {p1 p2 p3 : Pos}
theorem evalOrNone (F : Fr h₀ L s.heap m) (hv : m x = some (.int (-(j : Int)) t)) (h : Q (orNone j t) s)
    (hk : cs.kind = .function) (hl : (envOf cn cs L a ccd).kindOf x = some .local) (hd : (x == ("__debug__" : Str)) = false) :
    wpAny (model prog w) A (eval (.BoolOp .Or [.Name x p1, .Constant .none k2 p2] p3) (envOf cn cs L a ccd)) Q E s := by
  refine PyProof.Rows.BoolOp_or (ld F hv ?_ hk hl hd)
  refine PyProof.Rows.truthy_int ?_
  by_cases hj : j = 0
  · subst hj
    have e : ((-((0 : Nat) : Int)) != 0) = false := rfl
    rw [e]
    simp only [Bool.false_eq_true, if_false]
    refine PyProof.Rows.BoolOp_one (wpAny_Constant_none ?_)
    simpa [orNone] using h
  · have e : ((-(j : Int)) != 0) = true := by simp; (first | lia | omega)
    rw [e]
    simp only [if_true]
    simpa [orNone, hj] using h
theorem sOr (F : Fr h₀ L s.heap m) (N : News h₀ L s.heap news) (hj : j ≤ xs.length) (hl : xs.length ≤ 1000)
    (h : ∀ h' t' tk, Fr h₀ L h' m → News h₀ L h' news → Q (.str (S (xs.take (xs.length - j))) t') { s with heap := h', toks := tk })
    (hs : subscripted slice false (.str (S xs) t) (.ref s.heap.objs.size) = operate [.ref s.heap.objs.size, .str (S xs) t] (getItem (.str (S xs) t) (.ref s.heap.objs.size)))
    (ht : ∀ r, letTemporaryGo value (.str (S xs) t) r = pure ()) :
    wpAny (model prog w) A (subscriptTail value slice (.str (S xs) t) (.ref s.heap.objs.size)) Q E { s with heap := s.heap.push { cls := .type "slice", data := .fields #[.none, orNone j u, .none] } } := by
  unfold orNone
  by_cases h0 : j = 0
  · subst h0
    rw [if_pos rfl]
    refine sAll F N hl (fun h' t' tk F' N' => ?_) hs ht
    have := h h' t' tk F' N'
    rwa [Nat.sub_zero, List.take_length] at this
  · rw [if_neg h0]
    exact sNeg F N (Nat.pos_of_ne_zero h0) hj hl h hs ht
theorem sItemM (h0 : 0 < j) (hj : j ≤ xs.length) (hl : xs.length ≤ 1000) (h : ∀ t' tk, Q (.str (S [xs.getD (xs.length - j) 0]) t') { s with toks := tk })
    (hs : subscripted slice false (.str (S xs) t) (.int (-(j : Int)) u) = operate [.str (S xs) t, .int (-(j : Int)) u] (getItem (.str (S xs) t) (.int (-(j : Int)) u)))
    (ht : ∀ r, letTemporaryGo value (.str (S xs) t) r = pure ()) :
    wpAny (model prog w) A (subscriptTail value slice (.str (S xs) t) (.int (-(j : Int)) u)) Q E s := by
  obtain ⟨i, rfl⟩ : ∃ i, j = i + 1 := ⟨j - 1, by (first | lia | omega)⟩
  have e : (-((i + 1 : Nat) : Int)) = -(i : Int) - 1 := by (first | lia | omega)
  rw [e] at hs ⊢
  refine sItemN (by (first | lia | omega)) hl (fun t' tk => ?_) hs ht
  have := h t' tk
  rwa [show xs.length - (i + 1) = xs.length - 1 - i from by (first | lia | omega)] at this
theorem isubIs {a b v : Int} (e : Is (a - b) v) (h : Q (.int v s.toks) { s with toks := s.toks + 1 }) : wpAny (model prog w) A (inplaceOp .Sub (.int a t) (.int b u)) Q E s := PyProof.Rows.isub_int (by rw [show a - b = v from e]; exact h)
end
end Mine
namespace Mine
noncomputable def preLen : List Nat → List Nat → Nat
  | a :: r, b :: t => if a = b then preLen r t + 1 else 0
  | _, _ => 0
theorem preLen_nil_r (l : List Nat) : preLen l [] = 0 := by cases l <;> rfl
theorem preLen_step {xs ys : List Nat} {k : Nat} (h1 : k < xs.length) (h2 : k < ys.length) (h : [xs.getD k 0] = [ys.getD k 0]) : preLen (xs.drop k) (ys.drop k) = 1 + preLen (xs.drop (k + 1)) (ys.drop (k + 1)) := by
  rw [List.drop_eq_getElem_cons h1, List.drop_eq_getElem_cons h2]
  simp [List.getD, h1, h2] at h
  simp [preLen, h]
  (first | lia | omega)
theorem preLen_stop {xs ys : List Nat} {k : Nat} (h1 : k < xs.length) (h2 : k < ys.length) (h : ¬ [xs.getD k 0] = [ys.getD k 0]) : preLen (xs.drop k) (ys.drop k) = 0 := by
  rw [List.drop_eq_getElem_cons h1, List.drop_eq_getElem_cons h2]
  simp [List.getD, h1, h2] at h
  simp [preLen, h]
theorem preLen_end1 {xs ys : List Nat} {k : Nat} (h1 : ¬ 0 < (xs.drop k).length) : preLen (xs.drop k) (ys.drop k) = 0 := by
  have : xs.drop k = [] := by cases h : xs.drop k <;> simp_all
  rw [this]; rfl
theorem preLen_end2 {xs ys : List Nat} {k : Nat} (h1 : ¬ 0 < (ys.drop k).length) : preLen (xs.drop k) (ys.drop k) = 0 := by
  have : ys.drop k = [] := by cases h : ys.drop k <;> simp_all
  rw [this]; exact preLen_nil_r _
end Mine
namespace Mine
noncomputable def costN (c d : Nat) : Int := subCost (S [c]) (S [d])
noncomputable def innerGo (c : Nat) : List Nat → List Int → Int → Int → Int → List Int × Int × Int
  | a :: as, r :: rs, dist, res, mn =>
    let res' := min (min res r + 2) (dist + costN c a)
    let g := innerGo c as rs r res' (if res' < mn then res' else mn)
    (res' :: g.1, g.2)
  | _, _, _, res, mn => ([], res, mn)
noncomputable def outerGo (al : List Nat) (mc : Int) : List Nat → List Int → Int → Int → Int
  | [], _, res, _ => res
  | c :: bs, row, _, bi =>
    let g := innerGo c al row (bi * 2) (bi * 2) 9223372036854775807
    if mc < g.2.2 then mc + 1 else outerGo al mc bs g.1 g.2.1 (bi + 1)
noncomputable def levDP (al bl : List Nat) (mc : Int) : Int := outerGo al mc bl ((List.range al.length).map fun i : Nat => (2 * ((i : Int) + 1))) 0 0
noncomputable def lev2 (al bl : List Nat) (mc : Int) : Int := if mc < ((bl.length : Int) - al.length) * 2 then mc + 1 else levDP al bl mc
noncomputable def lev1 (al bl : List Nat) (mc : Int) : Int :=
  if ¬ 0 < al.length then 2 * ((al.length : Int) + bl.length)
  else if ¬ 0 < bl.length then 2 * ((al.length : Int) + bl.length)
  else if 40 < (al.length : Int) then mc + 1
  else if 40 < (bl.length : Int) then mc + 1
  else if (bl.length : Int) < al.length then lev2 bl al mc else lev2 al bl mc
noncomputable def cutEnd (al bl : List Nat) : List Nat := al.take (al.length - preLen al.reverse bl.reverse)
noncomputable def cutEnd2 (al bl : List Nat) : List Nat := bl.take (bl.length - preLen al.reverse bl.reverse)
noncomputable def lev (xs ys : List Nat) (mc : Int) : Int :=
  if xs = ys then 0
  else lev1 (cutEnd (xs.drop (preLen xs ys)) (ys.drop (preLen xs ys))) (cutEnd2 (xs.drop (preLen xs ys)) (ys.drop (preLen xs ys))) mc
theorem rev_get {l : List Nat} {j : Nat} (h : j < l.length) : l.getD (l.length - (j + 1)) 0 = l.reverse.getD j 0 := by
  simp [List.getD, List.getElem?_reverse h, show l.length - (j + 1) = l.length - 1 - j from by (first | lia | omega)]
noncomputable def SwapJ (g : Heap) (L : Addr) (s : Shared) (target mc : Int) (tm : Tok) (s' : Shared) : Prop :=
  ∃ (al bl : List Nat) (ta tb : Tok) (h' : Heap) (tk : Nat) (u : Str → Option Value), s' = { s with heap := h', toks := tk } ∧ Fr g L h' (kstB u [("a", .str (S al) ta), ("b", .str (S bl) tb), ("max_cost", .int mc tm)]) ∧ al.length ≤ bl.length ∧ bl.length ≤ 40 ∧ 0 < al.length ∧ target = lev2 al bl mc
theorem swJ {g : Heap} {L : Addr} {s : Shared} {target mc : Int} {tm : Tok} {h' : Heap} {tk : Nat} {m' : Str → Option Value} {al bl : List Nat} {ta tb : Tok} (F : Fr g L h' m') (hk : ∀ p ∈ [(("a" : Str), Value.str (S al) ta), ("b", .str (S bl) tb), ("max_cost", .int mc tm)], m' p.1 = some p.2)
    (h1 : al.length ≤ bl.length) (h2 : bl.length ≤ 40) (h3 : 0 < al.length) (h4 : target = lev2 al bl mc) : SwapJ g L s target mc tm { s with heap := h', toks := tk } :=
  ⟨al, bl, ta, tb, h', tk, m', rfl, by rw [kstB_self hk]; exact F, h1, h2, h3, h4⟩
theorem lev1_a {al bl : List Nat} {mc target : Int} (e : target = lev1 al bl mc) (h : ¬ 0 < al.length) : 2 * ((al.length : Int) + bl.length) = target := by rw [e]; exact (if_pos h).symm
theorem lev1_b {al bl : List Nat} {mc target : Int} (e : target = lev1 al bl mc) (h : 0 < al.length) (h' : ¬ 0 < bl.length) : 2 * ((al.length : Int) + bl.length) = target := by
  rw [e]; unfold lev1; rw [if_neg (fun z => z h), if_pos h']
theorem lev1_c {al bl : List Nat} {mc target : Int} (e : target = lev1 al bl mc) (h : 0 < al.length) (h' : 0 < bl.length) (h2 : 40 < (al.length : Int)) : mc + 1 = target := by
  rw [e]; unfold lev1; rw [if_neg (fun z => z h), if_neg (fun z => z h'), if_pos h2]
theorem lev1_d {al bl : List Nat} {mc target : Int} (e : target = lev1 al bl mc) (h : 0 < al.length) (h' : 0 < bl.length) (h2 : ¬ 40 < (al.length : Int)) (h3 : 40 < (bl.length : Int)) : mc + 1 = target := by
  rw [e]; unfold lev1; rw [if_neg (fun z => z h), if_neg (fun z => z h'), if_neg h2, if_pos h3]
theorem lev1_e {al bl : List Nat} {mc target : Int} (e : target = lev1 al bl mc) (h : 0 < al.length) (h' : 0 < bl.length) (h2 : ¬ 40 < (al.length : Int)) (h3 : ¬ 40 < (bl.length : Int)) (h4 : (bl.length : Int) < al.length) : target = lev2 bl al mc := by
  rw [e]; unfold lev1; rw [if_neg (fun z => z h), if_neg (fun z => z h'), if_neg h2, if_neg h3, if_pos h4]
theorem lev1_f {al bl : List Nat} {mc target : Int} (e : target = lev1 al bl mc) (h : 0 < al.length) (h' : 0 < bl.length) (h2 : ¬ 40 < (al.length : Int)) (h3 : ¬ 40 < (bl.length : Int)) (h4 : ¬ (bl.length : Int) < al.length) : target = lev2 al bl mc := by
  rw [e]; unfold lev1; rw [if_neg (fun z => z h), if_neg (fun z => z h'), if_neg h2, if_neg h3, if_neg h4]
theorem lev2_a {al bl : List Nat} {mc : Int} (h : mc < ((bl.length : Int) - al.length) * 2) : mc + 1 = lev2 al bl mc := (if_pos h).symm
theorem lev2_b {al bl : List Nat} {mc : Int} (h : ¬ mc < ((bl.length : Int) - al.length) * 2) : lev2 al bl mc = levDP al bl mc := if_neg h
theorem ifJ {M : Model} {A : Around} {E : Value → Shared → Prop} {s : Shared} {env : Env} {t : Expr} {b : List Stmt} {pos : Pos} {Q : Flow → Shared → Prop} {J : Shared → Prop} (h : wpAny M A (exec (.If t b [] pos) env) (fun f s' => f = .next ∧ J s') E s) (k : ∀ s', J s' → Q .next s') :
    wpAny M A (exec (.If t b [] pos) env) Q E s := wpAny_mono h (fun f s' ⟨e, hj⟩ => e ▸ k s' hj) fun _ _ x => x
end Mine
namespace Mine
theorem ints_of_get : ∀ (vs : List Value) (ns : List Int), vs.length = ns.length → (∀ (j : Nat) (v : Value), vs[j]? = some v → ∃ t : Tok, v = Value.int (ns.getD j 0) t) → IntsAre vs ns
  | [], [], _, _ => .nil
  | v :: vs, n :: ns, hl, h => by
    obtain ⟨t, rfl⟩ := h 0 v rfl
    exact .cons _ _ (ints_of_get vs ns (by simpa using hl) fun j w hw => by simpa using h (j + 1) w (by simpa using hw))
theorem rsz (n : Nat) : Builtin.Range.rangeSize 0 (n : Int) 1 = (n : Int) := by
  unfold Builtin.Range.rangeSize
  simp only [show (1 : Int) > 0 by decide, if_true, Int.ediv_one]
  split <;> (first | lia | omega)
theorem rsm (n : Nat) (h : n < 2 ^ 30) : Builtin.Range.small 0 (n : Int) 1 = true := small_one (by (first | lia | omega)) (by (first | lia | omega)) (by (first | lia | omega)) (by (first | lia | omega))
theorem rsz2 (n : Nat) : Builtin.Range.rangeSize 2 (((2 * (n + 1) : Nat)) : Int) 2 = (n : Int) := by
  unfold Builtin.Range.rangeSize
  simp only [show (2 : Int) > 0 by decide, if_true]
  split <;> (first | lia | omega)
theorem rsmG {b n : Int} (hb : -(2 ^ 62) ≤ b) (hb' : b < 2 ^ 62) (hn : Builtin.Range.rangeSize 2 b 2 = n) (h0 : 0 ≤ n) (h1 : n < 2 ^ 62) : Builtin.Range.small 2 b 2 = true := by
  unfold Builtin.Range.small
  rw [hn]
  simp only [Builtin.Range.rangeFitsLong, Bool.and_eq_true, Bool.or_eq_true, decide_eq_true_eq, beq_iff_eq, show (2 : Int) > 0 by decide, if_true]
  (first | lia | omega)
theorem rsm2 (n : Nat) (h : n < 2 ^ 30) : Builtin.Range.small 2 (((2 * (n + 1) : Nat)) : Int) 2 = true :=
  rsmG (by (first | lia | omega)) (by (first | lia | omega)) (rsz2 n) (by (first | lia | omega)) (by (first | lia | omega))
section
variable {prog : Program} {w : World} {A : Around} {E : Value → Shared → Prop} {s : Shared} {env : Env} {h₀ : Heap} {L : Addr} {m : Str → Option Value} {news : List (Addr × Obj)} {x : Str} {body : List Stmt}
theorem rng1 {n : Nat} {t : Tok} {Q : Value → Shared → Prop} (F : Fr h₀ L s.heap m) (N : News h₀ L s.heap news)
    (h : ∀ r h' tk t₁ u₁ v₁, IsRange h' r 0 (n : Int) 1 t₁ u₁ v₁ → Fr h₀ L h' m → News h₀ L h' news → Q (.ref r) { s with heap := h', toks := tk }) :
    wpAny (model prog w) A (call (.type "range") [.int (n : Int) t]) Q E s := range1_rows F N fun h' tk t₁ u₁ v₁ R F' N' _ => h _ h' tk t₁ u₁ v₁ R F' N'
theorem rng3 {a b c : Int} {t u v : Tok} {Q : Value → Shared → Prop} (F : Fr h₀ L s.heap m) (N : News h₀ L s.heap news) (hc : c ≠ 0) (hc2 : c.natAbs < 1073741824)
    (h : ∀ r h' tk t₁ u₁ v₁, IsRange h' r a b c t₁ u₁ v₁ → Fr h₀ L h' m → News h₀ L h' news → Q (.ref r) { s with heap := h', toks := tk }) :
    wpAny (model prog w) A (call (.type "range") [.int a t, .int b u, .int c v]) Q E s := range3_rows F N hc (fun h' tk t₁ u₁ v₁ R F' N' _ => h _ h' tk t₁ u₁ v₁ R F' N') (.inl (PyProof.noPylong_small hc2))
theorem listRng2 {r : Addr} {n : Nat} {t u v : Tok} {Q : Value → Shared → Prop} (hh : A.handled = none) (F : Fr h₀ L s.heap m) (N : News h₀ L s.heap news) (hr : IsRange s.heap r 2 (((2 * (n + 1) : Nat)) : Int) 2 t u v) (hn : n ≤ 1000)
    (h : ∀ D us c h' tk, Fr h₀ L h' m → News h₀ L h' ((D, listOf (List.toArray us) c) :: news) → (∀ p ∈ news, p.1 < D) → IntsAre us ((List.range n).map fun i : Nat => (2 * ((i : Int) + 1))) → Q (.ref D) { s with heap := h', toks := tk }) :
    wpAny (model prog w) A (call (.type "list") [.ref r]) Q E s := by
  refine call_list_range hh hr (rsm2 n (by (first | lia | omega))) (rsz2 n) (by (first | lia | omega)) fun h' tk acc c hk hD hI => ?_
  have hD' : h'.get? s.heap.objs.size = some (listOf (List.toArray acc.toList) c) := by rw [Array.toArray_toList]; exact hD
  refine h _ acc.toList c h' tk (F.keeps hk) (news_pushed F N hk hD' rfl) (fun p hp => Heap.lt_size (N p hp).1) (ints_of_get _ _ (by simp [hI.1]) fun j v hj => ?_)
  obtain ⟨t', rfl⟩ := hI.2 j v (by rw [← hj, Array.getElem?_toList])
  have hjn : j < n := by
    have := (List.getElem?_eq_some_iff.mp hj).1
    rw [Array.length_toList, hI.1] at this
    exact this
  refine ⟨t', ?_⟩
  have : ((List.range n).map fun i : Nat => (2 * ((i : Int) + 1))).getD j 0 = 2 * ((j : Int) + 1) := by simp [List.getD, hjn]
  rw [this]
  congr 1
  (first | lia | omega)
theorem loopRng {σ : Type} {Q : Flow → Shared → Prop} {r : Addr} {n : Nat} {t u v : Tok} {m₀ : Str → Option Value} (Led : σ → List (Addr × Obj)) (ps : σ → List (Str × Value)) (P : Nat → σ → Prop) (c₀ : σ)
    (hh : A.handled = none) (hr : IsRange s.heap r 0 (n : Int) 1 t u v) (hn : n < 2 ^ 30) (F : Fr h₀ env.locals s.heap m₀) (N : News h₀ env.locals s.heap (Led c₀)) (hk : ∀ p ∈ ps c₀, m₀ p.1 = some p.2) (hp : P 0 c₀)
    (turn : ∀ i ti (c : σ) (u : Str → Option Value) h tk own, i < n → OwnOff own ((Led c₀).map (·.1)) → P i c → Fr h₀ env.locals h (fun y => if y = x then some (.int (i : Nat) ti) else kstB u (ps c) y) → News h₀ env.locals h (Led c ++ own) →
      wpAny (model prog w) A (execs body env) (InvPostN h₀ env.locals (LEnd h₀ env.locals Led ps (P (i + 1))) own ((Led c₀).map (·.1)) { s with heap := h, toks := tk } Q) E { s with heap := h, toks := tk })
    (done : ∀ (c : σ) (u : Str → Option Value) h tk, P n c → Fr h₀ env.locals h (kstB u (ps c)) → News h₀ env.locals h (Led c) → Q .next { s with heap := h, toks := tk }) :
    wpAny (model prog w) A (pyIter (.ref r)) (fun it s₂ => LoopAtV prog w A h₀ env x body Q E it s₂) E s := by
  refine wpAny_pyIter_range hr (rsm n hn) ?_
  have W : Walks prog w A s.heap.objs.size [s.heap.objs.size] [s.heap.objs.size] n (fun i v => i < n ∧ ∃ t, v = .int ((0 : Int) + i * 1) t)
      (fun i h => IsRangeIter h s.heap.objs.size (0 + (i : Nat) * 1) ((n : Int) - (i : Nat)) 1) := (Walks.range hh _ 0 1 n).bound
  refine loopS Led ps P c₀ W ?_ ?_ ?_ (by show IsRangeIter _ _ _ _ _; rw [rsz]; simpa using Heap.get?_push_size _ rfl) (F.push _) (fun p hp => ⟨Heap.get?_push_of_some _ (N p hp).1, (N p hp).2⟩) hk hp ?_ ?_
  · intro hm
    exact absurd F.ns.lt ((List.mem_singleton.mp hm) ▸ Nat.lt_irrefl _)
  · intro b hb
    rw [List.mem_singleton.mp hb]
    exact next_is_new F
  · intro p hp hI
    exact absurd (Heap.lt_size (N p hp).1) ((List.mem_singleton.mp hI) ▸ Nat.lt_irrefl _)
  · rintro i v c u h tk own hi ⟨_, t, rfl⟩ ho hP F₁ N₁
    have e1 : (0 : Int) + (i : Int) * 1 = ((i : Nat) : Int) := by (first | lia | omega)
    rw [e1] at F₁
    exact turn i t c u h tk own hi ho hP F₁ N₁
  · intro c u h tk hP F₁ N₁
    exact done c u h tk hP F₁ N₁
theorem min2 {a b : Int} {t u : Tok} {Q : Value → Shared → Prop} (hh : A.handled = none) (F : Fr h₀ L s.heap m) (N : News h₀ L s.heap news)
    (h : ∀ h' tk t', Fr h₀ L h' m → News h₀ L h' news → Q (.int (min a b) t') { s with heap := h', toks := tk }) :
    wpAny (model prog w) A (call (.builtin "min") [.int a t, .int b u]) Q E s := min_two_N hh F N fun h' tk F' N' => by
  have e : (if b < a then b else a) = min a b := by split <;> (first | lia | omega)
  rw [e]; exact h h' tk _ F' N'
theorem max2 {a b : Int} {t u : Tok} {Q : Value → Shared → Prop} (hh : A.handled = none) (F : Fr h₀ L s.heap m) (N : News h₀ L s.heap news)
    (h : ∀ h' tk t', Fr h₀ L h' m → News h₀ L h' news → Q (.int (max a b) t') { s with heap := h', toks := tk }) :
    wpAny (model prog w) A (call (.builtin "max") [.int a t, .int b u]) Q E s := max_two_N hh F N fun h' tk F' N' => by
  have e : (if b > a then b else a) = max a b := by split <;> (first | lia | omega)
  rw [e]; exact h h' tk _ F' N'
end
end Mine
theorem Mine.rows3_0 : True := by
  k_with_none
  (k_with "call builtin:max" => (k_here; (with_reducible show wpAny _ _ (call (Value.builtin _) [Value.int _ _, Value.int _ _, Value.int _ _]) _ _ _); (with_unfolding_all refine' Mine.max3 ?zz_k1 ?zz_k2 ?zz_k3 ?_; (case zz_k1 => rfl); (case zz_k2 => k_asm); (case zz_k3 => k_asm); k_whole); intro _ _ _ _ _))
  (k_with "call builtin:min" => (k_here; (with_reducible show wpAny _ _ (call (Value.builtin _) [Value.int _ _, Value.int _ _, Value.int _ _]) _ _ _); (with_unfolding_all refine' Mine.min3 ?zz_k1 ?zz_k2 ?zz_k3 ?_; (case zz_k1 => rfl); (case zz_k2 => k_asm); (case zz_k3 => k_asm); k_whole); intro _ _ _ _ _))
  (k_with "binaryOp Mult ref int" => (k_here; k_dflt (refine' Mine.mulOne ?zz_k1 ?zz_k2 ?zz_k3 ?zz_k4 ?zz_k5 ?_; (case zz_k1 => k_asm); (case zz_k2 => k_asm); (case zz_k3 => k_mem); (case zz_k4 => first | (first | lia | omega) | assumption | l_fact); (case zz_k5 => first | (first | lia | omega) | assumption | l_fact); k_whole); intro _ _ _ _ _ l1 _; (try k_lt l1); (try k_sweep)))
  (k_with "call builtin:divmod" => (k_here; (with_reducible show wpAny _ _ (call (Value.builtin _) [Value.int _ _, Value.int _ _]) _ _ _); refine divmod_N (by assumption) (by assumption) (by side_arith) ?_; intro _ _ _))
  (k_with "call builtin:len" => (k_here; (with_reducible show wpAny _ _ (call (Value.builtin _) [Value.ref _]) _ _ _); k_dflt (refine' Mine.lenN ?zz_k1 ?zz_k2 ?zz_k3 ?zz_k4 ?_; (case zz_k1 => k_asm); (case zz_k2 => k_mem); (case zz_k3 => with_reducible assumption); (case zz_k4 => ((try simp only [List.length_append, List.length_cons, List.length_nil, List.length_replicate, List.length_map]); (first | lia | omega))); k_whole); intro _ _))
  (k_with "binaryOp Sub int int" => (k_here; with_reducible refine' Mine.subIs ?zz_k1 ?_; (case zz_k1 => assumption)))
  (k_with "binaryOp Add int int" => (k_here; with_reducible refine' Mine.addIs ?zz_k1 ?_; (case zz_k1 => assumption)))
  (k_with "binaryOp Mult int int" => (k_here; with_reducible refine' Mine.mulIs ?zz_k1 ?zz_k2 ?_; (case zz_k1 => assumption); (case zz_k2 => exact Mine.bits64 (by (first | lia | omega)))))
  (k_with "binaryOp RShift int int" => (k_here; with_reducible refine' Mine.shrIs ?zz_k1 ?zz_k2 ?_; (case zz_k1 => assumption); (case zz_k2 => (first | lia | omega))))
  (k_with "binaryOp LShift int int" => (k_here; with_reducible refine' Mine.shlIs ?zz_k1 ?zz_k2 ?zz_k3 ?zz_k4 ?_; (case zz_k1 => assumption); (case zz_k2 => (first | lia | omega)); (case zz_k3 => (first | lia | omega)); (case zz_k4 => (first | lia | omega))))
  (k_with "binaryOp BitXor int int" => (k_here; with_reducible refine' Mine.xorIs ?zz_k1 ?_; (case zz_k1 => assumption)))
  (k_with "exec FunctionDef" => (k_here; kn_here; k_dflt (refine' nestDef_K ?zz_d0 ?zz_k0 ?zz_a0 ?_; (case zz_d0 => exact rfl); (case zz_k0 => exact rfl); (case zz_a0 => exact rfl)); (k_dflt (refine' Mine.nestBoth ?zz_F ?zz_N ?zz_T ?zz_C ?zz_cd ?zz_hs ?zz_ht ?zz_hP ?zz_hc ?zz_cl ?_; (case zz_F => k_asm); (case zz_N => k_asm); (case zz_T => k_asm); (case zz_cd => exact rfl); (case zz_C => kn_code); (case zz_hs => exact rfl); (case zz_ht => assumption); (case zz_hP => (dsimp only [List.dropLast]; k_all)); (case zz_hc => (dsimp only [List.dropLast]; k_all)); (case zz_cl => exact rfl); k_whole); intro _ _ _ _ _ _ _ _ _ _ N' _ _ l1 l2 _ _ _; (dsimp only [List.dropLast, List.append, HAppend.hAppend, Append.append] at N' l1 l2); (simp only [List.forall_mem_cons, List.forall_mem_nil, and_true] at l1 l2); (repeat (obtain ⟨_, l1⟩ := l1)); (repeat (obtain ⟨_, l2⟩ := l2)))))
  (k_with "call builtin:list.append" => (k_here; (with_reducible show wpAny _ _ (call (Value.builtin _) [Value.ref _, _]) _ _ _); k_dflt (refine' Mine.appendL ?zz_k1 ?zz_k2 ?zz_k3 ?zz_k4 ?_; (case zz_k1 => k_asm); (case zz_k2 => k_asm); (case zz_k3 => k_upd); (case zz_k4 => first | (first | lia | omega) | (simp only [List.length_nil, List.length_cons]; (first | lia | omega))); k_whole); intro _ _ _; (try k_sweep)))
  (k_with "call builtin:list.reverse" => (k_here; (with_reducible show wpAny _ _ (call (Value.builtin _) _) _ _ _); (try dsimp only); k_dflt (refine' Mine.reverseL ?zz_k1 ?zz_k2 ?zz_k3 ?zz_k4 ?zz_k5 ?_; (case zz_k1 => k_asm); (case zz_k2 => k_asm); (case zz_k3 => k_upd); (case zz_k4 => with_reducible assumption); (case zz_k5 => (first | lia | omega)); k_whole); intro _ _ _ _; (try k_sweep)))
  (k_with "unaryOp Invert int" => (k_here; with_reducible refine' Mine.invIs ?zz_k1 ?_; (case zz_k1 => assumption)))
  (k_with "exec While" => (k_here; refine Mine.halt ?_))
  (k_with "subscriptTail Name Slice str ref" => (k_here; (try dsimp only); (with_reducible show wpAny _ _ (subscriptTail _ (Expr.Slice (some _) none none _) (Value.str (Mine.S _) _) _) _ _ _); k_dflt (refine' Mine.sFrom (s := ⟨_, _, _, _, _⟩) ?zz_F ?zz_N ?zz_hk ?zz_hl ?_ ?zz_hs ?zz_ht; (case zz_hk => first | (first | lia | omega) | (simp only [List.length_drop, List.length_take, List.length_reverse] at *; (first | lia | omega))); (case zz_F => k_asm); (case zz_N => k_asm); (case zz_hl => first | (first | lia | omega) | (simp only [List.length_drop, List.length_take, List.length_reverse] at *; (first | lia | omega))); (case zz_hs => with_unfolding_all rfl); (case zz_ht => (intro _; with_unfolding_all rfl)); k_whole); intro _ _ _ _ _; (try k_sweep)))
  (k_with "subscriptTail Name Slice str ref" => (k_here; (try dsimp only); (with_reducible show wpAny _ _ (subscriptTail _ (Expr.Slice none (some _) none _) (Value.str (Mine.S _) _) _) _ _ _); k_dflt (first | (refine' Mine.sAll (s := ⟨_, _, _, _, _⟩) ?zz_F ?zz_N ?zz_hl ?_ ?zz_hs ?zz_ht; (case zz_F => k_asm); (case zz_N => k_asm); (case zz_hl => first | (first | lia | omega) | (simp only [List.length_drop, List.length_take, List.length_reverse] at *; (first | lia | omega))); (case zz_hs => with_unfolding_all rfl); (case zz_ht => (intro _; with_unfolding_all rfl)); k_whole) | (refine' Mine.sNeg (s := ⟨_, _, _, _, _⟩) ?zz_F ?zz_N ?zz_h0 ?zz_hj ?zz_hl ?_ ?zz_hs ?zz_ht; (case zz_h0 => (first | lia | omega)); (case zz_hj => first | (first | lia | omega) | (simp only [List.length_drop, List.length_take, List.length_reverse] at *; (first | lia | omega))); (case zz_F => k_asm); (case zz_N => k_asm); (case zz_hl => first | (first | lia | omega) | (simp only [List.length_drop, List.length_take, List.length_reverse] at *; (first | lia | omega))); (case zz_hs => with_unfolding_all rfl); (case zz_ht => (intro _; with_unfolding_all rfl)); k_whole)); intro _ _ _ _ _; (try k_sweep)))
  (k_with "subscriptTail Name Name str int" => (k_here; (try dsimp only); (with_reducible show wpAny _ _ (subscriptTail _ _ (Value.str (Mine.S _) _) (Value.int _ _)) _ _ _); k_dflt (refine' Mine.sItem ?zz_hk ?zz_hl ?_ ?zz_hs ?zz_ht; (case zz_hk => first | (first | lia | omega) | (simp only [List.length_drop, List.length_take, List.length_reverse] at *; (first | lia | omega))); (case zz_hl => first | (first | lia | omega) | (simp only [List.length_drop, List.length_take, List.length_reverse] at *; (first | lia | omega))); (case zz_hs => with_unfolding_all rfl); (case zz_ht => (intro _; with_unfolding_all rfl)); k_whole); intro _ _))
  (k_with "subscriptTail Name BinOp str int" => (k_here; (try dsimp only); (with_reducible show wpAny _ _ (subscriptTail _ _ (Value.str (Mine.S _) _) (Value.int _ _)) _ _ _); k_dflt (refine' Mine.sItemN ?zz_hk ?zz_hl ?_ ?zz_hs ?zz_ht; (case zz_hk => first | (first | lia | omega) | (simp only [List.length_drop, List.length_take, List.length_reverse] at *; (first | lia | omega))); (case zz_hl => first | (first | lia | omega) | (simp only [List.length_drop, List.length_take, List.length_reverse] at *; (first | lia | omega))); (case zz_hs => with_unfolding_all rfl); (case zz_ht => (intro _; with_unfolding_all rfl)); k_whole); intro _ _))
  (k_with "truthy str" => (k_here; (with_reducible show wpAny _ _ (truthy (Value.str (Mine.S _) _)) _ _ _); k_dflt (refine' Mine.sTruthy ?zz_hl ?_; (case zz_hl => first | (first | lia | omega) | (simp only [List.length_drop, List.length_take, List.length_reverse] at *; (first | lia | omega))); k_whole); intro _))
  (k_with "compareOp Eq str str" => (k_here; (with_reducible show wpAny _ _ (compareOp _ (Value.str (Mine.S _) _) (Value.str (Mine.S _) _)) _ _ _); k_dflt (refine' Mine.sEq ?_; k_whole)))
  (k_with "call builtin:len" => (k_here; (with_reducible show wpAny _ _ (call (Value.builtin _) [Value.str (Mine.S _) _]) _ _ _); k_dflt (refine' Mine.sLen ?zz_hl ?_; (case zz_hl => first | (first | lia | omega) | (simp only [List.length_drop, List.length_take, List.length_reverse] at *; (first | lia | omega))); k_whole); intro _ _))
  (k_with "eval BoolOp" => (k_here; k_dflt (refine' Mine.evalOrNone ?zz_F ?zz_hv ?_ ?zz_hk ?zz_hl ?zz_hd; (case zz_F => k_asm); (case zz_hv => exact rfl); (case zz_hk => exact rfl); (case zz_hl => exact rfl); (case zz_hd => decide); k_whole)))
  (k_with "subscriptTail Name Slice str ref" => (k_here; (try dsimp only); (with_reducible show wpAny _ _ (subscriptTail _ (Expr.Slice none (some _) none _) (Value.str (Mine.S _) _) _) _ _ _); k_dflt (refine' Mine.sOr (s := ⟨_, _, _, _, _⟩) ?zz_F ?zz_N ?zz_hj ?zz_hl ?_ ?zz_hs ?zz_ht; (case zz_hj => first | (first | lia | omega) | (simp only [List.length_drop, List.length_take, List.length_reverse] at *; (first | lia | omega))); (case zz_F => k_asm); (case zz_N => k_asm); (case zz_hl => first | (first | lia | omega) | (simp only [List.length_drop, List.length_take, List.length_reverse] at *; (first | lia | omega))); (case zz_hs => with_unfolding_all rfl); (case zz_ht => (intro _; with_unfolding_all rfl)); k_whole); intro _ _ _ _ _; (try k_sweep)))
  (k_with "subscriptTail Name BinOp str int" => (k_here; (try dsimp only); (with_reducible show wpAny _ _ (subscriptTail _ _ (Value.str (Mine.S _) _) (Value.int (-(Nat.cast _)) _)) _ _ _); k_dflt (refine' Mine.sItemM ?zz_h0 ?zz_hj ?zz_hl ?_ ?zz_hs ?zz_ht; (case zz_h0 => (first | lia | omega)); (case zz_hj => first | (first | lia | omega) | (simp only [List.length_drop, List.length_take, List.length_reverse] at *; (first | lia | omega))); (case zz_hl => first | (first | lia | omega) | (simp only [List.length_drop, List.length_take, List.length_reverse] at *; (first | lia | omega))); (case zz_hs => with_unfolding_all rfl); (case zz_ht => (intro _; with_unfolding_all rfl)); k_whole); intro _ _))
  (k_with "inplaceOp Sub int int" => (k_here; with_reducible refine' Mine.isubIs ?zz_k1 ?_; (case zz_k1 => assumption)))
  (k_with "call builtin:min" => (k_here; (with_reducible show wpAny _ _ (call (Value.builtin _) [Value.int _ _, Value.int _ _]) _ _ _); k_dflt (refine' Mine.min2 ?zz_k1 ?zz_k2 ?zz_k3 ?_; (case zz_k1 => exact rfl); (case zz_k2 => k_asm); (case zz_k3 => k_asm); k_whole); intro _ _ _ _ _))
  (k_with "call builtin:max" => (k_here; (with_reducible show wpAny _ _ (call (Value.builtin _) [Value.int _ _, Value.int _ _]) _ _ _); k_dflt (refine' Mine.max2 ?zz_k1 ?zz_k2 ?zz_k3 ?_; (case zz_k1 => exact rfl); (case zz_k2 => k_asm); (case zz_k3 => k_asm); k_whole); intro _ _ _ _ _))
  (k_with "call type:range" => (k_here; (with_reducible show wpAny _ _ (call (Value.type _) [Value.int (Nat.cast _) _]) _ _ _); k_dflt (refine' Mine.rng1 ?zz_k1 ?zz_k2 ?_; (case zz_k1 => k_asm); (case zz_k2 => k_asm); k_whole); intro _ _ _ _ _ _ _ _ _))
  (k_with "call type:range" => (k_here; (with_reducible show wpAny _ _ (call (Value.type _) [Value.int _ _, Value.int _ _, Value.int _ _]) _ _ _); k_dflt (refine' Mine.rng3 ?zz_k1 ?zz_k2 ?zz_k3 ?zz_k4 ?_; (case zz_k1 => k_asm); (case zz_k2 => k_asm); (case zz_k3 => decide); (case zz_k4 => decide); k_whole); intro _ _ _ _ _ _ _ _ _))
  (k_with "call type:list" => (k_here; (with_reducible show wpAny _ _ (call (Value.type _) [Value.ref _]) _ _ _); k_dflt (refine' Mine.listRng2 ?zz_k1 ?zz_k2 ?zz_k3 ?zz_k4 ?zz_k5 ?_; (case zz_k1 => exact rfl); (case zz_k2 => k_asm); (case zz_k3 => k_asm); (case zz_k4 => assumption); (case zz_k5 => (first | lia | omega)); k_whole); intro _ _ _ _ _ _ _ l1 _; (try k_lt l1)))
  trivial
local macro_rules | `(tactic| walk_at "pyIter ref") => `(tactic| (k_here; (with_reducible rename IsRange _ _ _ _ _ _ _ _ => R'); refine Mine.halt ?_))
namespace Mine
section
variable {w : World} {p : Program} {loose : List Str} {mean : ExcName → Option Value} {mg mb : Str → Option Value} {dp un : Nat} {gd : Option (List Code)} {env : Env} {outer : List Env} {A₀ : Around} {base h₀ : Heap} {L : Addr} {m : Str → Option Value} {s : Shared} {Q E : Value → Shared → Prop} {news : List (Addr × Obj)}
theorem useSub {c d : Nat} {tx ty : Tok}
    (B : Below A₀ base outer h₀) (F : Fr h₀ L s.heap m) (X : (Mine.hd.heap_39 w.params).In h₀) (N : News h₀ L s.heap news) (T : Top p loose mean mg mb h₀) (hf : env.frame = some L) (hke : env.scope.kind = .function) (hdp : dp + 1 < recursionLimit) (hun : un + 8 < cLine)
    (h : ∀ t h' tk', Fr h₀ L h' m → News h₀ L h' news → Q (.int (costN c d) t) { s with heap := h', toks := tk' }) :
    wpAny (model PySem.Challenge.rw_pg0238_02.row.prog w) (Ar dp un gd (env :: outer)) (call (.ref 77) [.str (S [c]) tx, .str (S [d]) ty]) Q E s := by
  refine CC.use (mu := []) (rest := news) (sub_spec w (S [c]) (S [d]) tx ty (Nat.le_of_eq (S_len _)) (Nat.le_of_eq (S_len _))) B F X N T hf hke (fun q hq => hq) (fun _ _ _ q => nomatch q) hdp hun fun v n' h' tk' P F' N' _ => ?_
  obtain ⟨e, t, ev⟩ := P
  subst e ev
  exact h t h' tk' F' N'
end
structure RowSt where
  vs : List Value
  ns : List Int
  e : Nat
  res : Int
  tr : Tok
structure InSt where
  vs : List Value
  done : List Int
  e : Nat
  dist : Int
  td : Tok
  res : Int
  tr : Tok
  mn : Int
  tmn : Tok
noncomputable def PO (al bl : List Nat) (mc target : Int) (i : Nat) (c : RowSt) : Prop := IntsAre c.vs c.ns ∧ c.ns.length = al.length ∧ outerGo al mc (bl.drop i) c.ns c.res i = target
noncomputable def PI (ch : Nat) (al : List Nat) (row : List Int) (d0 r0 m0 : Int) (i : Nat) (c : InSt) : Prop :=
  IntsAre c.vs (c.done ++ row.drop i) ∧ c.done.length = i ∧ innerGo ch al row d0 r0 m0 = (c.done ++ (innerGo ch (al.drop i) (row.drop i) c.dist c.res c.mn).1, (innerGo ch (al.drop i) (row.drop i) c.dist c.res c.mn).2)
end Mine
namespace Mine
theorem outer_step {al bl : List Nat} {mc target res res' mn : Int} {i : Nat} {ns done : List Int} (hi : i < bl.length) (h : outerGo al mc (bl.drop i) ns res i = target)
    (hg : innerGo (bl.getD i 0) al ns ((i : Int) * 2) ((i : Int) * 2) 9223372036854775807 = (done, res', mn)) : (mc < mn → mc + 1 = target) ∧ (¬ mc < mn → outerGo al mc (bl.drop (i + 1)) done res' ((i + 1 : Nat) : Int) = target) := by
  rw [List.drop_eq_getElem_cons hi] at h
  have e : bl[i] = bl.getD i 0 := by simp [List.getD, hi]
  rw [e] at h
  simp only [outerGo, hg] at h
  constructor
  · intro h1; rw [if_pos h1] at h; exact h
  · intro h1; rw [if_neg h1] at h; exact h
theorem inner_end {ch : Nat} {al : List Nat} {row : List Int} {d0 r0 m0 : Int} {c : InSt} (h : PI ch al row d0 r0 m0 al.length c) (hl : row.length = al.length) : IntsAre c.vs c.done ∧ c.done.length = al.length ∧ innerGo ch al row d0 r0 m0 = (c.done, c.res, c.mn) := by
  obtain ⟨h1, h2, h3⟩ := h
  rw [← hl, List.drop_length] at h1 h3
  rw [hl] at h3
  rw [List.append_nil] at h1
  refine ⟨h1, h2, ?_⟩
  rw [h3, List.drop_length]
  simp [innerGo]
theorem innerGo_cons {ch : Nat} {al : List Nat} {row : List Int} {d r m : Int} {i : Nat} (h1 : i < al.length) (h2 : i < row.length) : innerGo ch (al.drop i) (row.drop i) d r m =
    (min (min r (row.getD i 0) + 2) (d + costN ch (al.getD i 0)) :: (innerGo ch (al.drop (i + 1)) (row.drop (i + 1)) (row.getD i 0) (min (min r (row.getD i 0) + 2) (d + costN ch (al.getD i 0))) (if min (min r (row.getD i 0) + 2) (d + costN ch (al.getD i 0)) < m then min (min r (row.getD i 0) + 2) (d + costN ch (al.getD i 0)) else m)).1,
      (innerGo ch (al.drop (i + 1)) (row.drop (i + 1)) (row.getD i 0) (min (min r (row.getD i 0) + 2) (d + costN ch (al.getD i 0))) (if min (min r (row.getD i 0) + 2) (d + costN ch (al.getD i 0)) < m then min (min r (row.getD i 0) + 2) (d + costN ch (al.getD i 0)) else m)).2) := by
  rw [List.drop_eq_getElem_cons h1, List.drop_eq_getElem_cons h2]
  have e1 : al[i] = al.getD i 0 := by simp [List.getD, h1]
  have e2 : row[i] = row.getD i 0 := by simp [List.getD, h2]
  rw [e1, e2, innerGo]
theorem inner_step {ch : Nat} {al : List Nat} {row : List Int} {d0 r0 m0 : Int} {i : Nat} {c : InSt} (h : PI ch al row d0 r0 m0 i c) (hi : i < al.length) (hl : row.length = al.length) {vs' : List Value} {r res' mn' : Int} {e' : Nat} {td' tr' tm' : Tok}
    (hr : r = (c.done ++ row.drop i).getD i 0) (hres : res' = min (min c.res r + 2) (c.dist + costN ch (al.getD i 0))) (hv : IntsAre vs' ((c.done ++ row.drop i).set i res')) (hm : mn' = if res' < c.mn then res' else c.mn) :
    PI ch al row d0 r0 m0 (i + 1) ⟨vs', c.done ++ [res'], e', r, td', res', tr', mn', tm'⟩ := by
  obtain ⟨h1, h2, h3⟩ := h
  have hi2 : i < row.length := by (first | lia | omega)
  have er : r = row.getD i 0 := by
    rw [hr, ← h2]
    simp [List.getD, List.getElem?_append_right]
  refine ⟨?_, by simp [h2], ?_⟩
  · have : (c.done ++ row.drop i).set i res' = c.done ++ [res'] ++ row.drop (i + 1) := by
      rw [List.set_append_right _ _ (Nat.le_of_eq h2), h2, Nat.sub_self, List.drop_eq_getElem_cons hi2, List.set_cons_zero, List.append_assoc, List.singleton_append]
    rw [← this]; exact hv
  · rw [h3, innerGo_cons hi hi2, ← er, ← hres, ← hm]
    simp
end Mine
theorem Mine.rows3_1 : True := by
  (k_with "exec If" => (k_here; (with_reducible show wpAny _ _ (exec (Stmt.If (Expr.Compare (Expr.Call _ _ _ _) [CmpOp.Lt] _ _) _ _ _) _) _ _ _); (fail_if_success (with_reducible show wpAny _ _ _ (fun f s' => f = Flow.next ∧ _) _ _)); refine Mine.halt ?_))
  (k_with "call ref" => (k_here; (with_reducible show wpAny _ _ (call (Value.ref 77) [Value.str _ _, Value.str _ _]) _ _ _); k_dflt (refine' Mine.useSub ?zz_cB ?zz_cF ?zz_cX ?zz_cN ?zz_cT ?zz_cf ?zz_ck ?zz_cdp ?zz_cun ?_; (case zz_cN => k_asm); (case zz_cB => k_asm); (case zz_cF => k_asm); (case zz_cX => k_asm); (case zz_cT => k_asm); (case zz_cf => exact rfl); (case zz_ck => exact rfl); (case zz_cdp => ktr_room); (case zz_cun => ktr_units); k_whole); intro _ _ _ _ _))
  (k_with "setItem ref int" => (k_here; (with_reducible show wpAny _ _ (setItem (Value.ref _) (Value.int _ _) (Value.int _ _)) _ _ _); k_dflt (refine' ksa_set ?zz_k1 ?zz_k2 ?zz_k3 ?zz_k4 ?zz_k5 ?zz_k6 ?zz_k7 ?_; (case zz_k1 => k_asm); (case zz_k2 => k_asm); (case zz_k3 => exact Upd.head (by assumption)); (case zz_k4 => with_reducible assumption); (case zz_k5 => (first | lia | omega)); (case zz_k6 => (first | lia | omega)); (case zz_k7 => (first | lia | omega)); k_whole); intro _ _ _ _ _ _; (try k_sweep)))
  (k_with "execs cons" => (k_here; k_fold))
  (k_with "eval ListComp" => (k_here; k_fold))
  trivial
namespace Mine
theorem lev_spec (w : World) (xs ys : List Nat) (mc : Nat) (tx ty tm : Tok) (hx : xs.length ≤ 100) (hy : ys.length ≤ 100) : C3 w 84 3 40 [] [.str (S xs) tx, .str (S ys) ty, .int mc tm] (fun v n' => n' = [] ∧ ∃ t, v = .int (lev xs ys mc) t) := by
  have htgt : xs ≠ ys → lev xs ys mc = lev1 (cutEnd (xs.drop (preLen xs ys)) (ys.drop (preLen xs ys))) (cutEnd2 (xs.drop (preLen xs ys)) (ys.drop (preLen xs ys))) mc := fun h => if_neg h
  have hzero : xs = ys → 0 = lev xs ys mc := fun h => (if_pos h).symm
  generalize lev xs ys (mc : Int) = target at *
  intro p loose mean mg mb dp un gd fr base g s R B X T st sz N hd hu hret
  k_dflt (refine' enterP ?k1 ?kst ?ksz ?kN ?kX ?kT ?k6 ?k7 ?k8 ?k9 ?kB ?_ ?c2 ?c3 ?c4 ?c5; (case k1 => exact B); (case kst => exact st); (case ksz => exact sz); (case kN => exact N); (case kX => exact X); (case kT => exact T); (case k6 => k_is); (case k7 => k_is); (case k8 => first | exact Mine.rm0 (by assumption) | ktr_room); (case k9 => exact BindsTo.of_eq rfl); (case c5 => decide); (case kB => exact locs rfl); (case c2 => exact rfl); (case c3 => exact rfl); (case c4 => exact rfl); k_whole; intro L' h' F' N' l0; (try dsimp only); (try k_lt l0); (try k_fold))
  repeat' (first | (k_unfold; (try dsimp only)) | walk1 | (dsimp only; walk1))
  · try dsimp only
    exact hret _ _ _ _ ⟨rfl, _, congrArg (fun z => Value.int z _) (hzero (by assumption))⟩ (Fr.keep (by k_asm)) outE
  have htgt := htgt (by assumption)
  clear hzero
  refine goOn ?_
  k_dflt (refine' whileK (σ := Nat × Tok) [] "pre" (fun c => .int c.1 c.2) [("a", .str (S xs) tx), ("b", .str (S ys) ty), ("max_cost", .int mc tm)] (fun c => c.1 ≤ xs.length ∧ c.1 ≤ ys.length ∧ preLen xs ys = c.1 + preLen (xs.drop c.1) (ys.drop c.1)) (fun c => c.1 ≤ xs.length ∧ c.1 ≤ ys.length ∧ preLen xs ys = c.1) (fun c => xs.length - c.1) (0, _) ?F ?N ?hx ?hk ?hp ?turn ?done ?hE; (case F => k_asm); (case N => k_asm); (case hx => exact rfl); (case hk => repeat' (first | exact List.forall_mem_nil _ | (refine' List.forall_mem_cons.mpr ⟨?_, ?_⟩) | exact rfl)); (case hp => exact ⟨Nat.zero_le _, Nat.zero_le _, by simp⟩); (case hE => passes_own))
  case turn =>
    intro c u h tk hP F1 N1
    obtain ⟨k, tc⟩ := c
    dsimp only at hP F1
    obtain ⟨hk1, hk2, hk3⟩ := hP
    have i1 : Is ((k : Int) + 1) ((k + 1 : Nat) : Int) := rfl
    repeat' (first | (k_unfold; (try dsimp only)) | walk1 | (dsimp only; walk1))
    · have hkx : k < xs.length := by simp only [List.length_drop] at *; (first | lia | omega)
      have hky : k < ys.length := by simp only [List.length_drop] at *; (first | lia | omega)
      have hst := preLen_step hkx hky (by assumption)
      k_dflt (refine' wEnd (k + 1, _) ?F ?N ?hk ?hn ?hp ?hm; (case F => k_asm); (case N => k_asm); (case hk => repeat' (first | exact List.forall_mem_nil _ | (refine' List.forall_mem_cons.mpr ⟨?_, ?_⟩) | exact rfl)); (case hn => repeat' (first | exact List.forall_mem_nil _ | (refine' List.forall_mem_cons.mpr ⟨?_, ?_⟩) | k_mem)); (case hp => exact ⟨hkx, hky, by show preLen xs ys = k + 1 + preLen (xs.drop (k + 1)) (ys.drop (k + 1)); rw [hk3, hst]; (first | lia | omega)⟩); (case hm => (show xs.length - (k + 1) < xs.length - k; (first | lia | omega))))
    · k_dflt (refine' wExit ?F ?N ?hk ?hn ?hp; (case F => k_asm); (case N => k_asm); (case hk => repeat' (first | exact List.forall_mem_nil _ | (refine' List.forall_mem_cons.mpr ⟨?_, ?_⟩) | exact rfl)); (case hn => repeat' (first | exact List.forall_mem_nil _ | (refine' List.forall_mem_cons.mpr ⟨?_, ?_⟩) | k_mem)); (case hp => exact ⟨hk1, hk2, by rw [hk3, preLen_stop (by simp only [List.length_drop] at *; (first | lia | omega)) (by simp only [List.length_drop] at *; (first | lia | omega)) (by assumption)]; rfl⟩))
    · k_dflt (refine' wExit ?F ?N ?hk ?hn ?hp; (case F => k_asm); (case N => k_asm); (case hk => repeat' (first | exact List.forall_mem_nil _ | (refine' List.forall_mem_cons.mpr ⟨?_, ?_⟩) | exact rfl)); (case hn => repeat' (first | exact List.forall_mem_nil _ | (refine' List.forall_mem_cons.mpr ⟨?_, ?_⟩) | k_mem)); (case hp => exact ⟨hk1, hk2, by rw [hk3, preLen_end2 (by assumption)]; rfl⟩))
    · k_dflt (refine' wExit ?F ?N ?hk ?hn ?hp; (case F => k_asm); (case N => k_asm); (case hk => repeat' (first | exact List.forall_mem_nil _ | (refine' List.forall_mem_cons.mpr ⟨?_, ?_⟩) | exact rfl)); (case hn => repeat' (first | exact List.forall_mem_nil _ | (refine' List.forall_mem_cons.mpr ⟨?_, ?_⟩) | k_mem)); (case hp => exact ⟨hk1, hk2, by rw [hk3, preLen_end1 (by assumption)]; rfl⟩))
  case done =>
    intro c u h tk hP F1 N1
    obtain ⟨k, tc⟩ := c
    dsimp only at hP F1
    obtain ⟨hk1, hk2, hk3⟩ := hP
    repeat' (first | (k_unfold; (try dsimp only)) | walk1 | (dsimp only; walk1))
    refine goOn ?_
    have la : (xs.drop k).length ≤ 100 := by rw [List.length_drop]; (first | lia | omega)
    have lb : (ys.drop k).length ≤ 100 := by rw [List.length_drop]; (first | lia | omega)
    rw [hk3] at htgt
    clear hk3
    generalize xs.drop k = al at *
    generalize ys.drop k = bl at *
    k_dflt (refine' whileK (σ := Nat × Tok) [] "post" (fun c => .int (-(c.1 : Int)) c.2) [("a", .str (S al) _), ("b", .str (S bl) _), ("max_cost", .int mc tm)] (fun c => c.1 ≤ al.length ∧ c.1 ≤ bl.length ∧ preLen al.reverse bl.reverse = c.1 + preLen (al.reverse.drop c.1) (bl.reverse.drop c.1)) (fun c => c.1 ≤ al.length ∧ c.1 ≤ bl.length ∧ preLen al.reverse bl.reverse = c.1) (fun c => al.length - c.1) (0, _) ?F ?N ?hx ?hk ?hp ?turn ?done ?hE; (case F => k_asm); (case N => k_asm); (case hx => exact rfl); (case hk => repeat' (first | exact List.forall_mem_nil _ | (refine' List.forall_mem_cons.mpr ⟨?_, ?_⟩) | exact rfl)); (case hp => exact ⟨Nat.zero_le _, Nat.zero_le _, by simp⟩); (case hE => passes_own))
    case turn =>
      intro c u h tk hP F1 N1
      obtain ⟨j, tc⟩ := c
      dsimp only at hP F1
      obtain ⟨hj1, hj2, hj3⟩ := hP
      have i1 : Is (-(j : Int) - 1) (-((j + 1 : Nat) : Int)) := by unfold Is; (first | lia | omega)
      repeat' (first | (k_unfold; (try dsimp only)) | walk1 | (dsimp only; walk1))
      · have hjx : j < al.reverse.length := by simp only [List.length_take, List.length_reverse] at *; (first | lia | omega)
        have hjy : j < bl.reverse.length := by simp only [List.length_take, List.length_reverse] at *; (first | lia | omega)
        have hst := preLen_step hjx hjy (by rw [← rev_get (by simpa using hjx), ← rev_get (by simpa using hjy)]; assumption)
        rw [List.length_reverse] at hjx hjy
        k_dflt (refine' wEnd (j + 1, _) ?F ?N ?hk ?hn ?hp ?hm; (case F => k_asm); (case N => k_asm); (case hk => repeat' (first | exact List.forall_mem_nil _ | (refine' List.forall_mem_cons.mpr ⟨?_, ?_⟩) | exact rfl)); (case hn => repeat' (first | exact List.forall_mem_nil _ | (refine' List.forall_mem_cons.mpr ⟨?_, ?_⟩) | k_mem)); (case hp => exact ⟨hjx, hjy, by show preLen al.reverse bl.reverse = j + 1 + preLen (al.reverse.drop (j + 1)) (bl.reverse.drop (j + 1)); rw [hj3, hst]; (first | lia | omega)⟩); (case hm => (show al.length - (j + 1) < al.length - j; (first | lia | omega))))
      · have hjx : j < al.reverse.length := by simp only [List.length_take, List.length_reverse] at *; (first | lia | omega)
        have hjy : j < bl.reverse.length := by simp only [List.length_take, List.length_reverse] at *; (first | lia | omega)
        have hst := preLen_stop hjx hjy (by rw [← rev_get (by simpa using hjx), ← rev_get (by simpa using hjy)]; assumption)
        k_dflt (refine' wExit ?F ?N ?hk ?hn ?hp; (case F => k_asm); (case N => k_asm); (case hk => repeat' (first | exact List.forall_mem_nil _ | (refine' List.forall_mem_cons.mpr ⟨?_, ?_⟩) | exact rfl)); (case hn => repeat' (first | exact List.forall_mem_nil _ | (refine' List.forall_mem_cons.mpr ⟨?_, ?_⟩) | k_mem)); (case hp => exact ⟨hj1, hj2, by rw [hj3, hst]; rfl⟩))
      · have hst := preLen_end2 (xs := al.reverse) (ys := bl.reverse) (k := j) (by simp only [List.length_take, List.length_drop, List.length_reverse] at *; (first | lia | omega))
        k_dflt (refine' wExit ?F ?N ?hk ?hn ?hp; (case F => k_asm); (case N => k_asm); (case hk => repeat' (first | exact List.forall_mem_nil _ | (refine' List.forall_mem_cons.mpr ⟨?_, ?_⟩) | exact rfl)); (case hn => repeat' (first | exact List.forall_mem_nil _ | (refine' List.forall_mem_cons.mpr ⟨?_, ?_⟩) | k_mem)); (case hp => exact ⟨hj1, hj2, by rw [hj3, hst]; rfl⟩))
      · have hst := preLen_end1 (xs := al.reverse) (ys := bl.reverse) (k := j) (by simp only [List.length_take, List.length_drop, List.length_reverse] at *; (first | lia | omega))
        k_dflt (refine' wExit ?F ?N ?hk ?hn ?hp; (case F => k_asm); (case N => k_asm); (case hk => repeat' (first | exact List.forall_mem_nil _ | (refine' List.forall_mem_cons.mpr ⟨?_, ?_⟩) | exact rfl)); (case hn => repeat' (first | exact List.forall_mem_nil _ | (refine' List.forall_mem_cons.mpr ⟨?_, ?_⟩) | k_mem)); (case hp => exact ⟨hj1, hj2, by rw [hj3, hst]; rfl⟩))
    case done =>
      intro c u h tk hP F1 N1
      obtain ⟨j, tc⟩ := c
      dsimp only at hP F1
      obtain ⟨hj1, hj2, hj3⟩ := hP
      have e1 : cutEnd al bl = al.take (al.length - j) := by unfold cutEnd; rw [hj3]
      have e2 : cutEnd2 al bl = bl.take (bl.length - j) := by unfold cutEnd2; rw [hj3]
      rw [e1, e2] at htgt
      have la2 : (al.take (al.length - j)).length ≤ 100 := by rw [List.length_take]; (first | lia | omega)
      have lb2 : (bl.take (bl.length - j)).length ≤ 100 := by rw [List.length_take]; (first | lia | omega)
      clear e1 e2 hj3
      repeat' (first | (k_unfold; (try dsimp only)) | walk1 | (dsimp only; walk1))
      · try dsimp only
        exact hret _ _ _ _ ⟨rfl, _, congrArg (fun z => Value.int z _) (lev1_c htgt (by assumption) (by assumption) (by assumption))⟩ (Fr.keep (by k_asm)) outE
      · try dsimp only
        exact hret _ _ _ _ ⟨rfl, _, congrArg (fun z => Value.int z _) (lev1_d htgt (by assumption) (by assumption) (by assumption) (by assumption))⟩ (Fr.keep (by k_asm)) outE
      · refine goOn (ifJ (J := SwapJ g L' s target mc tm) ?_ ?_)
        · repeat' (first | (k_unfold; (try dsimp only)) | walk1 | (dsimp only; walk1))
          · exact swJ (by k_asm) (by repeat' (first | exact List.forall_mem_nil _ | (refine' List.forall_mem_cons.mpr ⟨?_, ?_⟩) | exact rfl)) (by (first | lia | omega)) (by (first | lia | omega)) (by assumption) (lev1_e htgt (by assumption) (by assumption) (by assumption) (by assumption) (by assumption))
          · exact swJ (by k_asm) (by repeat' (first | exact List.forall_mem_nil _ | (refine' List.forall_mem_cons.mpr ⟨?_, ?_⟩) | exact rfl)) (by (first | lia | omega)) (by (first | lia | omega)) (by assumption) (lev1_f htgt (by assumption) (by assumption) (by assumption) (by assumption) (by assumption))
        · clear htgt la2 lb2 la lb hj1 hj2 hk1 hk2
          rintro s' ⟨al, bl, ta, tb, h', tk, u, rfl, F1, h1, h2, h3, htgt⟩
          have N1 : News g L' h' [] := fun _ q => nomatch q
          have i1 : Is ((al.length : Int) + 1) ((al.length + 1 : Nat) : Int) := by unfold Is; (first | lia | omega)
          have i2 : Is (2 * ((al.length + 1 : Nat) : Int)) ((2 * (al.length + 1) : Nat) : Int) := by unfold Is; (first | lia | omega)
          repeat' (first | (k_unfold; (try dsimp only)) | walk1 | (dsimp only; walk1))
          · try dsimp only
            exact hret _ _ _ _ ⟨rfl, _, congrArg (fun z => Value.int z _) ((lev2_a (by assumption)).trans htgt.symm)⟩ (Fr.keep (by k_asm)) outE
          have hT : levDP al bl mc = target := (htgt.trans (lev2_b (by assumption))).symm
          rename_i D0 us0 c0 _ _ iX0 _ _ _ _ _ _ _ _ _ _ _ _ _ _ _
          refine goOn ?_
          k_dflt (refine' loopRng (σ := RowSt) (fun c => [(D0, listOf c.vs.toArray c.e)]) (fun c => [("a", .str (S al) ta), ("b", .str (S bl) tb), ("max_cost", .int mc tm), ("row", .ref D0), ("result", .int c.res c.tr)]) (PO al bl mc target) ⟨us0, ((List.range al.length).map fun i : Nat => (2 * ((i : Int) + 1))), c0, 0, _⟩ ?hh ?hr ?hn ?F ?N ?hk ?hp ?turn ?done; (case hh => exact rfl); (case hr => assumption); (case hn => (first | lia | omega)); (case F => k_asm); (case N => k_asm); (case hk => repeat' (first | exact List.forall_mem_nil _ | (refine' List.forall_mem_cons.mpr ⟨?_, ?_⟩) | exact rfl)); (case hp => exact ⟨iX0, by simp, hT⟩))
          case turn =>
            intro i ti c u h tk own hi ho hP F1 N1
            obtain ⟨vs, ns, e, res, tr⟩ := c
            obtain ⟨hP1, hP2, hP3⟩ := hP
            dsimp only at hP1 hP2 hP3 F1 N1
            repeat' (first | (k_unfold; (try dsimp only)) | walk1 | (dsimp only; walk1))
            rename_i tch _ _ _ _ _ _ _ _ _ _ _ _ _ _ _ _ _ _
            refine goOn ?_
            k_dflt (refine' loopRng (σ := InSt) (fun c => (D0, listOf c.vs.toArray c.e) :: own) (fun c => [("a", .str (S al) ta), ("b", .str (S bl) tb), ("max_cost", .int mc tm), ("row", .ref D0), ("bchar", .str (S [bl.getD i 0]) tch), ("distance", .int c.dist c.td), ("result", .int c.res c.tr), ("minimum", .int c.mn c.tmn)]) (PI (bl.getD i 0) al ns ((i : Int) * 2) ((i : Int) * 2) 9223372036854775807) ⟨vs, [], e, (i : Int) * 2, _, (i : Int) * 2, _, 9223372036854775807, _⟩ ?hh2 ?hr2 ?hn2 ?F2 ?N2 ?hk2 ?hp2 ?turn2 ?done2; (case hh2 => exact rfl); (case hr2 => assumption); (case hn2 => (first | lia | omega)); (case F2 => k_asm); (case N2 => k_asm); (case hk2 => repeat' (first | exact List.forall_mem_nil _ | (refine' List.forall_mem_cons.mpr ⟨?_, ?_⟩) | exact rfl)); (case hp2 => exact ⟨hP1, rfl, rfl⟩))
            case turn2 =>
              intro j tj c u h tk own2 hj ho2 hQ F2 N2
              have hst := @inner_step _ _ _ _ _ _ j c hQ hj hP2
              obtain ⟨vsj, done, ej, dj, tdj, rj, trj, mnj, tmj⟩ := c
              obtain ⟨hQ1, hQ2, -⟩ := hQ
              dsimp only at hQ1 hQ2 F2 N2 hst
              have hlen : (done ++ List.drop j ns).length = al.length := by rw [List.length_append, List.length_drop, hQ2, hP2]; (first | lia | omega)
              rw [List.cons_append] at N2
              have hoff : ∀ q ∈ own ++ own2, q.1 ≠ D0 := fun q hq => (List.mem_append.mp hq).elim (fun z => ho q z _ (.head _)) fun z => ho2 q z _ (.head _)
              have hin1 : ∀ q ∈ own, q ∈ own ++ own2 := fun q hq => List.mem_append_left _ hq
              have hin2 : ∀ q ∈ own2, q ∈ own ++ own2 := fun q hq => List.mem_append_right _ hq
              generalize own ++ own2 = ow at N2 hoff hin1 hin2
              repeat' (first | (k_unfold; (try dsimp only)) | walk1 | (dsimp only; walk1))
              · k_dflt (refine' turnEndN ⟨_, _, ej, _, _, _, _, _, _⟩ ?Fz0 ?Nz0 ?hkz0 ?hnz0 ?hoz0 ?haz0 ?hpz0; (case Fz0 => k_asm); (case Nz0 => k_asm); (case hkz0 => repeat' (first | exact List.forall_mem_nil _ | (refine' List.forall_mem_cons.mpr ⟨?_, ?_⟩) | exact rfl)); (case hnz0 => exact List.forall_mem_cons.mpr ⟨by k_mem, fun p hp => List.mem_cons_of_mem _ (hin1 p hp)⟩); (case hoz0 => exact fun p hp => List.mem_cons_of_mem _ (hin2 p hp)); (case haz0 => exact rfl); (case hpz0 => exact hst rfl rfl (by assumption) (if_pos (by assumption)).symm))
              · k_dflt (refine' turnEndN ⟨_, _, ej, _, _, _, _, _, _⟩ ?Fz1 ?Nz1 ?hkz1 ?hnz1 ?hoz1 ?haz1 ?hpz1; (case Fz1 => k_asm); (case Nz1 => k_asm); (case hkz1 => repeat' (first | exact List.forall_mem_nil _ | (refine' List.forall_mem_cons.mpr ⟨?_, ?_⟩) | exact rfl)); (case hnz1 => exact List.forall_mem_cons.mpr ⟨by k_mem, fun p hp => List.mem_cons_of_mem _ (hin1 p hp)⟩); (case hoz1 => exact fun p hp => List.mem_cons_of_mem _ (hin2 p hp)); (case haz1 => exact rfl); (case hpz1 => exact hst rfl rfl (by assumption) (if_neg (by assumption)).symm))
            case done2 =>
              intro c u h tk hQ F2 N2
              obtain ⟨hE1, hE2, hE3⟩ := inner_end hQ hP2
              obtain ⟨hO1, hO2⟩ := outer_step hi hP3 hE3
              obtain ⟨vsj, done, ej, dj, tdj, rj, trj, mnj, tmj⟩ := c
              clear hQ
              dsimp only at hE1 hE2 hE3 hO1 hO2 F2 N2
              repeat' (first | (k_unfold; (try dsimp only)) | walk1 | (dsimp only; walk1))
              · exact hret _ _ _ _ ⟨rfl, _, congrArg (fun z => Value.int z _) (hO1 (by assumption))⟩ (Fr.keep (by k_asm)) outE
              · k_dflt (refine' turnEndN ⟨vsj, done, ej, rj, trj⟩ ?Fy ?Ny ?hky ?hny ?hoy ?hay ?hpy; (case Fy => k_asm); (case Ny => k_asm); (case hky => repeat' (first | exact List.forall_mem_nil _ | (refine' List.forall_mem_cons.mpr ⟨?_, ?_⟩) | exact rfl)); (case hny => repeat' (first | exact List.forall_mem_nil _ | (refine' List.forall_mem_cons.mpr ⟨?_, ?_⟩) | k_mem)); (case hoy => (intro p hp; k_ownIn)); (case hay => exact rfl); (case hpy => exact ⟨hE1, hE2, hO2 (by assumption)⟩))
          case done =>
            intro c u h tk hP F1 N1
            obtain ⟨vs, ns, e, res, tr⟩ := c
            obtain ⟨hP1, hP2, hP3⟩ := hP
            dsimp only at hP1 hP2 hP3 F1 N1
            repeat' (first | (k_unfold; (try dsimp only)) | walk1 | (dsimp only; walk1))
            dsimp only
            rw [List.drop_length] at hP3
            exact hret _ _ _ _ ⟨rfl, _, congrArg (fun z => Value.int z _) hP3⟩ (Fr.keep (by k_asm)) outE
      · try dsimp only
        exact hret _ _ _ _ ⟨rfl, _, congrArg (fun z => Value.int z _) (lev1_b htgt (by assumption) (by assumption))⟩ (Fr.keep (by k_asm)) outE
      · try dsimp only
        exact hret _ _ _ _ ⟨rfl, _, congrArg (fun z => Value.int z _) (lev1_a htgt (by assumption))⟩ (Fr.keep (by k_asm)) outE
end Mine
theorem Mine.rows4_0 : True := by
  k_with_none
  (k_with "call builtin:max" => (k_here; (with_reducible show wpAny _ _ (call (Value.builtin _) [Value.int _ _, Value.int _ _, Value.int _ _]) _ _ _); (with_unfolding_all refine' Mine.max3 ?zz_k1 ?zz_k2 ?zz_k3 ?_; (case zz_k1 => rfl); (case zz_k2 => k_asm); (case zz_k3 => k_asm); k_whole); intro _ _ _ _ _))
  (k_with "call builtin:min" => (k_here; (with_reducible show wpAny _ _ (call (Value.builtin _) [Value.int _ _, Value.int _ _, Value.int _ _]) _ _ _); (with_unfolding_all refine' Mine.min3 ?zz_k1 ?zz_k2 ?zz_k3 ?_; (case zz_k1 => rfl); (case zz_k2 => k_asm); (case zz_k3 => k_asm); k_whole); intro _ _ _ _ _))
  (k_with "binaryOp Mult ref int" => (k_here; k_dflt (refine' Mine.mulOne ?zz_k1 ?zz_k2 ?zz_k3 ?zz_k4 ?zz_k5 ?_; (case zz_k1 => k_asm); (case zz_k2 => k_asm); (case zz_k3 => k_mem); (case zz_k4 => first | (first | lia | omega) | assumption | l_fact); (case zz_k5 => first | (first | lia | omega) | assumption | l_fact); k_whole); intro _ _ _ _ _ l1 _; (try k_lt l1); (try k_sweep)))
  (k_with "call builtin:divmod" => (k_here; (with_reducible show wpAny _ _ (call (Value.builtin _) [Value.int _ _, Value.int _ _]) _ _ _); refine divmod_N (by assumption) (by assumption) (by side_arith) ?_; intro _ _ _))
  (k_with "call builtin:len" => (k_here; (with_reducible show wpAny _ _ (call (Value.builtin _) [Value.ref _]) _ _ _); k_dflt (refine' Mine.lenN ?zz_k1 ?zz_k2 ?zz_k3 ?zz_k4 ?_; (case zz_k1 => k_asm); (case zz_k2 => k_mem); (case zz_k3 => with_reducible assumption); (case zz_k4 => ((try simp only [List.length_append, List.length_cons, List.length_nil, List.length_replicate, List.length_map]); (first | lia | omega))); k_whole); intro _ _))
  (k_with "binaryOp Sub int int" => (k_here; with_reducible refine' Mine.subIs ?zz_k1 ?_; (case zz_k1 => assumption)))
  (k_with "binaryOp Add int int" => (k_here; with_reducible refine' Mine.addIs ?zz_k1 ?_; (case zz_k1 => assumption)))
  (k_with "binaryOp Mult int int" => (k_here; with_reducible refine' Mine.mulIs ?zz_k1 ?zz_k2 ?_; (case zz_k1 => assumption); (case zz_k2 => exact Mine.bits64 (by (first | lia | omega)))))
  (k_with "binaryOp RShift int int" => (k_here; with_reducible refine' Mine.shrIs ?zz_k1 ?zz_k2 ?_; (case zz_k1 => assumption); (case zz_k2 => (first | lia | omega))))
  (k_with "binaryOp LShift int int" => (k_here; with_reducible refine' Mine.shlIs ?zz_k1 ?zz_k2 ?zz_k3 ?zz_k4 ?_; (case zz_k1 => assumption); (case zz_k2 => (first | lia | omega)); (case zz_k3 => (first | lia | omega)); (case zz_k4 => (first | lia | omega))))
  (k_with "binaryOp BitXor int int" => (k_here; with_reducible refine' Mine.xorIs ?zz_k1 ?_; (case zz_k1 => assumption)))
  (k_with "exec FunctionDef" => (k_here; kn_here; k_dflt (refine' nestDef_K ?zz_d0 ?zz_k0 ?zz_a0 ?_; (case zz_d0 => exact rfl); (case zz_k0 => exact rfl); (case zz_a0 => exact rfl)); (k_dflt (refine' Mine.nestBoth ?zz_F ?zz_N ?zz_T ?zz_C ?zz_cd ?zz_hs ?zz_ht ?zz_hP ?zz_hc ?zz_cl ?_; (case zz_F => k_asm); (case zz_N => k_asm); (case zz_T => k_asm); (case zz_cd => exact rfl); (case zz_C => kn_code); (case zz_hs => exact rfl); (case zz_ht => assumption); (case zz_hP => (dsimp only [List.dropLast]; k_all)); (case zz_hc => (dsimp only [List.dropLast]; k_all)); (case zz_cl => exact rfl); k_whole); intro _ _ _ _ _ _ _ _ _ _ N' _ _ l1 l2 _ _ _; (dsimp only [List.dropLast, List.append, HAppend.hAppend, Append.append] at N' l1 l2); (simp only [List.forall_mem_cons, List.forall_mem_nil, and_true] at l1 l2); (repeat (obtain ⟨_, l1⟩ := l1)); (repeat (obtain ⟨_, l2⟩ := l2)))))
  (k_with "call builtin:list.append" => (k_here; (with_reducible show wpAny _ _ (call (Value.builtin _) [Value.ref _, _]) _ _ _); k_dflt (refine' Mine.appendL ?zz_k1 ?zz_k2 ?zz_k3 ?zz_k4 ?_; (case zz_k1 => k_asm); (case zz_k2 => k_asm); (case zz_k3 => k_upd); (case zz_k4 => first | (first | lia | omega) | (simp only [List.length_nil, List.length_cons]; (first | lia | omega))); k_whole); intro _ _ _; (try k_sweep)))
  (k_with "call builtin:list.reverse" => (k_here; (with_reducible show wpAny _ _ (call (Value.builtin _) _) _ _ _); (try dsimp only); k_dflt (refine' Mine.reverseL ?zz_k1 ?zz_k2 ?zz_k3 ?zz_k4 ?zz_k5 ?_; (case zz_k1 => k_asm); (case zz_k2 => k_asm); (case zz_k3 => k_upd); (case zz_k4 => with_reducible assumption); (case zz_k5 => (first | lia | omega)); k_whole); intro _ _ _ _; (try k_sweep)))
  (k_with "unaryOp Invert int" => (k_here; with_reducible refine' Mine.invIs ?zz_k1 ?_; (case zz_k1 => assumption)))
  (k_with "execs cons" => (k_here; k_fold))
  (k_with "eval ListComp" => (k_here; k_fold))
  trivial
namespace Mine
noncomputable abbrev fr (a b : Int) : UInt64 := PySem.Float64.ofFrac (decide (a < 0) != decide (b < 0)) a.natAbs b.natAbs
noncomputable abbrev mx3 (r g b : Int) : Int := max (max r g) b
noncomputable abbrev mn3 (r g b : Int) : Int := min (min r g) b
noncomputable def hsvH (r g b : Int) : UInt64 :=
  if mn3 r g b = mx3 r g b then 0
  else if r = mx3 r g b then (PySem.Float64.divmod (PySem.Float64.div (PySem.Float64.sub (fr (mx3 r g b - b) (mx3 r g b - mn3 r g b)) (fr (mx3 r g b - g) (mx3 r g b - mn3 r g b))) 4618441417868443648) 4607182418800017408).2
  else if g = mx3 r g b then (PySem.Float64.divmod (PySem.Float64.div (PySem.Float64.sub (PySem.Float64.add 4611686018427387904 (fr (mx3 r g b - r) (mx3 r g b - mn3 r g b))) (fr (mx3 r g b - b) (mx3 r g b - mn3 r g b))) 4618441417868443648) 4607182418800017408).2
  else (PySem.Float64.divmod (PySem.Float64.div (PySem.Float64.sub (PySem.Float64.add 4616189618054758400 (fr (mx3 r g b - g) (mx3 r g b - mn3 r g b))) (fr (mx3 r g b - r) (mx3 r g b - mn3 r g b))) 4618441417868443648) 4607182418800017408).2
noncomputable def hsvS (r g b : Int) : UInt64 := if mn3 r g b = mx3 r g b then 0 else fr (mx3 r g b - mn3 r g b) (mx3 r g b)
noncomputable def HsvOk (r g b : Int) : Prop := mn3 r g b ≠ mx3 r g b → mx3 r g b ≠ 0 ∧ PySem.Float64.isInf (fr (mx3 r g b - mn3 r g b) (mx3 r g b)) = false ∧ PySem.Float64.isInf (fr (mx3 r g b - r) (mx3 r g b - mn3 r g b)) = false ∧ PySem.Float64.isInf (fr (mx3 r g b - g) (mx3 r g b - mn3 r g b)) = false ∧ PySem.Float64.isInf (fr (mx3 r g b - b) (mx3 r g b - mn3 r g b)) = false
noncomputable instance (r g b : Int) : Decidable (HsvOk r g b) := by unfold HsvOk; infer_instance
section
variable {r g b : Int}
theorem hsvH_0 (h : mn3 r g b = mx3 r g b) : 0 = hsvH r g b := by unfold hsvH; rw [if_pos h]
theorem hsvS_0 (h : mn3 r g b = mx3 r g b) : 0 = hsvS r g b := by unfold hsvS; rw [if_pos h]
theorem hsvS_1 (h : mn3 r g b ≠ mx3 r g b) : fr (mx3 r g b - mn3 r g b) (mx3 r g b) = hsvS r g b := by unfold hsvS; rw [if_neg h]
theorem hsvH_1 (h : mn3 r g b ≠ mx3 r g b) (h1 : r = mx3 r g b) : (PySem.Float64.divmod (PySem.Float64.div (PySem.Float64.sub (fr (mx3 r g b - b) (mx3 r g b - mn3 r g b)) (fr (mx3 r g b - g) (mx3 r g b - mn3 r g b))) 4618441417868443648) 4607182418800017408).2 = hsvH r g b := by unfold hsvH; rw [if_neg h, if_pos h1]
theorem hsvH_2 (h : mn3 r g b ≠ mx3 r g b) (h1 : r ≠ mx3 r g b) (h2 : g = mx3 r g b) : (PySem.Float64.divmod (PySem.Float64.div (PySem.Float64.sub (PySem.Float64.add 4611686018427387904 (fr (mx3 r g b - r) (mx3 r g b - mn3 r g b))) (fr (mx3 r g b - b) (mx3 r g b - mn3 r g b))) 4618441417868443648) 4607182418800017408).2 = hsvH r g b := by unfold hsvH; rw [if_neg h, if_neg h1, if_pos h2]
theorem hsvH_3 (h : mn3 r g b ≠ mx3 r g b) (h1 : r ≠ mx3 r g b) (h2 : g ≠ mx3 r g b) : (PySem.Float64.divmod (PySem.Float64.div (PySem.Float64.sub (PySem.Float64.add 4616189618054758400 (fr (mx3 r g b - g) (mx3 r g b - mn3 r g b))) (fr (mx3 r g b - r) (mx3 r g b - mn3 r g b))) 4618441417868443648) 4607182418800017408).2 = hsvH r g b := by unfold hsvH; rw [if_neg h, if_neg h1, if_neg h2]
end
theorem hsv_spec (w : World) (r g b : Int) (tr tg tb : Tok) (hok : HsvOk r g b) : C3 w 21 3 40 [] [.int r tr, .int g tg, .int b tb]
    (fun v n' => ∃ D x y t1 t2 t3, v = .ref D ∧ n' = [(D, tupOf [.float x t1, .float y t2, .int (mx3 r g b) t3])] ∧ x = hsvH r g b ∧ y = hsvS r g b) := by
  intro p loose mean mg mb dp un gd fr base g s R B X T st sz N hd hu hret
  k_dflt (refine' enterP ?k1 ?kst ?ksz ?kN ?kX ?kT ?k6 ?k7 ?k8 ?k9 ?kB ?_ ?c2 ?c3 ?c4 ?c5; (case k1 => exact B); (case kst => exact st); (case ksz => exact sz); (case kN => exact N); (case kX => exact X); (case kT => exact T); (case k6 => k_is); (case k7 => k_is); (case k8 => first | exact Mine.rm0 (by assumption) | ktr_room); (case k9 => exact BindsTo.of_eq rfl); (case c5 => decide); (case kB => exact locs rfl); (case c2 => exact rfl); (case c3 => exact rfl); (case c4 => exact rfl); k_whole; intro L' h' F' N' l0; (try dsimp only); (try k_lt l0); (try k_fold))
  repeat' (first | (k_unfold; (try dsimp only)) | walk1 | (dsimp only; walk1))
  · exact hret _ _ _ _ ⟨_, _, _, _, _, _, rfl, rfl, hsvH_0 (by assumption), hsvS_0 (by assumption)⟩ (Fr.keep (by k_asm)) (out (by k_asm))
  · exact absurd (by assumption) (hok (by assumption)).1
  · exact absurd ((hok (by assumption)).2.1.symm.trans (by assumption)) Bool.false_ne_true
  · exact absurd ((hok (by assumption)).2.2.1.symm.trans (by assumption)) Bool.false_ne_true
  · exact absurd ((hok (by assumption)).2.2.2.1.symm.trans (by assumption)) Bool.false_ne_true
  · exact absurd ((hok (by assumption)).2.2.2.2.symm.trans (by assumption)) Bool.false_ne_true
  · exact hret _ _ _ _ ⟨_, _, _, _, _, _, rfl, rfl, hsvH_1 (by assumption) (by assumption), hsvS_1 (by assumption)⟩ (Fr.keep (by k_asm)) (out (by k_asm))
  · exact hret _ _ _ _ ⟨_, _, _, _, _, _, rfl, rfl, hsvH_2 (by assumption) (by assumption) (by assumption), hsvS_1 (by assumption)⟩ (Fr.keep (by k_asm)) (out (by k_asm))
  · exact hret _ _ _ _ ⟨_, _, _, _, _, _, rfl, rfl, hsvH_3 (by assumption) (by assumption) (by assumption), hsvS_1 (by assumption)⟩ (Fr.keep (by k_asm)) (out (by k_asm))
end Mine
theorem Mine.rows5_0 : True := by
  k_with_none
  (k_with "call builtin:max" => (k_here; (with_reducible show wpAny _ _ (call (Value.builtin _) [Value.int _ _, Value.int _ _, Value.int _ _]) _ _ _); (with_unfolding_all refine' Mine.max3 ?zz_k1 ?zz_k2 ?zz_k3 ?_; (case zz_k1 => rfl); (case zz_k2 => k_asm); (case zz_k3 => k_asm); k_whole); intro _ _ _ _ _))
  (k_with "call builtin:min" => (k_here; (with_reducible show wpAny _ _ (call (Value.builtin _) [Value.int _ _, Value.int _ _, Value.int _ _]) _ _ _); (with_unfolding_all refine' Mine.min3 ?zz_k1 ?zz_k2 ?zz_k3 ?_; (case zz_k1 => rfl); (case zz_k2 => k_asm); (case zz_k3 => k_asm); k_whole); intro _ _ _ _ _))
  (k_with "binaryOp Mult ref int" => (k_here; k_dflt (refine' Mine.mulOne ?zz_k1 ?zz_k2 ?zz_k3 ?zz_k4 ?zz_k5 ?_; (case zz_k1 => k_asm); (case zz_k2 => k_asm); (case zz_k3 => k_mem); (case zz_k4 => first | (first | lia | omega) | assumption | l_fact); (case zz_k5 => first | (first | lia | omega) | assumption | l_fact); k_whole); intro _ _ _ _ _ l1 _; (try k_lt l1); (try k_sweep)))
  (k_with "call builtin:divmod" => (k_here; (with_reducible show wpAny _ _ (call (Value.builtin _) [Value.int _ _, Value.int _ _]) _ _ _); refine divmod_N (by assumption) (by assumption) (by side_arith) ?_; intro _ _ _))
  (k_with "call builtin:len" => (k_here; (with_reducible show wpAny _ _ (call (Value.builtin _) [Value.ref _]) _ _ _); k_dflt (refine' Mine.lenN ?zz_k1 ?zz_k2 ?zz_k3 ?zz_k4 ?_; (case zz_k1 => k_asm); (case zz_k2 => k_mem); (case zz_k3 => with_reducible assumption); (case zz_k4 => ((try simp only [List.length_append, List.length_cons, List.length_nil, List.length_replicate, List.length_map]); (first | lia | omega))); k_whole); intro _ _))
  (k_with "binaryOp Sub int int" => (k_here; with_reducible refine' Mine.subIs ?zz_k1 ?_; (case zz_k1 => assumption)))
  (k_with "binaryOp Add int int" => (k_here; with_reducible refine' Mine.addIs ?zz_k1 ?_; (case zz_k1 => assumption)))
  (k_with "binaryOp Mult int int" => (k_here; with_reducible refine' Mine.mulIs ?zz_k1 ?zz_k2 ?_; (case zz_k1 => assumption); (case zz_k2 => exact Mine.bits64 (by (first | lia | omega)))))
  (k_with "binaryOp RShift int int" => (k_here; with_reducible refine' Mine.shrIs ?zz_k1 ?zz_k2 ?_; (case zz_k1 => assumption); (case zz_k2 => (first | lia | omega))))
  (k_with "binaryOp LShift int int" => (k_here; with_reducible refine' Mine.shlIs ?zz_k1 ?zz_k2 ?zz_k3 ?zz_k4 ?_; (case zz_k1 => assumption); (case zz_k2 => (first | lia | omega)); (case zz_k3 => (first | lia | omega)); (case zz_k4 => (first | lia | omega))))
  (k_with "binaryOp BitXor int int" => (k_here; with_reducible refine' Mine.xorIs ?zz_k1 ?_; (case zz_k1 => assumption)))
  (k_with "exec FunctionDef" => (k_here; kn_here; k_dflt (refine' nestDef_K ?zz_d0 ?zz_k0 ?zz_a0 ?_; (case zz_d0 => exact rfl); (case zz_k0 => exact rfl); (case zz_a0 => exact rfl)); (k_dflt (refine' Mine.nestBoth ?zz_F ?zz_N ?zz_T ?zz_C ?zz_cd ?zz_hs ?zz_ht ?zz_hP ?zz_hc ?zz_cl ?_; (case zz_F => k_asm); (case zz_N => k_asm); (case zz_T => k_asm); (case zz_cd => exact rfl); (case zz_C => kn_code); (case zz_hs => exact rfl); (case zz_ht => assumption); (case zz_hP => (dsimp only [List.dropLast]; k_all)); (case zz_hc => (dsimp only [List.dropLast]; k_all)); (case zz_cl => exact rfl); k_whole); intro _ _ _ _ _ _ _ _ _ _ N' _ _ l1 l2 _ _ _; (dsimp only [List.dropLast, List.append, HAppend.hAppend, Append.append] at N' l1 l2); (simp only [List.forall_mem_cons, List.forall_mem_nil, and_true] at l1 l2); (repeat (obtain ⟨_, l1⟩ := l1)); (repeat (obtain ⟨_, l2⟩ := l2)))))
  (k_with "call builtin:list.append" => (k_here; (with_reducible show wpAny _ _ (call (Value.builtin _) [Value.ref _, _]) _ _ _); k_dflt (refine' Mine.appendL ?zz_k1 ?zz_k2 ?zz_k3 ?zz_k4 ?_; (case zz_k1 => k_asm); (case zz_k2 => k_asm); (case zz_k3 => k_upd); (case zz_k4 => first | (first | lia | omega) | (simp only [List.length_nil, List.length_cons]; (first | lia | omega))); k_whole); intro _ _ _; (try k_sweep)))
  (k_with "call builtin:list.reverse" => (k_here; (with_reducible show wpAny _ _ (call (Value.builtin _) _) _ _ _); (try dsimp only); k_dflt (refine' Mine.reverseL ?zz_k1 ?zz_k2 ?zz_k3 ?zz_k4 ?zz_k5 ?_; (case zz_k1 => k_asm); (case zz_k2 => k_asm); (case zz_k3 => k_upd); (case zz_k4 => with_reducible assumption); (case zz_k5 => (first | lia | omega)); k_whole); intro _ _ _ _; (try k_sweep)))
  (k_with "unaryOp Invert int" => (k_here; with_reducible refine' Mine.invIs ?zz_k1 ?_; (case zz_k1 => assumption)))
  (k_with "execs cons" => (k_here; k_fold))
  (k_with "eval ListComp" => (k_here; k_fold))
  trivial
namespace Mine
inductive FI where
  | i (n : Int)
  | f (b : UInt64)
noncomputable def FI.val : FI → Tok → Value
  | .i n, t => .int n t
  | .f b, t => .float b t
noncomputable abbrev one64 : UInt64 := 4607182418800017408
noncomputable abbrev h6 (h : UInt64) : UInt64 := PySem.Float64.mul h 4618441417868443648
noncomputable abbrev i6 (h : UInt64) : Int := PySem.Flt.toInt PySem.Float64.truncOf (h6 h)
noncomputable abbrev f6 (h : UInt64) : UInt64 := PySem.Float64.sub (h6 h) (PySem.Float64.ofInt (i6 h))
noncomputable abbrev rgbP (y v : UInt64) : UInt64 := PySem.Float64.mul v (PySem.Float64.sub one64 y)
noncomputable abbrev rgbQ (h y v : UInt64) : UInt64 := PySem.Float64.mul v (PySem.Float64.sub one64 (PySem.Float64.mul y (f6 h)))
noncomputable abbrev rgbT (h y v : UInt64) : UInt64 := PySem.Float64.mul v (PySem.Float64.sub one64 (PySem.Float64.mul y (PySem.Float64.sub one64 (f6 h))))
noncomputable def rgbF (c : Bool) (h y : UInt64) (v : Int) : FI × FI × FI :=
  if c = true then (.i v, .i v, .i v)
  else if (i6 h).fmod 6 = 0 then (.i v, .f (rgbT h y (PySem.Float64.ofInt v)), .f (rgbP y (PySem.Float64.ofInt v)))
  else if (i6 h).fmod 6 = 1 then (.f (rgbQ h y (PySem.Float64.ofInt v)), .i v, .f (rgbP y (PySem.Float64.ofInt v)))
  else if (i6 h).fmod 6 = 2 then (.f (rgbP y (PySem.Float64.ofInt v)), .i v, .f (rgbT h y (PySem.Float64.ofInt v)))
  else if (i6 h).fmod 6 = 3 then (.f (rgbP y (PySem.Float64.ofInt v)), .f (rgbQ h y (PySem.Float64.ofInt v)), .i v)
  else if (i6 h).fmod 6 = 4 then (.f (rgbT h y (PySem.Float64.ofInt v)), .f (rgbP y (PySem.Float64.ofInt v)), .i v)
  else (.i v, .f (rgbP y (PySem.Float64.ofInt v)), .f (rgbQ h y (PySem.Float64.ofInt v)))
noncomputable def RgbOk (c : Bool) (h : UInt64) (v : Int) : Prop := c = false → PySem.Float64.isNaN (h6 h) = false ∧ PySem.Float64.isInf (h6 h) = false ∧ ¬ (2 ^ 1024 - 2 ^ 970 ≤ (i6 h).natAbs) ∧ ¬ (2 ^ 1024 - 2 ^ 970 ≤ v.natAbs)
noncomputable instance (c : Bool) (h : UInt64) (v : Int) : Decidable (RgbOk c h v) := by unfold RgbOk; infer_instance
theorem six {z : Int} (h0 : z.fmod 6 ≠ 0) (h1 : z.fmod 6 ≠ 1) (h2 : z.fmod 6 ≠ 2) (h3 : z.fmod 6 ≠ 3) (h4 : z.fmod 6 ≠ 4) (h5 : z.fmod 6 ≠ 5) : False := by
  rw [Int.fmod_eq_emod_of_nonneg _ (by decide)] at *
  (first | lia | omega)
section
variable {c : Bool} {h y : UInt64} {v : Int}
theorem rgb_g (e : c = true) : rgbF c h y v = (.i v, .i v, .i v) := by unfold rgbF; rw [if_pos e]
theorem ne_t {b : Bool} (e : b = false) : ¬ b = true := by rw [e]; decide
theorem rgb_0 (e : c = false) (a : (i6 h).fmod 6 = 0) : rgbF c h y v = (.i v, .f (rgbT h y (PySem.Float64.ofInt v)), .f (rgbP y (PySem.Float64.ofInt v))) := by unfold rgbF; rw [if_neg (ne_t e), if_pos a]
theorem rgb_1 (e : c = false) (a : (i6 h).fmod 6 = 1) : rgbF c h y v = (.f (rgbQ h y (PySem.Float64.ofInt v)), .i v, .f (rgbP y (PySem.Float64.ofInt v))) := by unfold rgbF; rw [if_neg (ne_t e), if_neg (by rw [a]; decide), if_pos a]
theorem rgb_2 (e : c = false) (a : (i6 h).fmod 6 = 2) : rgbF c h y v = (.f (rgbP y (PySem.Float64.ofInt v)), .i v, .f (rgbT h y (PySem.Float64.ofInt v))) := by unfold rgbF; rw [if_neg (ne_t e), if_neg (by rw [a]; decide), if_neg (by rw [a]; decide), if_pos a]
theorem rgb_3 (e : c = false) (a : (i6 h).fmod 6 = 3) : rgbF c h y v = (.f (rgbP y (PySem.Float64.ofInt v)), .f (rgbQ h y (PySem.Float64.ofInt v)), .i v) := by unfold rgbF; rw [if_neg (ne_t e), if_neg (by rw [a]; decide), if_neg (by rw [a]; decide), if_neg (by rw [a]; decide), if_pos a]
theorem rgb_4 (e : c = false) (a : (i6 h).fmod 6 = 4) : rgbF c h y v = (.f (rgbT h y (PySem.Float64.ofInt v)), .f (rgbP y (PySem.Float64.ofInt v)), .i v) := by unfold rgbF; rw [if_neg (ne_t e), if_neg (by rw [a]; decide), if_neg (by rw [a]; decide), if_neg (by rw [a]; decide), if_neg (by rw [a]; decide), if_pos a]
theorem rgb_5 (e : c = false) (a : (i6 h).fmod 6 = 5) : rgbF c h y v = (.i v, .f (rgbP y (PySem.Float64.ofInt v)), .f (rgbQ h y (PySem.Float64.ofInt v))) := by unfold rgbF; rw [if_neg (ne_t e), if_neg (by rw [a]; decide), if_neg (by rw [a]; decide), if_neg (by rw [a]; decide), if_neg (by rw [a]; decide), if_neg (by rw [a]; decide)]
end
theorem rgb_spec (w : World) (h y : UInt64) (v : Int) (th ty tv : Tok) (hok : RgbOk (PySem.Float64.cmp y 0 == some Ordering.eq) h v) : C3 w 28 3 40 [] [.float h th, .float y ty, .int v tv]
    (fun z n' => ∃ D x1 x2 x3 t1 t2 t3, z = .ref D ∧ n' = [(D, tupOf [FI.val x1 t1, FI.val x2 t2, FI.val x3 t3])] ∧ rgbF (PySem.Float64.cmp y 0 == some Ordering.eq) h y v = (x1, x2, x3)) := by
  intro p loose mean mg mb dp un gd fr base g s R B X T st sz N hd hu hret
  k_dflt (refine' enterP ?k1 ?kst ?ksz ?kN ?kX ?kT ?k6 ?k7 ?k8 ?k9 ?kB ?_ ?c2 ?c3 ?c4 ?c5; (case k1 => exact B); (case kst => exact st); (case ksz => exact sz); (case kN => exact N); (case kX => exact X); (case kT => exact T); (case k6 => k_is); (case k7 => k_is); (case k8 => first | exact Mine.rm0 (by assumption) | ktr_room); (case k9 => exact BindsTo.of_eq rfl); (case c5 => decide); (case kB => exact locs rfl); (case c2 => exact rfl); (case c3 => exact rfl); (case c4 => exact rfl); k_whole; intro L' h' F' N' l0; (try dsimp only); (try k_lt l0); (try k_fold))
  repeat' (first | (k_unfold; (try dsimp only)) | walk1 | (dsimp only; walk1))
  · exact hret _ _ _ _ ⟨_, .i v, .i v, .i v, _, _, _, rfl, rfl, rgb_g (by assumption)⟩ (Fr.keep (by k_asm)) (out (by k_asm))
  · exact absurd ((hok (by assumption)).1.symm.trans (by assumption)) Bool.false_ne_true
  · exact absurd ((hok (by assumption)).2.1.symm.trans (by assumption)) Bool.false_ne_true
  · exact absurd (by assumption) (hok (by assumption)).2.2.1
  · exact absurd (by assumption) (hok (by assumption)).2.2.2
  · exact hret _ _ _ _ ⟨_, .i v, .f _, .f _, _, _, _, rfl, rfl, rgb_0 (by assumption) (by assumption)⟩ (Fr.keep (by k_asm)) (out (by k_asm))
  · exact hret _ _ _ _ ⟨_, .f _, .i v, .f _, _, _, _, rfl, rfl, rgb_1 (by assumption) (by assumption)⟩ (Fr.keep (by k_asm)) (out (by k_asm))
  · exact hret _ _ _ _ ⟨_, .f _, .i v, .f _, _, _, _, rfl, rfl, rgb_2 (by assumption) (by assumption)⟩ (Fr.keep (by k_asm)) (out (by k_asm))
  · exact hret _ _ _ _ ⟨_, .f _, .f _, .i v, _, _, _, rfl, rfl, rgb_3 (by assumption) (by assumption)⟩ (Fr.keep (by k_asm)) (out (by k_asm))
  · exact hret _ _ _ _ ⟨_, .f _, .f _, .i v, _, _, _, rfl, rfl, rgb_4 (by assumption) (by assumption)⟩ (Fr.keep (by k_asm)) (out (by k_asm))
  · exact hret _ _ _ _ ⟨_, .i v, .f _, .f _, _, _, _, rfl, rfl, rgb_5 (by assumption) (by assumption)⟩ (Fr.keep (by k_asm)) (out (by k_asm))
  · exact (six (by assumption) (by assumption) (by assumption) (by assumption) (by assumption) (by assumption)).elim
end Mine
theorem Mine.rows6 : True := by
  k_with_none
  trivial
namespace Mine
theorem ints_of_mem : ∀ (ws : List Value), (∀ v ∈ ws, ∃ (n : Int) (t : Tok), v = Value.int n t) → ∃ ms : List Int, IntsAre ws ms ∧ ms.length = ws.length
  | [], _ => ⟨[], .nil, rfl⟩
  | v :: ws, h => by
    obtain ⟨n, t, rfl⟩ := h v (.head _)
    obtain ⟨ms, hm, hl⟩ := ints_of_mem ws fun z hz => h z (.tail _ hz)
    exact ⟨n :: ms, .cons n t hm, by simp [hl]⟩
theorem mem_of_ints : ∀ {vs : List Value} {ns : List Int}, IntsAre vs ns → ∀ v ∈ vs, ∃ (n : Int) (t : Tok), v = Value.int n t
  | _, _, .cons n t h, v, hv => by
    rcases List.mem_cons.mp hv with rfl | hv
    · exact ⟨n, t, rfl⟩
    · exact mem_of_ints h v hv
theorem slicePick_mem {items : Array Value} {lo hi st : Option Int} {v : Value} (h : v ∈ (slicePick items lo hi st).toList) : v ∈ items.toList := by
  unfold slicePick at h
  obtain ⟨i, _, hi⟩ := List.mem_filterMap.mp h
  exact Array.mem_toList_iff.mpr (Array.mem_of_getElem? hi)
section
variable {prog : Program} {w : World} {A : Around} {E : Value → Shared → Prop} {s : Shared} {h₀ : Heap} {L l : Addr} {m : Str → Option Value} {news : List (Addr × Obj)} {value slice : PySem.Expr} {vs : List Value} {ns : List Int} {vl vu vk : Value} {lo up st : Option Int} {ops : List Value} {Q : Value → Shared → Prop}
theorem stepSl (F : Fr h₀ L s.heap m) (N : News h₀ L s.heap news) (hl : s.heap.IsList l vs.toArray) (pl : IsPart vl lo) (pu : IsPart vu up) (pk : IsPart vk st) (h0 : st ≠ some 0) (hi : IntsAre vs ns) (hn : ns.length ≤ 1000)
    (h : ∀ D ws ms h', Fr h₀ L h' m → News h₀ L h' ((D, listOf (List.toArray ws) 0) :: news) → (∀ p ∈ news, p.1 < D) → IntsAre ws ms → ms.length ≤ 1000 → Q (.ref D) { s with heap := h' })
    (hs : subscripted slice false (.ref l) (.ref s.heap.objs.size) = operate ops (getItem (.ref l) (.ref s.heap.objs.size))) (ht : ∀ r, letTemporaryGo value (.ref l) r = pure ()) :
    wpAny (model prog w) A (subscriptTail value slice (.ref l) (.ref s.heap.objs.size)) Q E { s with heap := s.heap.push { cls := .type "slice", data := .fields #[vl, vu, vk] } } := by
  have hz : vs.toArray.size ≤ 1000 := by rw [List.size_toArray, hi.length]; exact hn
  have hp := slicePick_size_le vs.toArray lo up st
  obtain ⟨ms, hm, hlen⟩ := ints_of_mem (slicePick vs.toArray lo up st).toList fun v hv => mem_of_ints hi v (slicePick_mem hv)
  refine slice_list3 F N hl pl pu pk h0 (fun h' F' N' => h _ (slicePick vs.toArray lo up st).toList ms h' F' ?_ (fun p hp => Nat.lt_succ_of_lt (Heap.lt_size (N p hp).1)) hm (by rw [hlen, Array.length_toList]; (first | lia | omega))) hs ht (by unfold sizeLine; (first | lia | omega))
  rw [Array.toArray_toList]
  exact N'
end
end Mine
namespace Mine
section
variable {prog : Program} {w : World} {A : Around} {E : Value → Shared → Prop} {s : Shared} {env : Env} {h₀ : Heap} {x : Str} {body : List Stmt} {Q : Flow → Shared → Prop}
noncomputable def FEnd (h₀ : Heap) (L : Addr) {σ : Type} (Led : σ → List (Addr × Obj)) (ps : σ → List (Str × Value)) (P : σ → Prop) (it : Addr × Obj) (s₁ s₂ : Shared) : Prop :=
  ∃ (c' : σ) (h' : Heap) (tk : Nat) (m' : Str → Option Value) (news' : List (Addr × Obj)), s₂ = { s₁ with heap := h', toks := tk } ∧ Fr h₀ L h' m' ∧ News h₀ L h' news' ∧ (∀ p ∈ Led c', p ∈ news') ∧ it ∈ news' ∧ (∀ p ∈ Led c', p.1 ≠ it.1) ∧ (∀ p ∈ ps c', m' p.1 = some p.2) ∧ P c'
noncomputable def FPost (h₀ : Heap) (L : Addr) {σ : Type} (Led : σ → List (Addr × Obj)) (ps : σ → List (Str × Value)) (P : σ → Prop) (it : Addr × Obj) (s₁ : Shared) (Q : Flow → Shared → Prop) (f : Flow) (s₂ : Shared) : Prop :=
  match f with
  | .ret v => Q (.ret v) s₂
  | .brk => Q .next s₂
  | _ => FEnd h₀ L Led ps P it s₁ s₂
theorem fEnd {σ : Type} {L : Addr} {Led : σ → List (Addr × Obj)} {ps : σ → List (Str × Value)} {P : σ → Prop} {it : Addr × Obj} {s₁ : Shared} {h' : Heap} {tk : Nat} {m' : Str → Option Value} {news' : List (Addr × Obj)} (c : σ)
    (F : Fr h₀ L h' m') (N : News h₀ L h' news') (hk : ∀ p ∈ ps c, m' p.1 = some p.2) (hn : ∀ p ∈ Led c, p ∈ news') (hi : it ∈ news') (ho : ∀ p ∈ Led c, p.1 ≠ it.1) (hp : P c) :
    FPost h₀ L Led ps P it s₁ Q .next { s₁ with heap := h', toks := tk } := ⟨c, h', tk, m', news', rfl, F, N, hn, hi, ho, hk, hp⟩
theorem loopF {σ : Type} {I : Addr} {fp : List Addr} {n : Nat} {Pv : Nat → Value → Prop} {St : Nat → Heap → Prop} {m₀ : Str → Option Value} (Led : σ → List (Addr × Obj)) (ps : σ → List (Str × Value)) (P : Nat → σ → Prop) (c₀ : σ)
    (W : Walks prog w A I fp [I] n Pv St) (hLf : env.locals ∉ fp) (hI : h₀.get? I = none) (hS : ∀ i h, St i h → ∃ o, h.get? I = some o) (hIf : I ∈ fp) (hfp : ∀ b ∈ fp, b = I ∨ ∃ o, ∀ c, (b, o) ∈ Led c)
    (hoff : ∀ q ∈ Led c₀, q.1 ≠ I) (hst : St 0 s.heap) (F : Fr h₀ env.locals s.heap m₀) (N : News h₀ env.locals s.heap (Led c₀)) (hk : ∀ p ∈ ps c₀, m₀ p.1 = some p.2) (hp : P 0 c₀)
    (turn : ∀ i v (c : σ) (u : Str → Option Value) h tk oI, i < n → Pv i v → P i c → (∀ q ∈ Led c, q.1 ≠ I) → Fr h₀ env.locals h (fun y => if y = x then some v else kstB u (ps c) y) → News h₀ env.locals h (Led c ++ [(I, oI)]) →
      wpAny (model prog w) A (execs body env) (FPost h₀ env.locals Led ps (P (i + 1)) (I, oI) { s with heap := h, toks := tk } Q) E { s with heap := h, toks := tk })
    (done : ∀ (c : σ) (u : Str → Option Value) h tk, P n c → Fr h₀ env.locals h (kstB u (ps c)) → News h₀ env.locals h (Led c) → Q .next { s with heap := h, toks := tk }) :
    LoopAtV prog w A h₀ env x body Q E (.ref I) s := by
  refine ⟨I, fp, [I], n, Pv, St, m₀, Led c₀, fun i m nx => ∃ c, nx = Led c ∧ (∀ p ∈ ps c, m p.1 = some p.2) ∧ P i c, rfl, W, hLf, ?_, ?_, hst, F, N, ⟨c₀, rfl, hk, hp⟩, ?_, ?_⟩
  · intro b hb; rw [List.mem_singleton.mp hb]; exact hI
  · intro p hp hm; exact hoff p hp (List.mem_singleton.mp hm)
  · rintro i v m₁ news₁ s₁ own ⟨hh', tk', rfl⟩ hin hP ⟨c, rfl, h1, h2⟩ hoffc hown hget hcov hst' F₁ N₁
    obtain ⟨oI, hoI⟩ := hS _ _ hst'
    have hmI := hcov I hIf hI oI hoI
    have hoff1 : ∀ q ∈ Led c, q.1 ≠ I := fun q hq e => hoffc q hq (by rw [e]; exact List.mem_singleton.mpr rfl)
    refine wpAny_mono (turn i v c m₁ hh' tk' oI hin hP h2 hoff1 (by rw [show (fun y => if y = x then some v else kstB m₁ (ps c) y) = fun y => if y = x then some v else m₁ y from by rw [kstB_self h1]]; exact F₁) (fun p hp => N₁ p ((List.mem_append.mp hp).elim (fun z => List.mem_append_right _ z) fun z => List.mem_append_left _ (List.mem_singleton.mp z ▸ hmI)))) (fun f s₂ p => ?_) fun _ _ e => e
    have fin : FEnd h₀ env.locals Led ps (P (i + 1)) (I, oI) { s with heap := hh', toks := tk' } s₂ → LoopStepU h₀ env.locals [I] own (fun m nx => ∃ c, nx = Led c ∧ (∀ p ∈ ps c, m p.1 = some p.2) ∧ P (i + 1) c) { s with heap := hh', toks := tk' } .next s₂ := by
      rintro ⟨c', h', tk, m', news', e, F', N', hn, hi, ho, hk', hp'⟩
      refine ⟨rfl, h', tk, m', Led c', e, F', fun p hp => ?_, fun p hp hq => ho p hp (List.mem_singleton.mp hq), c', rfl, hk', hp'⟩
      rcases List.mem_append.mp hp with hp | hp
      · rcases hfp _ (hown p hp) with e1 | ⟨o, ho'⟩
        · have e2 := hget p hp
          rw [e1, hoI] at e2
          have : p = (I, oI) := by obtain ⟨p1, p2⟩ := p; simp at e1 e2; rw [e1, e2]
          rw [this]; exact N' _ hi
        · have e2 := hget p hp
          have e3 := (N₁ _ (List.mem_append_right _ (ho' c))).1
          rw [e2] at e3
          have : p = (p.1, o) := by obtain ⟨p1, p2⟩ := p; simp at e3; rw [e3]
          rw [this]; exact N' _ (hn _ (ho' c'))
      · exact N' p (hn p hp)
    cases f with
    | ret v => exact .ret p
    | brk => exact .brk p
    | next => exact .next (fin p)
    | cont => exact .cont (fin p)
  · rintro h' tk m' news' F' N' _ ⟨c, rfl, h1, h2⟩
    exact done c m' h' tk h2 (by rw [kstB_self h1]; exact F') N'
theorem loopL {σ : Type} {ax : Addr} {vs : List Value} {ns : List Int} {e : Nat} {m₀ : Str → Option Value} (Led : σ → List (Addr × Obj)) (ps : σ → List (Str × Value)) (P : Nat → σ → Prop) (c₀ : σ)
    (hh : A.handled = none) (hi : IntsAre vs ns) (hax : ∀ c, (ax, listOf vs.toArray e) ∈ Led c) (F : Fr h₀ env.locals s.heap m₀) (N : News h₀ env.locals s.heap (Led c₀)) (hk : ∀ p ∈ ps c₀, m₀ p.1 = some p.2) (hp : P 0 c₀)
    (turn : ∀ i t (c : σ) (u : Str → Option Value) h tk I oI, i < ns.length → P i c → (∀ q ∈ Led c, q.1 ≠ I) → Fr h₀ env.locals h (fun y => if y = x then some (.int (ns.getD i 0) t) else kstB u (ps c) y) → News h₀ env.locals h (Led c ++ [(I, oI)]) →
      wpAny (model prog w) A (execs body env) (FPost h₀ env.locals Led ps (P (i + 1)) (I, oI) { s with heap := h, toks := tk } Q) E { s with heap := h, toks := tk })
    (done : ∀ (c : σ) (u : Str → Option Value) h tk, P ns.length c → Fr h₀ env.locals h (kstB u (ps c)) → News h₀ env.locals h (Led c) → Q .next { s with heap := h, toks := tk }) :
    wpAny (model prog w) A (pyIter (.ref ax)) (fun it s₂ => LoopAtV prog w A h₀ env x body Q E it s₂) E s := by
  have hls : s.heap.IsList ax vs.toArray := PySem.IsL.isList (n := e) (N _ (hax c₀)).1
  have hne : ax ≠ s.heap.objs.size := Nat.ne_of_lt (Heap.lt_size (N _ (hax c₀)).1)
  refine wpAny_pyIter_list hls ?_
  have W := Walks.list (prog := prog) (w := w) hh s.heap.objs.size ax hne vs.toArray
  have hlen : vs.toArray.size = ns.length := by simp [hi.length]
  rw [hlen] at W
  refine loopF Led ps P c₀ W ?_ (next_is_new F) (fun i h st => by obtain ⟨o, e, _⟩ := st.1; exact ⟨o, e⟩) (.head _) (fun b hb => ?_) (fun q hq => Nat.ne_of_lt (Heap.lt_size (N q hq).1)) ⟨⟨_, Heap.get?_push_size _ rfl, rfl, rfl⟩, hls.at fun o e => Heap.get?_push_of_some _ e⟩ (F.push _) (fun p hp => ⟨Heap.get?_push_of_some _ (N p hp).1, (N p hp).2⟩) hk hp ?_ done
  · intro hm
    rcases List.mem_cons.mp hm with e | hm
    · exact absurd F.ns.lt (e ▸ Nat.lt_irrefl _)
    · exact (N _ (hax c₀)).2.1 (List.mem_singleton.mp hm).symm
  · rcases List.mem_cons.mp hb with rfl | hb
    · exact .inl rfl
    · exact .inr ⟨_, fun c => by rw [List.mem_singleton.mp hb]; exact hax c⟩
  · rintro i v c u h tk oI hin hP hPc hoff F₁ N₁
    obtain ⟨t, hx⟩ := hi.get i ns[i] (by simp [hin])
    have hv : v = .int (ns.getD i 0) t := by
      have hP' : vs[i]? = some v := by simpa using hP
      rw [hx] at hP'
      have : ns.getD i 0 = ns[i] := by simp [List.getD, hin]
      rw [this]; exact (Option.some.inj hP').symm
    subst hv
    exact turn i t c u h tk _ oI hin hPc hoff F₁ N₁
theorem loopRF {σ : Type} {r : Addr} {n : Nat} {t u v : Tok} {m₀ : Str → Option Value} (Led : σ → List (Addr × Obj)) (ps : σ → List (Str × Value)) (P : Nat → σ → Prop) (c₀ : σ)
    (hh : A.handled = none) (hr : IsRange s.heap r 0 (n : Int) 1 t u v) (hn : n < 2 ^ 30) (F : Fr h₀ env.locals s.heap m₀) (N : News h₀ env.locals s.heap (Led c₀)) (hk : ∀ p ∈ ps c₀, m₀ p.1 = some p.2) (hp : P 0 c₀)
    (turn : ∀ i ti (c : σ) (u : Str → Option Value) h tk I oI, i < n → P i c → (∀ q ∈ Led c, q.1 ≠ I) → Fr h₀ env.locals h (fun y => if y = x then some (.int (i : Nat) ti) else kstB u (ps c) y) → News h₀ env.locals h (Led c ++ [(I, oI)]) →
      wpAny (model prog w) A (execs body env) (FPost h₀ env.locals Led ps (P (i + 1)) (I, oI) { s with heap := h, toks := tk } Q) E { s with heap := h, toks := tk })
    (done : ∀ (c : σ) (u : Str → Option Value) h tk, P n c → Fr h₀ env.locals h (kstB u (ps c)) → News h₀ env.locals h (Led c) → Q .next { s with heap := h, toks := tk }) :
    wpAny (model prog w) A (pyIter (.ref r)) (fun it s₂ => LoopAtV prog w A h₀ env x body Q E it s₂) E s := by
  refine wpAny_pyIter_range hr (rsm n hn) ?_
  have W : Walks prog w A s.heap.objs.size [s.heap.objs.size] [s.heap.objs.size] n (fun i v => i < n ∧ ∃ t, v = .int ((0 : Int) + i * 1) t)
      (fun i h => IsRangeIter h s.heap.objs.size (0 + (i : Nat) * 1) ((n : Int) - (i : Nat)) 1) := (Walks.range hh _ 0 1 n).bound
  refine loopF Led ps P c₀ W ?_ (next_is_new F) (fun i h st => ⟨_, st⟩) (.head _) (fun b hb => .inl (List.mem_singleton.mp hb)) (fun q hq => Nat.ne_of_lt (Heap.lt_size (N q hq).1)) (by show IsRangeIter _ _ _ _ _; rw [rsz]; simpa using Heap.get?_push_size _ rfl) (F.push _) (fun p hp => ⟨Heap.get?_push_of_some _ (N p hp).1, (N p hp).2⟩) hk hp ?_ done
  · intro hm
    exact absurd F.ns.lt ((List.mem_singleton.mp hm) ▸ Nat.lt_irrefl _)
  · rintro i v c u h tk oI hi ⟨_, t, rfl⟩ hP hoff F₁ N₁
    have e1 : (0 : Int) + (i : Int) * 1 = ((i : Nat) : Int) := by (first | lia | omega)
    rw [e1] at F₁
    exact turn i t c u h tk _ oI hi hP hoff F₁ N₁
end
end Mine
namespace Mine
theorem neA {a D : Nat} {o : Obj} {l : List (Addr × Obj)} (h : ∀ q ∈ l, q.1 ≠ D) (m : (a, o) ∈ l) : a ≠ D := h _ m
theorem neA' {a D : Nat} {o : Obj} {l : List (Addr × Obj)} (h : ∀ q ∈ l, q.1 ≠ D) (m : (a, o) ∈ l) : D ≠ a := (h _ m).symm
theorem ltA {a D : Nat} {o : Obj} {l : List (Addr × Obj)} (h : ∀ q ∈ l, q.1 < D) (m : (a, o) ∈ l) : a ≠ D := Nat.ne_of_lt (h _ m)
theorem ltA' {a D : Nat} {o : Obj} {l : List (Addr × Obj)} (h : ∀ q ∈ l, q.1 < D) (m : (a, o) ∈ l) : D ≠ a := (Nat.ne_of_lt (h _ m)).symm
theorem offI {I C D : Addr} : ∀ {l : List (Addr × Obj)}, LCg.Off3 I C D l → ∀ q ∈ l, q.1 ≠ I
  | [], _, _, hq => nomatch hq
  | _ :: _, h, q, hq => by
    rcases List.mem_cons.mp hq with rfl | hq
    · exact h.1.1
    · exact offI h.2 q hq
theorem offC {I C D : Addr} : ∀ {l : List (Addr × Obj)}, LCg.Off3 I C D l → ∀ q ∈ l, q.1 ≠ C
  | [], _, _, hq => nomatch hq
  | _ :: _, h, q, hq => by
    rcases List.mem_cons.mp hq with rfl | hq
    · exact h.1.2.1
    · exact offC h.2 q hq
theorem offD {I C D : Addr} : ∀ {l : List (Addr × Obj)}, LCg.Off3 I C D l → ∀ q ∈ l, q.1 ≠ D
  | [], _, _, hq => nomatch hq
  | _ :: _, h, q, hq => by
    rcases List.mem_cons.mp hq with rfl | hq
    · exact h.1.2.2
    · exact offD h.2 q hq
theorem off1D {D : Addr} : ∀ {l : List (Addr × Obj)}, LCg.Off1 D l → ∀ q ∈ l, q.1 ≠ D
  | [], _, _, hq => nomatch hq
  | _ :: _, h, q, hq => by
    rcases List.mem_cons.mp hq with rfl | hq
    · exact h.1
    · exact off1D h.2 q hq
end Mine
namespace Mine
theorem divFits {prog : Program} {w : World} {A : Around} {E : Value → Shared → Prop} {s : Shared} {t u : Tok} {Q : Value → Shared → Prop} {a b : Int} (hA : A.handled = none) (hb : b ≠ 0) (hi : PySem.Float64.isInf (fr a b) = false) (h : Q (.float (fr a b) s.toks) { s with toks := s.toks + 1 }) :
    wpAny (model prog w) A (binaryOp .Div (.int a t) (.int b u)) Q E s :=
  PySem.Flt.div_ii hA (fun z => absurd z hb) (fun _ z => absurd (hi.symm.trans z) Bool.false_ne_true) fun _ _ => h
end Mine
namespace Mine
open LCg
section
variable {prog : Program} {w : World} {A : Around} {E : Value → Shared → Prop} {s : Shared} {h₀ : Heap} {L : Addr} {m : Str → Option Value} {env : Env}
noncomputable def SrcT (prog : Program) (w : World) (A : Around) (h₀ : Heap) (L : Addr) (m : Str → Option Value) (env : Env) (elt : Expr) (x : Str) (scope : Scope) (cl : List (Str × Addr)) (Fin : Shared → List Value → List (Addr × Obj) → Prop) (xv : Value) (s₁ : Shared) : Prop :=
  ∃ ax its news, xv = .ref ax ∧ A.handled = none ∧ Fr h₀ L s₁.heap m ∧ News h₀ L s₁.heap news ∧ (ax, tupOf its) ∈ news ∧ its.length ≤ 1000 ∧
    ∀ g, CompRest prog w A h₀ L m env elt x scope cl { s₁ with heap := g } (fun n => (ax, tupOf its) ∈ n) (fun i v => its.toArray[i]? = some v) (Fin { s₁ with heap := g }) its.length 0 [] news
theorem SrcT.intro {elt : Expr} {x : Str} {scope : Scope} {cl : List (Str × Addr)} {Fin : Shared → List Value → List (Addr × Obj) → Prop} {ax : Addr} {its : List Value} {news : List (Addr × Obj)} {s₁ : Shared}
    (hh : A.handled = none) (F : Fr h₀ L s₁.heap m) (N : News h₀ L s₁.heap news) (hm : (ax, tupOf its) ∈ news) (hsz : its.length ≤ 1000)
    (h : ∀ g, CompRest prog w A h₀ L m env elt x scope cl { s₁ with heap := g } (fun n => (ax, tupOf its) ∈ n) (fun i v => its.toArray[i]? = some v) (Fin { s₁ with heap := g }) its.length 0 [] news) :
    SrcT prog w A h₀ L m env elt x scope cl Fin (.ref ax) s₁ := ⟨ax, its, news, rfl, hh, F, N, hm, hsz, h⟩
theorem tup_st {ax I : Addr} {its : List Value} : ∀ i (h h' : Heap) (o : Obj) (nw : List (Addr × Obj)), (h.IsTupleIter I ax i ∧ h.IsTuple ax its.toArray) → h.get? I = some o → h'.get? I = some o → (∀ b o, h₀.get? b = some o → h'.get? b = some o) → News h₀ L h' nw → (ax, tupOf its) ∈ nw → (h'.IsTupleIter I ax i ∧ h'.IsTuple ax its.toArray) :=
  fun i h h' o nw st e e' k N S => ⟨by obtain ⟨o', q, r⟩ := st.1; rw [e] at q; cases q; exact ⟨o, e', r⟩, ⟨_, (N _ S).1, rfl, _, rfl⟩⟩
theorem ListComp_UT {elt iter : Expr} {x : Str} {px : Pos} {scope : Scope} {cl : List (Str × Addr)} {pos : Pos} {Q : Value → Shared → Prop} (F₀ : Fr h₀ L s.heap m)
    (hclos : closureFor scope env = pure cl) (hcell : ∀ y ∈ scope.names, y.2 ≠ .cell) (hkind : scope.kind = .function)
    (hnames : ∀ y ∈ scope.names, y.2 = .local → scope.names.lookup y.1 = some .local) (hx : scope.names.lookup x = some .local)
    (hs : ∀ x, foldedSetIterable iter env x = pure x)
    (h : wpAny (model prog w) A (eval iter env) (SrcT prog w A h₀ L m env elt x scope cl (fun s₂ => FinE h₀ L m s₂ Q)) E s) :
    wpAny (model prog w) A (eval (.ListComp elt [⟨.Name x px, iter, [], 0⟩] scope pos) env) Q E s := by
  rw [eval_ListComp]
  refine wpAny_comprehension_free (use := none) rfl hs hclos hkind hnames (wpAny_mono h (fun xv s₁ h₁ => ?_) fun _ _ e => e)
  obtain ⟨ax, its, news, rfl, hh, F, N, S, hsz, R⟩ := h₁
  have ht : s₁.heap.IsTuple ax its.toArray := ⟨_, (N _ S).1, rfl, _, rfl⟩
  have hlt : ax < s₁.heap.objs.size := Heap.lt_size (N _ S).1
  refine wpAny_pyIter_tuple ht ?_
  have up : ∀ b o, s₁.heap.get? b = some o → (s₁.heap.push { cls := .type "tuple_iterator", data := .fields #[.ref ax, .int 0 0] }).get? b = some o := fun b o e => Heap.get?_push_of_some _ e
  have W := Walks.tuple (prog := prog) (w := w) hh s₁.heap.objs.size ax (Nat.ne_of_lt hlt) its.toArray
  rw [List.size_toArray] at W
  refine block_U W (by first | (unfold sizeLine; (first | lia | omega)) | (rw [List.size_toArray]; unfold sizeLine; (first | lia | omega))) (fun i h st => by obtain ⟨o, e, _⟩ := st.1; exact ⟨o, e⟩) tup_st hcell hkind hx ⟨⟨_, Heap.get?_push_size _ rfl, rfl, rfl⟩, ht.push _⟩ (fun b hb => ?_)
    (F.keeps up) (N.grown up) (Nat.ne_of_lt F.ns.lt) (next_is_new F) (fun p hp => Nat.ne_of_lt (Heap.lt_size (N p hp).1)) S (R _) ?_
  · show b < (s₁.heap.push _).objs.size
    rw [Heap.size_push]
    rcases List.mem_cons.mp hb with rfl | hb
    · exact Nat.lt_succ_self _
    · rw [List.mem_singleton.mp hb]; exact Nat.lt_succ_of_lt hlt
  · intro D C h tk m' ys news' F' N' o1 hn hC₀ hD₀ hCL hDL hCD offC fin
    refine ⟨m', hn, fun h'' hs'' => fin D h'' tk (F'.change hs'' hCL hC₀) (fun p hp => ?_) o1⟩
    refine ⟨hs''.extBut _ _ ?_ (N' p hp).1, (N' p hp).2⟩
    rcases List.mem_cons.mp hp with rfl | hp
    · exact Ne.symm hCD
    · exact offC p hp
end
end Mine
namespace Mine
noncomputable def FI.big : FI → Prop
  | .i n => 2 ^ 1024 - 2 ^ 970 ≤ n.natAbs
  | .f _ => False
noncomputable instance (x : FI) : Decidable x.big := by cases x <;> (unfold FI.big; infer_instance)
noncomputable def FI.toF : FI → UInt64
  | .i n => PySem.Float64.ofInt n
  | .f b => b
theorem addFI {prog : Program} {w : World} {A : Around} {E : Value → Shared → Prop} {s : Shared} {x : FI} {b : UInt64} {t u : Tok} {Q : Value → Shared → Prop} (hA : A.handled = none) (hb : ¬ x.big) (h : Q (.float (PySem.Float64.add x.toF b) s.toks) { s with toks := s.toks + 1 }) :
    wpAny (model prog w) A (binaryOp .Add (FI.val x t) (.float b u)) Q E s := by
  cases x with
  | i n => exact add_if_sharp hA (fun z => absurd z hb) fun _ => h
  | f c => exact add_float h
noncomputable abbrev half64 : UInt64 := 4602678819172646912
noncomputable abbrev addH (x : FI) : UInt64 := PySem.Float64.add x.toF half64
noncomputable def FineP (x : FI) : Prop := ¬ x.big ∧ PySem.Float64.isNaN (addH x) = false ∧ PySem.Float64.isInf (addH x) = false
noncomputable instance (x : FI) : Decidable (FineP x) := by unfold FineP; infer_instance
noncomputable abbrev roundH (x : FI) : Int := PySem.Flt.toInt PySem.Float64.truncOf (addH x)
noncomputable def PaintOk (c : Bool) (h y : UInt64) (v : Int) : Prop := RgbOk c h v ∧ FineP (rgbF c h y v).1 ∧ FineP (rgbF c h y v).2.1 ∧ FineP (rgbF c h y v).2.2
noncomputable instance (c : Bool) (h y : UInt64) (v : Int) : Decidable (PaintOk c h y v) := by unfold PaintOk; infer_instance
noncomputable def paintF (c : Bool) (h y : UInt64) (v : Int) : List Int := [roundH (rgbF c h y v).1, roundH (rgbF c h y v).2.1, roundH (rgbF c h y v).2.2]
end Mine
namespace Mine
section
variable {w : World} {p : Program} {loose : List Str} {mean : ExcName → Option Value} {mg mb : Str → Option Value} {dp un : Nat} {gd : Option (List Code)} {env : Env} {outer : List Env} {A₀ : Around} {base h₀ : Heap} {L : Addr} {m : Str → Option Value} {s : Shared} {Q E : Value → Shared → Prop} {news : List (Addr × Obj)}
theorem useRgb {h y : UInt64} {v : Int} {th ty tv : Tok} (hok : PaintOk (PySem.Float64.cmp y 0 == some Ordering.eq) h y v)
    (B : Below A₀ base outer h₀) (F : Fr h₀ L s.heap m) (X : (Mine.hd.heap_39 w.params).In h₀) (N : News h₀ L s.heap news) (T : Top p loose mean mg mb h₀) (hf : env.frame = some L) (hke : env.scope.kind = .function) (hdp : dp + 3 < recursionLimit) (hun : un + 40 < cLine)
    (k : ∀ D x1 x2 x3 t1 t2 t3 h' tk', Fr h₀ L h' m → News h₀ L h' ((D, tupOf [FI.val x1 t1, FI.val x2 t2, FI.val x3 t3]) :: news) → (∀ q ∈ news, q.1 ≠ D) → rgbF (PySem.Float64.cmp y 0 == some Ordering.eq) h y v = (x1, x2, x3) → (¬ x1.big) → (¬ x2.big) → (¬ x3.big) → PySem.Float64.isNaN (addH x1) = false → PySem.Float64.isInf (addH x1) = false → PySem.Float64.isNaN (addH x2) = false → PySem.Float64.isInf (addH x2) = false → PySem.Float64.isNaN (addH x3) = false → PySem.Float64.isInf (addH x3) = false → Q (.ref D) { s with heap := h', toks := tk' }) :
    wpAny (model PySem.Challenge.rw_pg0238_02.row.prog w) (Ar dp un gd (env :: outer)) (call (.ref 28) [.float h th, .float y ty, .int v tv]) Q E s := by
  refine CC.use (mu := []) (rest := news) (rgb_spec w h y v th ty tv hok.1) B F X N T hf hke (fun q hq => hq) (fun _ _ _ q => nomatch q) hdp hun fun z n' h' tk' P F' N' Dj => ?_
  obtain ⟨D, x1, x2, x3, t1, t2, t3, rfl, rfl, e⟩ := P
  obtain ⟨-, ⟨a1, a2, a3⟩, ⟨b1, b2, b3⟩, ⟨c1, c2, c3⟩⟩ := hok
  rw [e] at a1 a2 a3 b1 b2 b3 c1 c2 c3
  exact k D x1 x2 x3 t1 t2 t3 h' tk' F' N' (Dj _ (.head _)) e a1 b1 c1 a2 a3 b2 b3 c2 c3
end
end Mine
local macro_rules | `(tactic| lcg_src) => `(tactic| ((try dsimp only); k_mem))
theorem Mine.rows7_0 : True := by
  k_with_none
  (k_with "call builtin:max" => (k_here; (with_reducible show wpAny _ _ (call (Value.builtin _) [Value.int _ _, Value.int _ _, Value.int _ _]) _ _ _); (with_unfolding_all refine' Mine.max3 ?zz_k1 ?zz_k2 ?zz_k3 ?_; (case zz_k1 => rfl); (case zz_k2 => k_asm); (case zz_k3 => k_asm); k_whole); intro _ _ _ _ _))
  (k_with "call builtin:min" => (k_here; (with_reducible show wpAny _ _ (call (Value.builtin _) [Value.int _ _, Value.int _ _, Value.int _ _]) _ _ _); (with_unfolding_all refine' Mine.min3 ?zz_k1 ?zz_k2 ?zz_k3 ?_; (case zz_k1 => rfl); (case zz_k2 => k_asm); (case zz_k3 => k_asm); k_whole); intro _ _ _ _ _))
  (k_with "binaryOp Mult ref int" => (k_here; k_dflt (refine' Mine.mulOne ?zz_k1 ?zz_k2 ?zz_k3 ?zz_k4 ?zz_k5 ?_; (case zz_k1 => k_asm); (case zz_k2 => k_asm); (case zz_k3 => k_mem); (case zz_k4 => first | (first | lia | omega) | assumption | l_fact); (case zz_k5 => first | (first | lia | omega) | assumption | l_fact); k_whole); intro _ _ _ _ _ l1 _; (try k_lt l1); (try k_sweep)))
  (k_with "call builtin:divmod" => (k_here; (with_reducible show wpAny _ _ (call (Value.builtin _) [Value.int _ _, Value.int _ _]) _ _ _); refine divmod_N (by assumption) (by assumption) (by side_arith) ?_; intro _ _ _))
  (k_with "call builtin:len" => (k_here; (with_reducible show wpAny _ _ (call (Value.builtin _) [Value.ref _]) _ _ _); k_dflt (refine' Mine.lenN ?zz_k1 ?zz_k2 ?zz_k3 ?zz_k4 ?_; (case zz_k1 => k_asm); (case zz_k2 => k_mem); (case zz_k3 => with_reducible assumption); (case zz_k4 => ((try simp only [List.length_append, List.length_cons, List.length_nil, List.length_replicate, List.length_map]); (first | lia | omega))); k_whole); intro _ _))
  (k_with "binaryOp Sub int int" => (k_here; with_reducible refine' Mine.subIs ?zz_k1 ?_; (case zz_k1 => assumption)))
  (k_with "binaryOp Add int int" => (k_here; with_reducible refine' Mine.addIs ?zz_k1 ?_; (case zz_k1 => assumption)))
  (k_with "binaryOp Mult int int" => (k_here; with_reducible refine' Mine.mulIs ?zz_k1 ?zz_k2 ?_; (case zz_k1 => assumption); (case zz_k2 => exact Mine.bits64 (by (first | lia | omega)))))
  (k_with "binaryOp RShift int int" => (k_here; with_reducible refine' Mine.shrIs ?zz_k1 ?zz_k2 ?_; (case zz_k1 => assumption); (case zz_k2 => (first | lia | omega))))
  (k_with "binaryOp LShift int int" => (k_here; with_reducible refine' Mine.shlIs ?zz_k1 ?zz_k2 ?zz_k3 ?zz_k4 ?_; (case zz_k1 => assumption); (case zz_k2 => (first | lia | omega)); (case zz_k3 => (first | lia | omega)); (case zz_k4 => (first | lia | omega))))
  (k_with "binaryOp BitXor int int" => (k_here; with_reducible refine' Mine.xorIs ?zz_k1 ?_; (case zz_k1 => assumption)))
  (k_with "exec FunctionDef" => (k_here; kn_here; k_dflt (refine' nestDef_K ?zz_d0 ?zz_k0 ?zz_a0 ?_; (case zz_d0 => exact rfl); (case zz_k0 => exact rfl); (case zz_a0 => exact rfl)); (k_dflt (refine' Mine.nestBoth ?zz_F ?zz_N ?zz_T ?zz_C ?zz_cd ?zz_hs ?zz_ht ?zz_hP ?zz_hc ?zz_cl ?_; (case zz_F => k_asm); (case zz_N => k_asm); (case zz_T => k_asm); (case zz_cd => exact rfl); (case zz_C => kn_code); (case zz_hs => exact rfl); (case zz_ht => assumption); (case zz_hP => (dsimp only [List.dropLast]; k_all)); (case zz_hc => (dsimp only [List.dropLast]; k_all)); (case zz_cl => exact rfl); k_whole); intro _ _ _ _ _ _ _ _ _ _ N' _ _ l1 l2 _ _ _; (dsimp only [List.dropLast, List.append, HAppend.hAppend, Append.append] at N' l1 l2); (simp only [List.forall_mem_cons, List.forall_mem_nil, and_true] at l1 l2); (repeat (obtain ⟨_, l1⟩ := l1)); (repeat (obtain ⟨_, l2⟩ := l2)))))
  (k_with "call builtin:list.append" => (k_here; (with_reducible show wpAny _ _ (call (Value.builtin _) [Value.ref _, _]) _ _ _); k_dflt (refine' Mine.appendL ?zz_k1 ?zz_k2 ?zz_k3 ?zz_k4 ?_; (case zz_k1 => k_asm); (case zz_k2 => k_asm); (case zz_k3 => k_upd); (case zz_k4 => first | (first | lia | omega) | (simp only [List.length_nil, List.length_cons]; (first | lia | omega))); k_whole); intro _ _ _; (try k_sweep)))
  (k_with "call builtin:list.reverse" => (k_here; (with_reducible show wpAny _ _ (call (Value.builtin _) _) _ _ _); (try dsimp only); k_dflt (refine' Mine.reverseL ?zz_k1 ?zz_k2 ?zz_k3 ?zz_k4 ?zz_k5 ?_; (case zz_k1 => k_asm); (case zz_k2 => k_asm); (case zz_k3 => k_upd); (case zz_k4 => with_reducible assumption); (case zz_k5 => (first | lia | omega)); k_whole); intro _ _ _ _; (try k_sweep)))
  (k_with "unaryOp Invert int" => (k_here; with_reducible refine' Mine.invIs ?zz_k1 ?_; (case zz_k1 => assumption)))
  (k_with "call builtin:min" => (k_here; (with_reducible show wpAny _ _ (call (Value.builtin _) [Value.int _ _, Value.int _ _]) _ _ _); k_dflt (refine' Mine.min2 ?zz_k1 ?zz_k2 ?zz_k3 ?_; (case zz_k1 => exact rfl); (case zz_k2 => k_asm); (case zz_k3 => k_asm); k_whole); intro _ _ _ _ _))
  (k_with "call builtin:max" => (k_here; (with_reducible show wpAny _ _ (call (Value.builtin _) [Value.int _ _, Value.int _ _]) _ _ _); k_dflt (refine' Mine.max2 ?zz_k1 ?zz_k2 ?zz_k3 ?_; (case zz_k1 => exact rfl); (case zz_k2 => k_asm); (case zz_k3 => k_asm); k_whole); intro _ _ _ _ _))
  (k_with "binaryOp Div int int" => (k_here; k_dflt (refine' Mine.divFits ?zz_k1 ?zz_k2 ?zz_k3 ?_; (case zz_k1 => exact rfl); (case zz_k2 => first | decide | (first | lia | omega) | assumption); (case zz_k3 => assumption); k_whole)))
  (k_with "call ref" => (k_here; (with_reducible show wpAny _ _ (call (Value.ref 28) [Value.float _ _, Value.float _ _, Value.int _ _]) _ _ _); k_dflt (refine' Mine.useRgb ?zz_hok ?zz_cB ?zz_cF ?zz_cX ?zz_cN ?zz_cT ?zz_cf ?zz_ck ?zz_cdp ?zz_cun ?_; (case zz_hok => assumption); (case zz_cN => k_asm); (case zz_cB => k_asm); (case zz_cF => k_asm); (case zz_cX => k_asm); (case zz_cT => k_asm); (case zz_cf => exact rfl); (case zz_ck => exact rfl); (case zz_cdp => ktr_room); (case zz_cun => ktr_units); k_whole); intro _ _ _ _ _ _ _ _ _ _ _ D1' _ _ _ _ _ _ _ _ _ _; (try simp only [List.cons_append, List.nil_append, List.forall_mem_cons, List.forall_mem_nil, and_true] at D1'); (repeat (obtain ⟨_, D1'⟩ := D1'))))
  (k_with "eval ListComp" => (k_here; lcg_look; (with_reducible show wpAny _ _ (eval (Expr.ListComp _ [⟨Expr.Name _ _, Expr.Call _ _ _ _, _, _⟩] _ _) _) _ _ _); (fail_if_success (with_reducible show wpAny _ _ (eval (Expr.ListComp _ [⟨Expr.Name _ _, Expr.Call (Expr.Name "range" _) _ _ _, _, _⟩] _ _) _) _ _ _)); k_dflt (refine Mine.ListComp_UT (F₀ := by k_asm) (by rfl) (by decide) (by rfl) (by decide) (by rfl) (by intro _; rfl) ?_)))
  (k_with "SrcT" => (k_dflt (refine Mine.SrcT.intro (by rfl) (by k_asm) (by k_asm) (by k_mem) (Nat.le_of_ble_eq_true rfl) ?_; intro _; lcg_lit)))
  (k_with "binaryOp Add" => (k_here; (with_reducible show wpAny _ _ (binaryOp _ (Mine.FI.val _ _) (Value.float _ _)) _ _ _); k_dflt (refine' Mine.addFI ?zz_k1 ?zz_k2 ?_; (case zz_k1 => exact rfl); (case zz_k2 => assumption); k_whole)))
  (k_with "execs cons" => (k_here; k_fold))
  (k_with "eval ListComp" => (k_here; k_fold))
  trivial
namespace Mine
noncomputable def MoveOk (p r : Int) : Prop := PySem.Float64.isInf (fr p (max 1 (6 * r))) = false ∧ PaintOk (PySem.Float64.cmp one64 0 == some Ordering.eq) (fr p (max 1 (6 * r))) one64 r ∧ 0 ≤ r ∧ r ≤ 1000
noncomputable instance (p r : Int) : Decidable (MoveOk p r) := by unfold MoveOk; infer_instance
theorem move_spec (w : World) (q r : Int) (tp tr : Tok) (hok : MoveOk q r) :
    C3 w 89 6 90 [] [.int q tp, .int r tr] (fun v n' => ∃ D n1 n2 n3 t1 t2, v = .ref D ∧ n' = [(D, listOf (List.toArray [.int (n1 - n2) t1, .int (n2 - n3) t2]) 0)] ∧ paintF (PySem.Float64.cmp one64 0 == some Ordering.eq) (fr q (max 1 (6 * r))) one64 r = [n1, n2, n3]) := by
  obtain ⟨ok1, ok2, ok3, ok4⟩ := hok
  have i1 : Is (6 * r) (6 * r) := rfl
  have hmx : max 1 (6 * r) ≠ 0 := by (first | lia | omega)
  intro p loose mean mg mb dp un gd fr base g s R B X T st sz N hd hu hret
  k_dflt (refine' enterP ?k1 ?kst ?ksz ?kN ?kX ?kT ?k6 ?k7 ?k8 ?k9 ?kB ?_ ?c2 ?c3 ?c4 ?c5; (case k1 => exact B); (case kst => exact st); (case ksz => exact sz); (case kN => exact N); (case kX => exact X); (case kT => exact T); (case k6 => k_is); (case k7 => k_is); (case k8 => first | exact Mine.rm0 (by assumption) | ktr_room); (case k9 => exact BindsTo.of_eq rfl); (case c5 => decide); (case kB => exact locs rfl); (case c2 => exact rfl); (case c3 => exact rfl); (case c4 => exact rfl); k_whole; intro L' h' F' N' l0; (try dsimp only); (try k_lt l0); (try k_fold))
  repeat' (first | (k_unfold; (try dsimp only)) | walk1 | (dsimp only; walk1))
  exact hret _ _ _ _ ⟨_, _, _, _, _, _, rfl, rfl, by unfold paintF; rw [(by assumption : rgbF (PySem.Float64.cmp one64 0 == some Ordering.eq) (Mine.fr q (max 1 (6 * r))) one64 r = _)]⟩ (Fr.keep (by k_asm)) (outS (by k_asm) (by (k_dflt (repeat' (first | exact List.forall_mem_nil _ | (refine' List.forall_mem_cons.mpr ⟨?_, ?_⟩) | k_mem)))))
end Mine
local macro_rules | `(tactic| k_lt $_) => `(tactic| skip)
local macro_rules | `(tactic| k_ne) => `(tactic| k_extra "kne")
local macro_rules | `(tactic| lcg_off) => `(tactic| assumption)
theorem Mine.rows8_0 : True := by
  k_with_none
  (k_with "call builtin:max" => (k_here; (with_reducible show wpAny _ _ (call (Value.builtin _) [Value.int _ _, Value.int _ _, Value.int _ _]) _ _ _); (with_unfolding_all refine' Mine.max3 ?zz_k1 ?zz_k2 ?zz_k3 ?_; (case zz_k1 => rfl); (case zz_k2 => k_asm); (case zz_k3 => k_asm); k_whole); intro _ _ _ _ _))
  (k_with "call builtin:min" => (k_here; (with_reducible show wpAny _ _ (call (Value.builtin _) [Value.int _ _, Value.int _ _, Value.int _ _]) _ _ _); (with_unfolding_all refine' Mine.min3 ?zz_k1 ?zz_k2 ?zz_k3 ?_; (case zz_k1 => rfl); (case zz_k2 => k_asm); (case zz_k3 => k_asm); k_whole); intro _ _ _ _ _))
  (k_with "binaryOp Mult ref int" => (k_here; k_dflt (refine' Mine.mulOne ?zz_k1 ?zz_k2 ?zz_k3 ?zz_k4 ?zz_k5 ?_; (case zz_k1 => k_asm); (case zz_k2 => k_asm); (case zz_k3 => k_mem); (case zz_k4 => first | (first | lia | omega) | assumption | l_fact); (case zz_k5 => first | (first | lia | omega) | assumption | l_fact); k_whole); intro _ _ _ _ _ l1 _; (try k_lt l1); (try k_sweep)))
  (k_with "call builtin:divmod" => (k_here; (with_reducible show wpAny _ _ (call (Value.builtin _) [Value.int _ _, Value.int _ _]) _ _ _); refine divmod_N (by assumption) (by assumption) (by side_arith) ?_; intro _ _ _))
  (k_with "call builtin:len" => (k_here; (with_reducible show wpAny _ _ (call (Value.builtin _) [Value.ref _]) _ _ _); k_dflt (refine' Mine.lenN ?zz_k1 ?zz_k2 ?zz_k3 ?zz_k4 ?_; (case zz_k1 => k_asm); (case zz_k2 => k_mem); (case zz_k3 => with_reducible assumption); (case zz_k4 => ((try simp only [List.length_append, List.length_cons, List.length_nil, List.length_replicate, List.length_map]); (first | lia | omega))); k_whole); intro _ _))
  (k_with "binaryOp Sub int int" => (k_here; with_reducible refine' Mine.subIs ?zz_k1 ?_; (case zz_k1 => assumption)))
  (k_with "binaryOp Add int int" => (k_here; with_reducible refine' Mine.addIs ?zz_k1 ?_; (case zz_k1 => assumption)))
  (k_with "binaryOp Mult int int" => (k_here; with_reducible refine' Mine.mulIs ?zz_k1 ?zz_k2 ?_; (case zz_k1 => assumption); (case zz_k2 => exact Mine.bits64 (by (first | lia | omega)))))
  (k_with "binaryOp RShift int int" => (k_here; with_reducible refine' Mine.shrIs ?zz_k1 ?zz_k2 ?_; (case zz_k1 => assumption); (case zz_k2 => (first | lia | omega))))
  (k_with "binaryOp LShift int int" => (k_here; with_reducible refine' Mine.shlIs ?zz_k1 ?zz_k2 ?zz_k3 ?zz_k4 ?_; (case zz_k1 => assumption); (case zz_k2 => (first | lia | omega)); (case zz_k3 => (first | lia | omega)); (case zz_k4 => (first | lia | omega))))
  (k_with "binaryOp BitXor int int" => (k_here; with_reducible refine' Mine.xorIs ?zz_k1 ?_; (case zz_k1 => assumption)))
  (k_with "exec FunctionDef" => (k_here; kn_here; k_dflt (refine' nestDef_K ?zz_d0 ?zz_k0 ?zz_a0 ?_; (case zz_d0 => exact rfl); (case zz_k0 => exact rfl); (case zz_a0 => exact rfl)); (k_dflt (refine' Mine.nestBoth ?zz_F ?zz_N ?zz_T ?zz_C ?zz_cd ?zz_hs ?zz_ht ?zz_hP ?zz_hc ?zz_cl ?_; (case zz_F => k_asm); (case zz_N => k_asm); (case zz_T => k_asm); (case zz_cd => exact rfl); (case zz_C => kn_code); (case zz_hs => exact rfl); (case zz_ht => assumption); (case zz_hP => (dsimp only [List.dropLast]; k_all)); (case zz_hc => (dsimp only [List.dropLast]; k_all)); (case zz_cl => exact rfl); k_whole); intro _ _ _ _ _ _ _ _ _ _ N' _ _ l1 l2 _ _ _; (dsimp only [List.dropLast, List.append, HAppend.hAppend, Append.append] at N' l1 l2); (simp only [List.forall_mem_cons, List.forall_mem_nil, and_true] at l1 l2); (repeat (obtain ⟨_, l1⟩ := l1)); (repeat (obtain ⟨_, l2⟩ := l2)))))
  (k_with "call builtin:list.append" => (k_here; (with_reducible show wpAny _ _ (call (Value.builtin _) [Value.ref _, _]) _ _ _); k_dflt (refine' Mine.appendL ?zz_k1 ?zz_k2 ?zz_k3 ?zz_k4 ?_; (case zz_k1 => k_asm); (case zz_k2 => k_asm); (case zz_k3 => k_upd); (case zz_k4 => first | (first | lia | omega) | (simp only [List.length_nil, List.length_cons]; (first | lia | omega))); k_whole); intro _ _ _; (try k_sweep)))
  (k_with "call builtin:list.reverse" => (k_here; (with_reducible show wpAny _ _ (call (Value.builtin _) _) _ _ _); (try dsimp only); k_dflt (refine' Mine.reverseL ?zz_k1 ?zz_k2 ?zz_k3 ?zz_k4 ?zz_k5 ?_; (case zz_k1 => k_asm); (case zz_k2 => k_asm); (case zz_k3 => k_upd); (case zz_k4 => with_reducible assumption); (case zz_k5 => (first | lia | omega)); k_whole); intro _ _ _ _; (try k_sweep)))
  (k_with "unaryOp Invert int" => (k_here; with_reducible refine' Mine.invIs ?zz_k1 ?_; (case zz_k1 => assumption)))
  (k_with "kne" => (refine neN ?_; (try dsimp only); first | exact Mine.neA (by assumption) (by k_mem) | exact Mine.neA' (by assumption) (by k_mem) | exact Mine.ltA (by assumption) (by k_mem) | exact Mine.ltA' (by assumption) (by k_mem) | assumption | (apply Ne.symm; assumption)))
  (k_with "binaryOp Mult int int" => (k_here; k_dflt (refine' Mine.mulIs ?zz_k1 ?zz_k2 ?_; (case zz_k1 => exact rfl); (case zz_k2 => exact Mine.bits64 (by (first | lia | omega))))))
  (k_with "execs cons" => (k_here; k_fold))
  (k_with "eval ListComp" => (k_here; k_fold))
  trivial
namespace Mine
theorem num_spec (w : World) (l : Addr) (a b r : Int) (e : Nat) (ta tb tr : Tok) (h0 : 0 ≤ r) (h3 : r ≤ 100) :
    C3 w 96 3 40 [(l, listOf (List.toArray [.int a ta, .int b tb]) e)] [.ref l, .int r tr]
      (fun v n' => n' = [(l, listOf (List.toArray [.int a ta, .int b tb]) e)] ∧ ∃ t, v = .int (a + (3 * r + 2) * b) t) := by
  intro p loose mean mg mb dp un gd fr base g s R B X T st sz N hd hu hret
  k_dflt (refine' enterP ?k1 ?kst ?ksz ?kN ?kX ?kT ?k6 ?k7 ?k8 ?k9 ?kB ?_ ?c2 ?c3 ?c4 ?c5; (case k1 => exact B); (case kst => exact st); (case ksz => exact sz); (case kN => exact N); (case kX => exact X); (case kT => exact T); (case k6 => k_is); (case k7 => k_is); (case k8 => first | exact Mine.rm0 (by assumption) | ktr_room); (case k9 => exact BindsTo.of_eq rfl); (case c5 => decide); (case kB => exact locs rfl); (case c2 => exact rfl); (case c3 => exact rfl); (case c4 => exact rfl); k_whole; intro L' h' F' N' l0; (try dsimp only); (try k_lt l0); (try k_fold))
  repeat' (first | (k_unfold; (try dsimp only)) | walk1 | (dsimp only; walk1))
  exact hret _ _ _ _ ⟨rfl, _, rfl⟩ (Fr.keep (by k_asm)) (out (by k_asm))
end Mine
namespace Mine
section
variable {w : World} {p : Program} {loose : List Str} {mean : ExcName → Option Value} {mg mb : Str → Option Value} {dp un : Nat} {gd : Option (List Code)} {env : Env} {outer : List Env} {A₀ : Around} {base h₀ : Heap} {L : Addr} {m : Str → Option Value} {s : Shared} {Q E : Value → Shared → Prop} {news : List (Addr × Obj)}
theorem useHsvE {r g b r' g' b' : Int} {tr tg tb : Tok} (hok : HsvOk r g b) (e1 : r' = r) (e2 : g' = g) (e3 : b' = b)
    (B : Below A₀ base outer h₀) (F : Fr h₀ L s.heap m) (X : (Mine.hd.heap_39 w.params).In h₀) (N : News h₀ L s.heap news) (T : Top p loose mean mg mb h₀) (hf : env.frame = some L) (hke : env.scope.kind = .function) (hdp : dp + 3 < recursionLimit) (hun : un + 40 < cLine)
    (k : ∀ D t1 t2 t3 h' tk', Fr h₀ L h' m → News h₀ L h' ((D, tupOf [.float (hsvH r g b) t1, .float (hsvS r g b) t2, .int (mx3 r g b) t3]) :: news) → (∀ q ∈ news, q.1 ≠ D) → Q (.ref D) { s with heap := h', toks := tk' }) :
    wpAny (model PySem.Challenge.rw_pg0238_02.row.prog w) (Ar dp un gd (env :: outer)) (call (.ref 21) [.int r' tr, .int g' tg, .int b' tb]) Q E s := by
  rw [e1, e2, e3]
  refine CC.use (mu := []) (rest := news) (hsv_spec w r g b tr tg tb hok) B F X N T hf hke (fun q hq => hq) (fun _ _ _ q => nomatch q) hdp hun fun z n' h' tk' P F' N' Dj => ?_
  obtain ⟨D, x, y, t1, t2, t3, rfl, rfl, rfl, rfl⟩ := P
  exact k D t1 t2 t3 h' tk' F' N' (Dj _ (.head _))
end
noncomputable abbrev spB (r g : Int) : UInt64 := PySem.Float64.add (PySem.Float64.mul (hsvS r g 64) (PySem.Float64.ofInt (mx3 r g 64))) 4602678819172646912
end Mine
theorem Mine.rows9_0 : True := by
  k_with_none
  (k_with "call builtin:max" => (k_here; (with_reducible show wpAny _ _ (call (Value.builtin _) [Value.int _ _, Value.int _ _, Value.int _ _]) _ _ _); (with_unfolding_all refine' Mine.max3 ?zz_k1 ?zz_k2 ?zz_k3 ?_; (case zz_k1 => rfl); (case zz_k2 => k_asm); (case zz_k3 => k_asm); k_whole); intro _ _ _ _ _))
  (k_with "call builtin:min" => (k_here; (with_reducible show wpAny _ _ (call (Value.builtin _) [Value.int _ _, Value.int _ _, Value.int _ _]) _ _ _); (with_unfolding_all refine' Mine.min3 ?zz_k1 ?zz_k2 ?zz_k3 ?_; (case zz_k1 => rfl); (case zz_k2 => k_asm); (case zz_k3 => k_asm); k_whole); intro _ _ _ _ _))
  (k_with "binaryOp Mult ref int" => (k_here; k_dflt (refine' Mine.mulOne ?zz_k1 ?zz_k2 ?zz_k3 ?zz_k4 ?zz_k5 ?_; (case zz_k1 => k_asm); (case zz_k2 => k_asm); (case zz_k3 => k_mem); (case zz_k4 => first | (first | lia | omega) | assumption | l_fact); (case zz_k5 => first | (first | lia | omega) | assumption | l_fact); k_whole); intro _ _ _ _ _ _ _; (try k_sweep)))
  (k_with "call builtin:divmod" => (k_here; (with_reducible show wpAny _ _ (call (Value.builtin _) [Value.int _ _, Value.int _ _]) _ _ _); refine divmod_N (by assumption) (by assumption) (by side_arith) ?_; intro _ _ _))
  (k_with "call builtin:len" => (k_here; (with_reducible show wpAny _ _ (call (Value.builtin _) [Value.ref _]) _ _ _); k_dflt (refine' Mine.lenN ?zz_k1 ?zz_k2 ?zz_k3 ?zz_k4 ?_; (case zz_k1 => k_asm); (case zz_k2 => k_mem); (case zz_k3 => with_reducible assumption); (case zz_k4 => ((try simp only [List.length_append, List.length_cons, List.length_nil, List.length_replicate, List.length_map]); (first | lia | omega))); k_whole); intro _ _))
  (k_with "binaryOp Sub int int" => (k_here; with_reducible refine' Mine.subIs ?zz_k1 ?_; (case zz_k1 => assumption)))
  (k_with "binaryOp Add int int" => (k_here; with_reducible refine' Mine.addIs ?zz_k1 ?_; (case zz_k1 => assumption)))
  (k_with "binaryOp Mult int int" => (k_here; with_reducible refine' Mine.mulIs ?zz_k1 ?zz_k2 ?_; (case zz_k1 => assumption); (case zz_k2 => exact Mine.bits64 (by (first | lia | omega)))))
  (k_with "binaryOp RShift int int" => (k_here; with_reducible refine' Mine.shrIs ?zz_k1 ?zz_k2 ?_; (case zz_k1 => assumption); (case zz_k2 => (first | lia | omega))))
  (k_with "binaryOp LShift int int" => (k_here; with_reducible refine' Mine.shlIs ?zz_k1 ?zz_k2 ?zz_k3 ?zz_k4 ?_; (case zz_k1 => assumption); (case zz_k2 => (first | lia | omega)); (case zz_k3 => (first | lia | omega)); (case zz_k4 => (first | lia | omega))))
  (k_with "binaryOp BitXor int int" => (k_here; with_reducible refine' Mine.xorIs ?zz_k1 ?_; (case zz_k1 => assumption)))
  (k_with "exec FunctionDef" => (k_here; kn_here; k_dflt (refine' nestDef_K ?zz_d0 ?zz_k0 ?zz_a0 ?_; (case zz_d0 => exact rfl); (case zz_k0 => exact rfl); (case zz_a0 => exact rfl)); (k_dflt (refine' Mine.nestBoth ?zz_F ?zz_N ?zz_T ?zz_C ?zz_cd ?zz_hs ?zz_ht ?zz_hP ?zz_hc ?zz_cl ?_; (case zz_F => k_asm); (case zz_N => k_asm); (case zz_T => k_asm); (case zz_cd => exact rfl); (case zz_C => kn_code); (case zz_hs => exact rfl); (case zz_ht => assumption); (case zz_hP => (dsimp only [List.dropLast]; k_all)); (case zz_hc => (dsimp only [List.dropLast]; k_all)); (case zz_cl => exact rfl); k_whole); intro _ _ _ _ _ _ _ _ _ _ N' _ _ l1 l2 _ _ _; (dsimp only [List.dropLast, List.append, HAppend.hAppend, Append.append] at N' l1 l2); (simp only [List.forall_mem_cons, List.forall_mem_nil, and_true] at l1 l2); (repeat (obtain ⟨_, l1⟩ := l1)); (repeat (obtain ⟨_, l2⟩ := l2)))))
  (k_with "call builtin:list.append" => (k_here; (with_reducible show wpAny _ _ (call (Value.builtin _) [Value.ref _, _]) _ _ _); k_dflt (refine' Mine.appendL ?zz_k1 ?zz_k2 ?zz_k3 ?zz_k4 ?_; (case zz_k1 => k_asm); (case zz_k2 => k_asm); (case zz_k3 => k_upd); (case zz_k4 => first | (first | lia | omega) | (simp only [List.length_nil, List.length_cons]; (first | lia | omega))); k_whole); intro _ _ _; (try k_sweep)))
  (k_with "call builtin:list.reverse" => (k_here; (with_reducible show wpAny _ _ (call (Value.builtin _) _) _ _ _); (try dsimp only); k_dflt (refine' Mine.reverseL ?zz_k1 ?zz_k2 ?zz_k3 ?zz_k4 ?zz_k5 ?_; (case zz_k1 => k_asm); (case zz_k2 => k_asm); (case zz_k3 => k_upd); (case zz_k4 => with_reducible assumption); (case zz_k5 => (first | lia | omega)); k_whole); intro _ _ _ _; (try k_sweep)))
  (k_with "unaryOp Invert int" => (k_here; with_reducible refine' Mine.invIs ?zz_k1 ?_; (case zz_k1 => assumption)))
  (k_with "call builtin:min" => (k_here; (with_reducible show wpAny _ _ (call (Value.builtin _) [Value.int _ _, Value.int _ _]) _ _ _); k_dflt (refine' Mine.min2 ?zz_k1 ?zz_k2 ?zz_k3 ?_; (case zz_k1 => exact rfl); (case zz_k2 => k_asm); (case zz_k3 => k_asm); k_whole); intro _ _ _ _ _))
  (k_with "call builtin:max" => (k_here; (with_reducible show wpAny _ _ (call (Value.builtin _) [Value.int _ _, Value.int _ _]) _ _ _); k_dflt (refine' Mine.max2 ?zz_k1 ?zz_k2 ?zz_k3 ?_; (case zz_k1 => exact rfl); (case zz_k2 => k_asm); (case zz_k3 => k_asm); k_whole); intro _ _ _ _ _))
  (k_with "binaryOp Div int int" => (k_here; k_dflt (refine' Mine.divFits ?zz_k1 ?zz_k2 ?zz_k3 ?_; (case zz_k1 => exact rfl); (case zz_k2 => first | decide | (first | lia | omega) | assumption); (case zz_k3 => assumption); k_whole)))
  (k_with "kne" => (refine neN ?_; (try dsimp only); first | exact Mine.neA (by assumption) (by k_mem) | exact Mine.neA' (by assumption) (by k_mem) | exact Mine.ltA (by assumption) (by k_mem) | exact Mine.ltA' (by assumption) (by k_mem) | assumption | (apply Ne.symm; assumption)))
  (k_with "call ref" => (k_here; (with_reducible show wpAny _ _ (call (Value.ref 21) [Value.int _ _, Value.int _ _, Value.int _ _]) _ _ _); k_dflt (refine' Mine.useHsvE ?zz_hok ?zz_e1 ?zz_e2 ?zz_e3 ?zz_cB ?zz_cF ?zz_cX ?zz_cN ?zz_cT ?zz_cf ?zz_ck ?zz_cdp ?zz_cun ?_; (case zz_hok => assumption); (case zz_e1 => exact rfl); (case zz_e2 => exact rfl); (case zz_e3 => exact rfl); (case zz_cN => k_asm); (case zz_cB => k_asm); (case zz_cF => k_asm); (case zz_cX => k_asm); (case zz_cT => k_asm); (case zz_cf => exact rfl); (case zz_ck => exact rfl); (case zz_cdp => ktr_room); (case zz_cun => ktr_units); k_whole); intro _ _ _ _ _ _ _ _ _))
  (k_with "execs cons" => (k_here; k_fold))
  (k_with "eval ListComp" => (k_here; k_fold))
  trivial
namespace Mine
theorem spread_spec (w : World) (l1 l2 : Addr) (a b c d k : Int) (e1 e2 : Nat) (ta tb tc td : Tok) (hok : HsvOk (a - c + (b - d) + 64) (b - d + 64) 64)
    (z1 : PySem.Float64.isNaN (spB (a - c + (b - d) + 64) (b - d + 64)) = false) (z2 : PySem.Float64.isInf (spB (a - c + (b - d) + 64) (b - d + 64)) = false) (z3 : PySem.Flt.toInt PySem.Float64.truncOf (spB (a - c + (b - d) + 64) (b - d + 64)) = k)
    (hm : (mx3 (a - c + (b - d) + 64) (b - d + 64) 64).natAbs < 1000) :
    C3 w 110 5 60 [(l1, listOf (List.toArray [.int a ta, .int b tb]) e1), (l2, listOf (List.toArray [.int c tc, .int d td]) e2)] [.ref l1, .ref l2]
      (fun v n' => n' = [(l1, listOf (List.toArray [.int a ta, .int b tb]) e1), (l2, listOf (List.toArray [.int c tc, .int d td]) e2)] ∧ ∃ t, v = .int k t) := by
  intro p loose mean mg mb dp un gd fr base g s R B X T st sz N hd hu hret
  k_dflt (refine' enterP ?k1 ?kst ?ksz ?kN ?kX ?kT ?k6 ?k7 ?k8 ?k9 ?kB ?_ ?c2 ?c3 ?c4 ?c5; (case k1 => exact B); (case kst => exact st); (case ksz => exact sz); (case kN => exact N); (case kX => exact X); (case kT => exact T); (case k6 => k_is); (case k7 => k_is); (case k8 => first | exact Mine.rm0 (by assumption) | ktr_room); (case k9 => exact BindsTo.of_eq rfl); (case c5 => decide); (case kB => exact locs rfl); (case c2 => exact rfl); (case c3 => exact rfl); (case c4 => exact rfl); k_whole; intro L' h' F' N' l0; (try dsimp only); (try k_lt l0); (try k_fold))
  repeat' (first | (k_unfold; (try dsimp only)) | walk1 | (dsimp only; walk1))
  k_dflt (refine' hret _ _ _ _ ⟨rfl, _, congrArg (fun z => Value.int z _) z3⟩ (Fr.keep ?F) (outS ?N (List.forall_mem_cons.mpr ⟨?m1, List.forall_mem_cons.mpr ⟨?m2, List.forall_mem_nil _⟩⟩)); (case F => k_asm); (case N => k_asm); (case m1 => k_mem); (case m2 => k_mem))
end Mine
namespace Mine
section
variable {prog : Program} {w : World} {A : Around} {E : Value → Shared → Prop} {s : Shared} {a b v : Int} {t u : Tok} {Q : Value → Shared → Prop}
theorem modIs (hb : b ≠ 0) (e : Is (a.fmod b) v) (h : Q (.int v s.toks) { s with toks := s.toks + 1 }) : wpAny (model prog w) A (binaryOp .Mod (.int a t) (.int b u)) Q E s := PyProof.Rows.mod_int' hb (by rw [show a.fmod b = v from e]; exact h)
theorem fdivIs (hb : b ≠ 0) (hs : b.natAbs < 1073741824) (e : Is (a.fdiv b) v) (h : Q (.int v s.toks) { s with toks := s.toks + 1 }) : wpAny (model prog w) A (binaryOp .FloorDiv (.int a t) (.int b u)) Q E s := PyProof.Rows.floordiv_int hb (by rw [show a.fdiv b = v from e]; exact h) (.inl (PyProof.noPylong_small hs))
theorem foldl_rep (l : Array Nat) : ∀ (n : Nat) (acc : Array Nat), (List.replicate n l).foldl (· ++ ·) acc = acc ++ (List.replicate n l.toList).flatten.toArray
  | 0, acc => by simp
  | n + 1, acc => by
    rw [List.replicate_succ, List.foldl_cons, foldl_rep l n]
    apply Array.toList_inj.mp
    simp [List.replicate_succ]
theorem mulS_eq {x : Str} {c n : Nat} (hx : x = S [c]) : Txt.mul x (n : Int) = S (List.replicate n c) := by
  subst hx
  unfold Txt.mul
  by_cases h1 : (n : Int) < 1
  · have : n = 0 := by (first | lia | omega)
    subst this
    rw [if_pos h1]; rfl
  · rw [if_neg h1]
    by_cases h2 : n = 1
    · subst h2; rfl
    · have h3 : ((n : Int) == 1 || (S [c]).length == 0) = false := by
        have e1 : ((n : Int) == 1) = false := by simp; (first | lia | omega)
        rw [e1, S_len]; rfl
      rw [h3]
      simp only [Bool.false_eq_true, if_false, Int.toNat_natCast]
      show Str.mk _ = S _
      unfold S
      congr 1
      rw [foldl_rep]
      simp
theorem mulS {x : Str} {c n : Nat} (hx : x = S [c]) (hn : n ≤ 1000) (h : ∀ t' k, Q (.str (S (List.replicate n c)) t') { s with toks := k }) : wpAny (model prog w) A (binaryOp .Mult (.str x t) (.int (n : Int) u)) Q E s := by
  refine PySem.SB.mul (n := (n : Int)) ⟨?_, ?_, ?_⟩ fun t' k => by rw [mulS_eq hx]; exact h t' k
  · simp; (first | lia | omega)
  · intro h1 _
    rw [hx, S_len]
    have : (1 : Int) ≤ (2 ^ 63 - 1) / n := by
      apply Int.le_ediv_of_mul_le (by (first | lia | omega))
      (first | lia | omega)
    simp only [List.length_cons, List.length_nil]
    (first | lia | omega)
  · intro h1 _
    rw [hx, S_len]
    unfold PySem.Builtin.Str.tooLong sizeLine
    simp
    (first | lia | omega)
theorem addS {xs ys : List Nat} (hx : xs.length ≤ 1000) (hy : ys.length ≤ 1000) (h : ∀ t' k, Q (.str (S (xs ++ ys)) t') { s with toks := k }) : wpAny (model prog w) A (binaryOp .Add (.str (S xs) t) (.str (S ys) u)) Q E s := by
  refine PySem.SB.add (fun t' k => ?_) (by rw [S_len, S_len]; unfold sizeLine; (first | lia | omega))
  have : S xs ++ S ys = S (xs ++ ys) := by
    show Str.mk _ = Str.mk _
    congr 1
    simp [S_cps]
  rw [this]
  exact h t' k
end
noncomputable def wordL (a b : Nat) : List Nat := List.replicate a 97 ++ List.replicate b 98
section
variable {w : World} {p : Program} {loose : List Str} {mean : ExcName → Option Value} {mg mb : Str → Option Value} {dp un : Nat} {gd : Option (List Code)} {env : Env} {outer : List Env} {A₀ : Around} {base h₀ : Heap} {L : Addr} {m : Str → Option Value} {s : Shared} {Q E : Value → Shared → Prop} {news : List (Addr × Obj)}
theorem useLev {xs ys : List Nat} {mc : Nat} {mi : Int} {tx ty tm : Tok} (hmc : mi = (mc : Int)) (hx : xs.length ≤ 100) (hy : ys.length ≤ 100)
    (B : Below A₀ base outer h₀) (F : Fr h₀ L s.heap m) (X : (Mine.hd.heap_39 w.params).In h₀) (N : News h₀ L s.heap news) (T : Top p loose mean mg mb h₀) (hf : env.frame = some L) (hke : env.scope.kind = .function) (hdp : dp + 3 < recursionLimit) (hun : un + 40 < cLine)
    (h : ∀ t h' tk', Fr h₀ L h' m → News h₀ L h' news → Q (.int (lev xs ys mc) t) { s with heap := h', toks := tk' }) :
    wpAny (model PySem.Challenge.rw_pg0238_02.row.prog w) (Ar dp un gd (env :: outer)) (call (.ref 84) [.str (S xs) tx, .str (S ys) ty, .int mi tm]) Q E s := by
  subst hmc
  refine CC.use (mu := []) (rest := news) (lev_spec w xs ys mc tx ty tm hx hy) B F X N T hf hke (fun q hq => hq) (fun _ _ _ q => nomatch q) hdp hun fun v n' h' tk' P F' N' _ => ?_
  obtain ⟨e, t, ev⟩ := P
  subst e ev
  exact h t h' tk' F' N'
end
end Mine
theorem Mine.rows10_0 : True := by
  k_with_none
  (k_with "call builtin:max" => (k_here; (with_reducible show wpAny _ _ (call (Value.builtin _) [Value.int _ _, Value.int _ _, Value.int _ _]) _ _ _); (with_unfolding_all refine' Mine.max3 ?zz_k1 ?zz_k2 ?zz_k3 ?_; (case zz_k1 => rfl); (case zz_k2 => k_asm); (case zz_k3 => k_asm); k_whole); intro _ _ _ _ _))
  (k_with "call builtin:min" => (k_here; (with_reducible show wpAny _ _ (call (Value.builtin _) [Value.int _ _, Value.int _ _, Value.int _ _]) _ _ _); (with_unfolding_all refine' Mine.min3 ?zz_k1 ?zz_k2 ?zz_k3 ?_; (case zz_k1 => rfl); (case zz_k2 => k_asm); (case zz_k3 => k_asm); k_whole); intro _ _ _ _ _))
  (k_with "binaryOp Mult ref int" => (k_here; k_dflt (refine' Mine.mulOne ?zz_k1 ?zz_k2 ?zz_k3 ?zz_k4 ?zz_k5 ?_; (case zz_k1 => k_asm); (case zz_k2 => k_asm); (case zz_k3 => k_mem); (case zz_k4 => first | (first | lia | omega) | assumption | l_fact); (case zz_k5 => first | (first | lia | omega) | assumption | l_fact); k_whole); intro _ _ _ _ _ _ _; (try k_sweep)))
  (k_with "call builtin:divmod" => (k_here; (with_reducible show wpAny _ _ (call (Value.builtin _) [Value.int _ _, Value.int _ _]) _ _ _); refine divmod_N (by assumption) (by assumption) (by side_arith) ?_; intro _ _ _))
  (k_with "call builtin:len" => (k_here; (with_reducible show wpAny _ _ (call (Value.builtin _) [Value.ref _]) _ _ _); k_dflt (refine' Mine.lenN ?zz_k1 ?zz_k2 ?zz_k3 ?zz_k4 ?_; (case zz_k1 => k_asm); (case zz_k2 => k_mem); (case zz_k3 => with_reducible assumption); (case zz_k4 => ((try simp only [List.length_append, List.length_cons, List.length_nil, List.length_replicate, List.length_map]); (first | lia | omega))); k_whole); intro _ _))
  (k_with "binaryOp Sub int int" => (k_here; with_reducible refine' Mine.subIs ?zz_k1 ?_; (case zz_k1 => assumption)))
  (k_with "binaryOp Add int int" => (k_here; with_reducible refine' Mine.addIs ?zz_k1 ?_; (case zz_k1 => assumption)))
  (k_with "binaryOp Mult int int" => (k_here; with_reducible refine' Mine.mulIs ?zz_k1 ?zz_k2 ?_; (case zz_k1 => assumption); (case zz_k2 => exact Mine.bits64 (by (first | lia | omega)))))
  (k_with "binaryOp RShift int int" => (k_here; with_reducible refine' Mine.shrIs ?zz_k1 ?zz_k2 ?_; (case zz_k1 => assumption); (case zz_k2 => (first | lia | omega))))
  (k_with "binaryOp LShift int int" => (k_here; with_reducible refine' Mine.shlIs ?zz_k1 ?zz_k2 ?zz_k3 ?zz_k4 ?_; (case zz_k1 => assumption); (case zz_k2 => (first | lia | omega)); (case zz_k3 => (first | lia | omega)); (case zz_k4 => (first | lia | omega))))
  (k_with "binaryOp BitXor int int" => (k_here; with_reducible refine' Mine.xorIs ?zz_k1 ?_; (case zz_k1 => assumption)))
  (k_with "exec FunctionDef" => (k_here; kn_here; k_dflt (refine' nestDef_K ?zz_d0 ?zz_k0 ?zz_a0 ?_; (case zz_d0 => exact rfl); (case zz_k0 => exact rfl); (case zz_a0 => exact rfl)); (k_dflt (refine' Mine.nestBoth ?zz_F ?zz_N ?zz_T ?zz_C ?zz_cd ?zz_hs ?zz_ht ?zz_hP ?zz_hc ?zz_cl ?_; (case zz_F => k_asm); (case zz_N => k_asm); (case zz_T => k_asm); (case zz_cd => exact rfl); (case zz_C => kn_code); (case zz_hs => exact rfl); (case zz_ht => assumption); (case zz_hP => (dsimp only [List.dropLast]; k_all)); (case zz_hc => (dsimp only [List.dropLast]; k_all)); (case zz_cl => exact rfl); k_whole); intro _ _ _ _ _ _ _ _ _ _ N' _ _ l1 l2 _ _ _; (dsimp only [List.dropLast, List.append, HAppend.hAppend, Append.append] at N' l1 l2); (simp only [List.forall_mem_cons, List.forall_mem_nil, and_true] at l1 l2); (repeat (obtain ⟨_, l1⟩ := l1)); (repeat (obtain ⟨_, l2⟩ := l2)))))
  (k_with "call builtin:list.append" => (k_here; (with_reducible show wpAny _ _ (call (Value.builtin _) [Value.ref _, _]) _ _ _); k_dflt (refine' Mine.appendL ?zz_k1 ?zz_k2 ?zz_k3 ?zz_k4 ?_; (case zz_k1 => k_asm); (case zz_k2 => k_asm); (case zz_k3 => k_upd); (case zz_k4 => first | (first | lia | omega) | (simp only [List.length_nil, List.length_cons]; (first | lia | omega))); k_whole); intro _ _ _; (try k_sweep)))
  (k_with "call builtin:list.reverse" => (k_here; (with_reducible show wpAny _ _ (call (Value.builtin _) _) _ _ _); (try dsimp only); k_dflt (refine' Mine.reverseL ?zz_k1 ?zz_k2 ?zz_k3 ?zz_k4 ?zz_k5 ?_; (case zz_k1 => k_asm); (case zz_k2 => k_asm); (case zz_k3 => k_upd); (case zz_k4 => with_reducible assumption); (case zz_k5 => (first | lia | omega)); k_whole); intro _ _ _ _; (try k_sweep)))
  (k_with "unaryOp Invert int" => (k_here; with_reducible refine' Mine.invIs ?zz_k1 ?_; (case zz_k1 => assumption)))
  (k_with "kne" => (refine neN ?_; (try dsimp only); first | exact Mine.neA (by assumption) (by k_mem) | exact Mine.neA' (by assumption) (by k_mem) | exact Mine.ltA (by assumption) (by k_mem) | exact Mine.ltA' (by assumption) (by k_mem) | assumption | (apply Ne.symm; assumption)))
  (k_with "binaryOp Mult str int" => (k_here; k_dflt (refine' Mine.mulS ?zz_k1 ?zz_k2 ?_; (case zz_k1 => exact rfl); (case zz_k2 => (first | lia | omega)); k_whole); intro _ _))
  (k_with "binaryOp Add str str" => (k_here; (with_reducible show wpAny _ _ (binaryOp _ (Value.str (Mine.S _) _) (Value.str (Mine.S _) _)) _ _ _); k_dflt (refine' Mine.addS ?zz_k1 ?zz_k2 ?_; (case zz_k1 => (simp only [List.length_replicate]; (first | lia | omega))); (case zz_k2 => (simp only [List.length_replicate]; (first | lia | omega))); k_whole); intro _ _))
  (k_with "call ref" => (k_here; (with_reducible show wpAny _ _ (call (Value.ref 84) [Value.str (Mine.S _) _, Value.str (Mine.S _) _, Value.int 99 _]) _ _ _); k_dflt (refine' Mine.useLev (mc := 99) ?zz_k0 ?zz_k1 ?zz_k2 ?zz_cB ?zz_cF ?zz_cX ?zz_cN ?zz_cT ?zz_cf ?zz_ck ?zz_cdp ?zz_cun ?_; (case zz_k0 => exact rfl); (case zz_k1 => (simp only [List.length_append, List.length_replicate]; (first | lia | omega))); (case zz_k2 => (simp only [List.length_append, List.length_replicate]; (first | lia | omega))); (case zz_cN => k_asm); (case zz_cB => k_asm); (case zz_cF => k_asm); (case zz_cX => k_asm); (case zz_cT => k_asm); (case zz_cf => exact rfl); (case zz_ck => exact rfl); (case zz_cdp => ktr_room); (case zz_cun => ktr_units); k_whole); intro _ _ _ _ _))
  (k_with "execs cons" => (k_here; k_fold))
  (k_with "eval ListComp" => (k_here; k_fold))
  trivial
namespace Mine
theorem far_spec (w : World) (l1 l2 : Addr) (a b c d : Nat) (e1 e2 : Nat) (ta tb tc td : Tok) (ha : a ≤ 45) (hb : b ≤ 45) (hc : c ≤ 45) (hd : d ≤ 45) :
    C3 w 117 5 80 [(l1, listOf (List.toArray [.int a ta, .int b tb]) e1), (l2, listOf (List.toArray [.int c tc, .int d td]) e2)] [.ref l1, .ref l2]
      (fun v n' => n' = [(l1, listOf (List.toArray [.int a ta, .int b tb]) e1), (l2, listOf (List.toArray [.int c tc, .int d td]) e2)] ∧ ∃ t, v = .int (lev (wordL a b) (wordL c d) 99) t) := by
  intro p loose mean mg mb dp un gd fr base g s R B X T st sz N hd hu hret
  k_dflt (refine' enterP ?k1 ?kst ?ksz ?kN ?kX ?kT ?k6 ?k7 ?k8 ?k9 ?kB ?_ ?c2 ?c3 ?c4 ?c5; (case k1 => exact B); (case kst => exact st); (case ksz => exact sz); (case kN => exact N); (case kX => exact X); (case kT => exact T); (case k6 => k_is); (case k7 => k_is); (case k8 => first | exact Mine.rm0 (by assumption) | ktr_room); (case k9 => exact BindsTo.of_eq rfl); (case c5 => decide); (case kB => exact locs rfl); (case c2 => exact rfl); (case c3 => exact rfl); (case c4 => exact rfl); k_whole; intro L' h' F' N' l0; (try dsimp only); (try k_lt l0); (try k_fold))
  repeat' (first | (k_unfold; (try dsimp only)) | walk1 | (dsimp only; walk1))
  exact hret _ _ _ _ ⟨rfl, _, rfl⟩ (Fr.keep (by k_asm)) (out (by k_asm))
end Mine
theorem Mine.rows11 : True := by
  k_with_none
  trivial
namespace Mine
theorem idm_any (w : World) (a : Int) (b : Nat) (ta tb : Tok) (ha : a.natAbs < 2 ^ 47) (hb : 0 < b) (hb2 : b < 2 ^ 14)
    (p44 p51 : Array Value) (c44 c51 : Addr) (o44 o51 : Obj) (h44 : T44 p44 c44 o44) (h51 : T51 p51 c51 o51) (d1 : c44 ≠ 51) (d2 : c51 ≠ 44) (d3 : c44 ≠ c51) :
    C3 w 70 88 720 [(44, tabObj p44), (c44, o44), (51, tabObj p51), (c51, o51)] [.int a ta, .int b tb] (IdmPost (a.fdiv b) (a.fmod b)) := by
  by_cases h : 0 ≤ a
  · obtain ⟨k, rfl⟩ : ∃ k : Nat, a = (k : Int) := ⟨a.toNat, by (first | lia | omega)⟩
    have e1 : (k : Int).fdiv (b : Int) = ((k / b : Nat) : Int) := by rw [Int.fdiv_eq_ediv_of_nonneg _ (by (first | lia | omega))]; norm_cast
    have e2 : (k : Int).fmod (b : Int) = ((k % b : Nat) : Int) := by rw [Int.fmod_eq_emod_of_nonneg _ (by (first | lia | omega))]; norm_cast
    rw [e1, e2]
    intro p loose mean mg mb dp un gd fr base g s R B X T st sz N hd hu hret
    exact idm_pos w k b ta tb (by (first | lia | omega)) hb hb2 p44 p51 c44 c51 o44 o51 h44 h51 d1 d2 d3 p loose mean mg mb dp un gd fr base g s R B X T st sz N (by (first | lia | omega)) (by (first | lia | omega)) hret
  · obtain ⟨k, rfl⟩ : ∃ k : Nat, a = -((k : Int) + 1) := ⟨(-a - 1).toNat, by (first | lia | omega)⟩
    have hbp : (0 : Int) < (b : Int) := by (first | lia | omega)
    have d0 := Nat.div_add_mod k b
    have d9 := Nat.mod_lt k hb
    have e0 : -((k : Int) + 1) = (b : Int) * (-((k / b : Nat) : Int) - 1) + ((b : Int) + (-((k % b : Nat) : Int) - 1)) := by
      have : ((b * (k / b) + k % b : Nat) : Int) = (k : Int) := by rw [d0]
      rw [Int.natCast_add, Int.natCast_mul] at this
      rw [Int.mul_sub, Int.mul_neg]
      (first | lia | omega)
    have e1 : (-((k : Int) + 1)).fdiv (b : Int) = -((k / b : Nat) : Int) - 1 := by
      rw [Int.fdiv_eq_ediv_of_nonneg _ (by (first | lia | omega)), e0, Int.mul_add_ediv_left _ _ (by (first | lia | omega)), Int.ediv_eq_zero_of_lt (by (first | lia | omega)) (by (first | lia | omega))]
      (first | lia | omega)
    have e2 : (-((k : Int) + 1)).fmod (b : Int) = (b : Int) + (-((k % b : Nat) : Int) - 1) := by
      rw [Int.fmod_eq_emod_of_nonneg _ (by (first | lia | omega)), e0, Int.mul_add_emod_self_left]
      exact Int.emod_eq_of_lt (by (first | lia | omega)) (by (first | lia | omega))
    rw [e1, e2]
    exact idm_neg w k b ta tb (by (first | lia | omega)) hb hb2 p44 p51 c44 c51 o44 o51 h44 h51 d1 d2 d3
end Mine
namespace Mine
open PySem.AutoSeq1 (wpAny_loadPart')
open PySem.MeetsSeq PySem.MeetsSeq2 PySem.MeetsSeq3 PySem.SeqAt
theorem list_lt_loop0 (l b : Addr) (items items2 : Array Value) (n n2 : Nat) (dd dd2 : Option Addr) (sl sl2 : Array (Option Value)) (x y : Int) (t u : Tok) (h1 : items[0]? = some (.int x t)) (h2 : items2[0]? = some (.int y u)) (hxy : x ≠ y) :
    Meets (Builtin.«list.__eq__.loop» ⟨[.ref l, .ref b, rawInt 0, rawInt 0], []⟩)
      (fun _ R s => s.heap.get? l = some { cls := .type "list", dict := dd, data := .seq items n, slots := sl } ∧ s.heap.get? b = some { cls := .type "list", dict := dd2, data := .seq items2 n2, slots := sl2 } ∧
        R (.ok (.ret (.bool (decide (x < y))))) s) := by
  intro prog w A R s h
  obtain ⟨hp, g, d, tk, os⟩ := s; obtain ⟨hl, hb, h⟩ := h
  have hne : (x == y) = false := by simpa using hxy
  wp_walk using wpAny_loadPart' hl, wpAny_loadPart' hb
  rw [show ((0 : Int).toNat) = 0 from rfl, h1, h2]
  refine wpAny_bind (wpAny_eqBool_int ?_)
  rw [hne]
  wp_walk using wpAny_loadPart' hl, wpAny_loadPart' hb
  rw [h1, h2]
  refine wpAny_bind (PyProof.Rows.lt_int ?_)
  wp_walk
  exact h
theorem list_lt0 (l b : Addr) (items items2 : Array Value) (n n2 : Nat) (dd dd2 : Option Addr) (sl sl2 : Array (Option Value)) (x y : Int) (t u : Tok) (h1 : items[0]? = some (.int x t)) (h2 : items2[0]? = some (.int y u)) (hxy : x ≠ y) :
    Meets (Builtin.«list.__lt__» ⟨[.ref l, .ref b], []⟩)
      (fun _ R s => s.heap.get? l = some { cls := .type "list", dict := dd, data := .seq items n, slots := sl } ∧ s.heap.get? b = some { cls := .type "list", dict := dd2, data := .seq items2 n2, slots := sl2 } ∧
        R (.ok (.ret (.bool (decide (x < y))))) s) := by
  intro prog w A R s h
  obtain ⟨hp, g, d, tk, os⟩ := s; obtain ⟨hl, hb, h⟩ := h
  have f3 := AutoSeq1.sub_list_list
  wp_walk using wpAny_loadPart' hl, wpAny_loadPart' hb
  exact ⟨plainId_quiet plain_eq_loop _, codeAny_builtin entry_eq_loop (by
    rw [Around.under_plainId plain_eq_loop _]
    exact list_lt_loop0 l b items items2 n n2 dd dd2 sl sl2 x y t u h1 h2 hxy prog w A R _ ⟨hl, hb, h⟩)⟩
theorem key_lt {prog : Program} {w : World} {A : Around} {E : Value → Shared → Prop} {s : Shared} {l b : Addr} {items items2 : Array Value} {x y : Int} {t u : Tok} {Q : Bool → Shared → Prop}
    (hl : s.heap.IsList l items) (hb : s.heap.IsList b items2) (h1 : items[0]? = some (.int x t)) (h2 : items2[0]? = some (.int y u)) (hxy : x ≠ y) (hu : A.units < cLine) (h : Q (decide (x < y)) s) :
    wpAny (model prog w) A (keyLt' oneType' (.ref l) (.ref b)) Q E s := by
  obtain ⟨⟨cls, dd, data, sl⟩, ho, hc, n, hd⟩ := id hl
  obtain ⟨⟨cls2, dd2, data2, sl2⟩, ho2, hc2, n2, hd2⟩ := id hb
  simp only at hc hd hc2 hd2
  subst hc hd hc2 hd2
  rw [keyLt'_oneType, oneLt'_eq]
  simp only [if_true]
  refine wpAny_bind (wpAny_cRoomFor hu ?_)
  refine wpAny_bind (wpAny_callSpecialIfBound?_slot ⟨_, ho, rfl⟩ PySem.F.slot_list_lt (call_meets PySem.F.slot_list_lt ⟨_, ho, rfl⟩ PySem.F.entry_list_lt (PySem.F.args_list_lt_2 _ _) (list_lt0 l b items items2 n n2 dd dd2 sl sl2 x y t u h1 h2 hxy) ⟨ho, ho2, ?_⟩))
  exact wpAny_truthy_bool h
end Mine
namespace Mine
noncomputable def krun {α : Type} (lt : Nat → Nat → Bool) : KasT α → α
  | .ret a => a
  | .ask i j k => krun lt (k (lt i j))
noncomputable def kok {α : Type} (lt : Nat → Nat → Bool) (n : Nat) : KasT α → Bool
  | .ret _ => true
  | .ask i j k => decide (i < n) && decide (j < n) && decide (i ≠ j) && kok lt n (k (lt i j))
theorem krun_wp {α : Type} {lt : Nat → Nat → Bool} {n : Nat} {cmp : Nat → Nat → (Bool → Shared → Prop) → Shared → Prop} {Q : α → Shared → Prop} {s : Shared}
    (hc : ∀ i j (C : Bool → Shared → Prop), i < n → j < n → i ≠ j → C (lt i j) s → cmp i j C s) : ∀ t : KasT α, kok lt n t = true → Q (krun lt t) s → t.kasWp cmp Q s
  | .ret _, _, h => h
  | .ask i j k, ho, h => by
    simp only [kok, Bool.and_eq_true, decide_eq_true_eq] at ho
    exact hc i j _ ho.1.1.1 ho.1.1.2 ho.1.2 (krun_wp hc (k (lt i j)) ho.2 h)
end Mine
namespace Mine
theorem sortedBy {prog : Program} {w : World} {A : Around} {E : Value → Shared → Prop} {s : Shared} {h₀ : Heap} {L : Addr} {m : Str → Option Value} {news : List (Addr × Obj)} {l : Addr} {vs : List Value} {n : Nat} {key : Nat → Int} {Q : Value → Shared → Prop}
    (F : Fr h₀ L s.heap m) (N : News h₀ L s.heap news) (hl : s.heap.IsList l vs.toArray) (hn : vs.length = n) (h2 : 2 ≤ n) (h64 : n < 64)
    (hrow : ∀ h, Fr h₀ L h m → News h₀ L h news → ∀ i, i < n → ∃ a items t, vs.getD i .none = .ref a ∧ h.IsList a items ∧ items[0]? = some (.int (key i) t))
    (hkey : ∀ i j, i < n → j < n → i ≠ j → key i ≠ key j) (hok : kok (fun i j => decide (key i < key j)) n (kas_sort n) = true) (hu : A.in1.in1.units < cLine)
    (h : ∀ D c h', Fr h₀ L h' m → News h₀ L h' ((D, listOf (List.toArray ((krun (fun i j => decide (key i < key j)) (kas_sort n)).toList.map fun i => vs.getD i .none)) c) :: news) → (∀ q ∈ news, q.1 < D) → Q (.ref D) { s with heap := h' }) :
    wpAny (model prog w) A (call (.builtin "sorted") [.ref l]) Q E s := by
  subst hn
  refine kas_sorted (T := .type "list") F N hl h2 h64 ?_ (by decide +kernel) fun D e1 h' F' N' hD => ?_
  · intro h1 F1 N1 v hv
    obtain ⟨i, hi, rfl⟩ := List.getElem_of_mem hv
    obtain ⟨a, items, t, e, ho, -⟩ := hrow h1 F1 N1 i hi
    have e2 : vs[i] = .ref a := by rw [← e]; simp [hi]
    rw [e2]
    obtain ⟨o, g1, g2, -⟩ := ho
    rw [← g2]
    exact (Looks.ld g1).andThen .now
  · refine krun_wp (lt := fun i j => decide (key i < key j)) (n := vs.length) (fun i j C hi hj hij hC => ?_) _ hok ?_
    · obtain ⟨a, it1, t, e, ho, e1⟩ := hrow h' F' (fun q hq => N' q (.tail _ hq)) i hi
      obtain ⟨b, it2, u, e', ho', e2⟩ := hrow h' F' (fun q hq => N' q (.tail _ hq)) j hj
      unfold kas_ask
      rw [e, e']
      exact key_lt ho ho' e1 e2 (hkey i j hi hj hij) hu hC
    · exact KasFin.intro F' N' (.head fun p hp => Nat.ne_of_lt (hD p hp)) fun h2 c F2 N2 => h D c h2 F2 N2 hD
end Mine
namespace Mine
noncomputable def mvL (p r : Int) : List Int := paintF (PySem.Float64.cmp one64 0 == some Ordering.eq) (fr p (max 1 (6 * r))) one64 r
noncomputable def mvx (p r : Int) : Int := (mvL p r).getD 0 0 - (mvL p r).getD 1 0
noncomputable def mvy (p r : Int) : Int := (mvL p r).getD 1 0 - (mvL p r).getD 2 0
noncomputable def numZ (R x y : Int) : Int := x + (3 * R + 2) * y
noncomputable def plc (R : Nat) : List (Nat × Nat) := (List.range (R + 1)).flatMap fun g => (List.range (max 1 (6 * g))).map fun p => (g, p)
noncomputable def keyZ (R : Nat) (q : Nat × Nat) : Int := (numZ R (mvx q.2 q.1) (mvy q.2 q.1)).fmod (3 * (R : Int) * R + 3 * R + 1)
noncomputable def keysZ (R : Nat) : List Int := (plc R).map (keyZ R)
noncomputable def ltZ (R : Nat) (i j : Nat) : Bool := decide ((keysZ R).getD i 0 < (keysZ R).getD j 0)
noncomputable def ordR (R : Nat) : List Nat := (krun (ltZ R) (kas_sort (3 * R * R + 3 * R + 1))).toList
noncomputable def SortD (R : Nat) : Prop := kok (ltZ R) (3 * R * R + 3 * R + 1) (kas_sort (3 * R * R + 3 * R + 1)) = true ∧ (keysZ R).length = 3 * R * R + 3 * R + 1 ∧ (ordR R).map (fun i => (keysZ R).getD i 0) = (List.range (3 * R * R + 3 * R + 1)).map Int.ofNat ∧ (keysZ R).Nodup ∧ ∀ i ∈ ordR R, i < 3 * R * R + 3 * R + 1
noncomputable instance (R : Nat) : Decidable (SortD R) := by unfold SortD; infer_instance
theorem sort1 : SortD 1 := by decide +kernel
theorem sort2 : SortD 2 := by decide +kernel
theorem sort3 : SortD 3 := by decide +kernel
end Mine
namespace Mine
noncomputable def pre (g : Nat) : Nat := if g = 0 then 0 else 3 * g * g - 3 * g + 1
noncomputable def RowFit (R : Nat) : Prop := (∀ g, g < R + 1 → ∀ p, p < max 1 (6 * g) → MoveOk (p : Int) (g : Int) ∧ (plc R)[pre g + p]? = some (g, p) ∧ (numZ R (mvx p g) (mvy p g)).natAbs < 2 ^ 47) ∧ (∀ g, g < R + 1 → pre (g + 1) = pre g + max 1 (6 * g)) ∧ pre (R + 1) = 3 * R * R + 3 * R + 1
noncomputable instance (R : Nat) : Decidable (RowFit R) := by unfold RowFit; infer_instance
theorem fit1 : RowFit 1 := by decide +kernel
theorem fit2 : RowFit 2 := by decide +kernel
theorem fit3 : RowFit 3 := by decide +kernel
structure RowD where
  a : Addr
  m : Addr
  o : List Value
  mo : List Value
noncomputable def rowObjs (q : RowD) : List (Addr × Obj) := [(q.a, listOf q.o.toArray 0), (q.m, listOf q.mo.toArray 0)]
noncomputable def quoZ (R : Nat) (q : Nat × Nat) : Int := (numZ R (mvx q.2 q.1) (mvy q.2 q.1)).fdiv (3 * (R : Int) * R + 3 * R + 1)
noncomputable def RowIs (R : Nat) (z : Nat × Nat) (q : RowD) : Prop := ∃ t1 t2 t3 t4 t5 t6, q.o = [.int (keyZ R z) t1, .int (z.1 : Nat) t2, .int (z.2 : Nat) t3, .int (quoZ R z) t4, .ref q.m] ∧ q.mo = [.int (mvx z.2 z.1) t5, .int (mvy z.2 z.1) t6]
noncomputable def RowsAre (R k : Nat) (rs : List RowD) : Prop := rs.length = k ∧ ∀ (i : Nat) (q : RowD), rs[i]? = some q → ∃ z, (plc R)[i]? = some z ∧ RowIs R z q
theorem RowsAre.nil {R : Nat} : RowsAre R 0 [] := ⟨rfl, fun i q h => by simp at h⟩
theorem RowsAre.snoc {R k : Nat} {rs : List RowD} {q : RowD} {z : Nat × Nat} (H : RowsAre R k rs) (hz : (plc R)[k]? = some z) (hq : RowIs R z q) : RowsAre R (k + 1) (rs ++ [q]) := by
  refine ⟨by simp [H.1], fun i q' h => ?_⟩
  rcases Nat.lt_trichotomy i k with hi | hi | hi
  · rw [List.getElem?_append_left (by rw [H.1]; exact hi)] at h
    exact H.2 i q' h
  · subst hi
    rw [List.getElem?_append_right (by rw [H.1]; exact Nat.le_refl _), H.1, Nat.sub_self] at h
    cases h
    exact ⟨z, hz, hq⟩
  · rw [List.getElem?_eq_none (by simp [H.1]; (first | lia | omega))] at h
    cases h
end Mine
namespace Mine
noncomputable def SRows (M : Nat) (ss : List RowD) : Prop := ss.length = 3 * M * M + 3 * M + 1 ∧ ∀ (j : Nat) (q : RowD), ss[j]? = some q → ∃ z, z ∈ plc M ∧ keyZ M z = (j : Int) ∧ RowIs M z q
noncomputable def srt (M : Nat) (rs : List RowD) : List RowD := (ordR M).map fun i => rs.getD i ⟨0, 0, [], []⟩
theorem keysAt {M i : Nat} {z : Nat × Nat} (h : (plc M)[i]? = some z) : (keysZ M).getD i 0 = keyZ M z := by
  unfold keysZ
  rw [List.getD_eq_getElem?_getD, List.getElem?_map, h]
  rfl
theorem srows_of {M : Nat} (hs : SortD M) {rs : List RowD} (h : RowsAre M (3 * M * M + 3 * M + 1) rs) : SRows M (srt M rs) := by
  have h3 := hs.2.2.1
  have hb := hs.2.2.2.2
  have hlen : (ordR M).length = 3 * M * M + 3 * M + 1 := by
    have := congrArg List.length h3
    simpa using this
  refine ⟨by unfold srt; rw [List.length_map]; exact hlen, fun j q hq => ?_⟩
  unfold srt at hq
  rw [List.getElem?_map] at hq
  obtain ⟨i, hi, rfl⟩ := Option.map_eq_some_iff.mp hq
  have hin : i < rs.length := by rw [h.1]; exact hb i (List.mem_of_getElem? hi)
  have e1 : rs.getD i ⟨0, 0, [], []⟩ = rs[i] := by simp [List.getD, hin]
  obtain ⟨z, hz, hr⟩ := h.2 i rs[i] (by simp [hin])
  refine ⟨z, List.mem_of_getElem? hz, ?_, by rw [e1]; exact hr⟩
  have e2 := congrArg (fun l : List Int => l[j]?) h3
  try dsimp only at e2
  rw [List.getElem?_map, hi] at e2
  have hj : j < 3 * M * M + 3 * M + 1 := by rw [← hlen]; exact (List.getElem?_eq_some_iff.mp hi).1
  rw [List.getElem?_map, List.getElem?_range hj] at e2
  have e3 : (keysZ M).getD i 0 = Int.ofNat j := Option.some.inj e2
  rw [keysAt hz] at e3
  exact e3
theorem srt_refs {M : Nat} (hs : SortD M) {rs : List RowD} (h : RowsAre M (3 * M * M + 3 * M + 1) rs) : ((ordR M).map fun i => (rs.map fun q => Value.ref q.a).getD i .none) = (srt M rs).map fun q => Value.ref q.a := by
  unfold srt
  rw [List.map_map]
  apply List.map_congr_left
  intro i hi
  have hin : i < rs.length := by rw [h.1]; exact hs.2.2.2.2 i hi
  simp [List.getD, hin]
theorem srt_sub {M : Nat} (hs : SortD M) {rs : List RowD} (h : RowsAre M (3 * M * M + 3 * M + 1) rs) : ∀ x ∈ (srt M rs).flatMap rowObjs, x ∈ rs.flatMap rowObjs := by
  intro x hx
  obtain ⟨q, hq, hx⟩ := List.mem_flatMap.mp hx
  unfold srt at hq
  obtain ⟨i, hi, rfl⟩ := List.mem_map.mp hq
  have hin : i < rs.length := by rw [h.1]; exact hs.2.2.2.2 i hi
  refine List.mem_flatMap.mpr ⟨rs.getD i ⟨0, 0, [], []⟩, ?_, hx⟩
  simp [List.getD, hin]
theorem rowIsL {M : Nat} {z : Nat × Nat} {q : RowD} {h : Heap} (hr : RowIs M z q) (hg : h.get? q.a = some (listOf q.o.toArray 0)) : ∃ a items t, (Value.ref q.a) = .ref a ∧ h.IsList a items ∧ items[0]? = some (.int (keyZ M z) t) := by
  obtain ⟨t1, t2, t3, t4, t5, t6, e1, e2⟩ := hr
  refine ⟨q.a, q.o.toArray, t1, rfl, PySem.IsL.isList (n := 0) hg, ?_⟩
  rw [e1]
  rfl
theorem rowAt {M k : Nat} {rs : List RowD} (h : RowsAre M k rs) {g hh : Heap} {L : Addr} {news : List (Addr × Obj)} (N : News g L hh news) (hsub : ∀ x ∈ rs.flatMap rowObjs, x ∈ news) (i : Nat) (hi : i < k) :
    ∃ a items t, (rs.map fun q => Value.ref q.a).getD i .none = .ref a ∧ hh.IsList a items ∧ items[0]? = some (.int ((keysZ M).getD i 0) t) := by
  have hin : i < rs.length := by rw [h.1]; exact hi
  obtain ⟨z, hz, hr⟩ := h.2 i rs[i] (by simp [hin])
  have e1 : (rs.map fun q => Value.ref q.a).getD i .none = .ref rs[i].a := by simp [List.getD, hin]
  rw [e1, keysAt hz]
  exact rowIsL hr (N (rs[i].a, listOf rs[i].o.toArray 0) (hsub _ (List.mem_flatMap.mpr ⟨rs[i], by simp, .head _⟩))).1
theorem keyNe {M : Nat} (hs : SortD M) (i j : Nat) (hi : i < 3 * M * M + 3 * M + 1) (hj : j < 3 * M * M + 3 * M + 1) (hij : i ≠ j) : (keysZ M).getD i 0 ≠ (keysZ M).getD j 0 := by
  have hl := hs.2.1
  have hi' : i < (keysZ M).length := by (first | lia | omega)
  have hj' : j < (keysZ M).length := by (first | lia | omega)
  intro e
  have e1 : (keysZ M).getD i 0 = (keysZ M)[i] := by simp [List.getD, hi']
  have e2 : (keysZ M).getD j 0 = (keysZ M)[j] := by simp [List.getD, hj']
  rw [e1, e2] at e
  have hp := List.pairwise_iff_getElem.mp hs.2.2.2.1
  rcases Nat.lt_or_gt_of_ne hij with h | h
  · exact hp i j hi' hj' h e
  · exact hp j i hj' hi' h e.symm
end Mine
theorem Mine.rows12_0 : True := by
  k_with_none
  (k_with "call builtin:max" => (k_here; (with_reducible show wpAny _ _ (call (Value.builtin _) [Value.int _ _, Value.int _ _, Value.int _ _]) _ _ _); (with_unfolding_all refine' Mine.max3 ?zz_k1 ?zz_k2 ?zz_k3 ?_; (case zz_k1 => rfl); (case zz_k2 => k_asm); (case zz_k3 => k_asm); k_whole); intro _ _ _ _ _))
  (k_with "call builtin:min" => (k_here; (with_reducible show wpAny _ _ (call (Value.builtin _) [Value.int _ _, Value.int _ _, Value.int _ _]) _ _ _); (with_unfolding_all refine' Mine.min3 ?zz_k1 ?zz_k2 ?zz_k3 ?_; (case zz_k1 => rfl); (case zz_k2 => k_asm); (case zz_k3 => k_asm); k_whole); intro _ _ _ _ _))
  (k_with "binaryOp Mult ref int" => (k_here; k_dflt (refine' Mine.mulOne ?zz_k1 ?zz_k2 ?zz_k3 ?zz_k4 ?zz_k5 ?_; (case zz_k1 => k_asm); (case zz_k2 => k_asm); (case zz_k3 => k_mem); (case zz_k4 => first | (first | lia | omega) | assumption | l_fact); (case zz_k5 => first | (first | lia | omega) | assumption | l_fact); k_whole); intro _ _ _ _ _ _ _; (try k_sweep)))
  (k_with "call builtin:divmod" => (k_here; (with_reducible show wpAny _ _ (call (Value.builtin _) [Value.int _ _, Value.int _ _]) _ _ _); refine divmod_N (by assumption) (by assumption) (by side_arith) ?_; intro _ _ _))
  (k_with "call builtin:len" => (k_here; (with_reducible show wpAny _ _ (call (Value.builtin _) [Value.ref _]) _ _ _); k_dflt (refine' Mine.lenN ?zz_k1 ?zz_k2 ?zz_k3 ?zz_k4 ?_; (case zz_k1 => k_asm); (case zz_k2 => k_mem); (case zz_k3 => with_reducible assumption); (case zz_k4 => ((try simp only [List.length_append, List.length_cons, List.length_nil, List.length_replicate, List.length_map]); (first | lia | omega))); k_whole); intro _ _))
  (k_with "binaryOp Sub int int" => (k_here; with_reducible refine' Mine.subIs ?zz_k1 ?_; (case zz_k1 => assumption)))
  (k_with "binaryOp Add int int" => (k_here; with_reducible refine' Mine.addIs ?zz_k1 ?_; (case zz_k1 => assumption)))
  (k_with "binaryOp Mult int int" => (k_here; with_reducible refine' Mine.mulIs ?zz_k1 ?zz_k2 ?_; (case zz_k1 => assumption); (case zz_k2 => exact Mine.bits64 (by (first | lia | omega)))))
  (k_with "binaryOp RShift int int" => (k_here; with_reducible refine' Mine.shrIs ?zz_k1 ?zz_k2 ?_; (case zz_k1 => assumption); (case zz_k2 => (first | lia | omega))))
  (k_with "binaryOp LShift int int" => (k_here; with_reducible refine' Mine.shlIs ?zz_k1 ?zz_k2 ?zz_k3 ?zz_k4 ?_; (case zz_k1 => assumption); (case zz_k2 => (first | lia | omega)); (case zz_k3 => (first | lia | omega)); (case zz_k4 => (first | lia | omega))))
  (k_with "binaryOp BitXor int int" => (k_here; with_reducible refine' Mine.xorIs ?zz_k1 ?_; (case zz_k1 => assumption)))
  (k_with "exec FunctionDef" => (k_here; kn_here; k_dflt (refine' nestDef_K ?zz_d0 ?zz_k0 ?zz_a0 ?_; (case zz_d0 => exact rfl); (case zz_k0 => exact rfl); (case zz_a0 => exact rfl)); (k_dflt (refine' Mine.nestBoth ?zz_F ?zz_N ?zz_T ?zz_C ?zz_cd ?zz_hs ?zz_ht ?zz_hP ?zz_hc ?zz_cl ?_; (case zz_F => k_asm); (case zz_N => k_asm); (case zz_T => k_asm); (case zz_cd => exact rfl); (case zz_C => kn_code); (case zz_hs => exact rfl); (case zz_ht => assumption); (case zz_hP => (dsimp only [List.dropLast]; k_all)); (case zz_hc => (dsimp only [List.dropLast]; k_all)); (case zz_cl => exact rfl); k_whole); intro _ _ _ _ _ _ _ _ _ _ N' _ _ l1 l2 _ _ _; (dsimp only [List.dropLast, List.append, HAppend.hAppend, Append.append] at N' l1 l2); (simp only [List.forall_mem_cons, List.forall_mem_nil, and_true] at l1 l2); (repeat (obtain ⟨_, l1⟩ := l1)); (repeat (obtain ⟨_, l2⟩ := l2)))))
  (k_with "call builtin:list.append" => (k_here; (with_reducible show wpAny _ _ (call (Value.builtin _) [Value.ref _, _]) _ _ _); k_dflt (refine' Mine.appendL ?zz_k1 ?zz_k2 ?zz_k3 ?zz_k4 ?_; (case zz_k1 => k_asm); (case zz_k2 => k_asm); (case zz_k3 => k_upd); (case zz_k4 => first | (first | lia | omega) | (simp only [List.length_nil, List.length_cons]; (first | lia | omega))); k_whole); intro _ _ _; (try k_sweep)))
  (k_with "call builtin:list.reverse" => (k_here; (with_reducible show wpAny _ _ (call (Value.builtin _) _) _ _ _); (try dsimp only); k_dflt (refine' Mine.reverseL ?zz_k1 ?zz_k2 ?zz_k3 ?zz_k4 ?zz_k5 ?_; (case zz_k1 => k_asm); (case zz_k2 => k_asm); (case zz_k3 => k_upd); (case zz_k4 => with_reducible assumption); (case zz_k5 => (first | lia | omega)); k_whole); intro _ _ _ _; (try k_sweep)))
  (k_with "unaryOp Invert int" => (k_here; with_reducible refine' Mine.invIs ?zz_k1 ?_; (case zz_k1 => assumption)))
  (k_with "kne" => (refine neN ?_; (try dsimp only); first | exact Mine.neA (by assumption) (by k_mem) | exact Mine.neA' (by assumption) (by k_mem) | exact Mine.ltA (by assumption) (by k_mem) | exact Mine.ltA' (by assumption) (by k_mem) | assumption | (apply Ne.symm; assumption)))
  (k_with "call builtin:min" => (k_here; (with_reducible show wpAny _ _ (call (Value.builtin _) [Value.int _ _, Value.int _ _]) _ _ _); k_dflt (refine' Mine.min2 ?zz_k1 ?zz_k2 ?zz_k3 ?_; (case zz_k1 => exact rfl); (case zz_k2 => k_asm); (case zz_k3 => k_asm); k_whole); intro _ _ _ _ _))
  (k_with "call builtin:max" => (k_here; (with_reducible show wpAny _ _ (call (Value.builtin _) [Value.int _ _, Value.int _ _]) _ _ _); k_dflt (refine' Mine.max2 ?zz_k1 ?zz_k2 ?zz_k3 ?_; (case zz_k1 => exact rfl); (case zz_k2 => k_asm); (case zz_k3 => k_asm); k_whole); intro _ _ _ _ _))
  (k_with "call type:range" => (k_here; (with_reducible show wpAny _ _ (call (Value.type _) [Value.int (Nat.cast _) _]) _ _ _); k_dflt (refine' Mine.rng1 ?zz_k1 ?zz_k2 ?_; (case zz_k1 => k_asm); (case zz_k2 => k_asm); k_whole); intro _ _ _ _ _ _ _ _ _))
  (k_with "call type:range" => (k_here; (with_reducible show wpAny _ _ (call (Value.type _) [Value.int _ _, Value.int _ _, Value.int _ _]) _ _ _); k_dflt (refine' Mine.rng3 ?zz_k1 ?zz_k2 ?zz_k3 ?zz_k4 ?_; (case zz_k1 => k_asm); (case zz_k2 => k_asm); (case zz_k3 => decide); (case zz_k4 => decide); k_whole); intro _ _ _ _ _ _ _ _ _))
  (k_with "call type:list" => (k_here; (with_reducible show wpAny _ _ (call (Value.type _) [Value.ref _]) _ _ _); k_dflt (refine' Mine.listRng2 ?zz_k1 ?zz_k2 ?zz_k3 ?zz_k4 ?zz_k5 ?_; (case zz_k1 => exact rfl); (case zz_k2 => k_asm); (case zz_k3 => k_asm); (case zz_k4 => assumption); (case zz_k5 => (first | lia | omega)); k_whole); intro _ _ _ _ _ _ _ _ _))
  (k_with "binaryOp Add int int" => (k_here; with_reducible refine' Mine.addIs ?zz_k1 ?_; (case zz_k1 => assumption)))
  (k_with "binaryOp Mult int int" => (k_here; with_reducible refine' Mine.mulIs ?zz_k1 ?zz_k2 ?_; (case zz_k1 => assumption); (case zz_k2 => exact Mine.bits64 (by (first | lia | omega)))))
  (k_with "execs cons" => (k_here; k_fold))
  (k_with "eval ListComp" => (k_here; k_fold))
  trivial
namespace Mine
structure RwSt where
  rs : List RowD
  e : Nat
  p44 : Array Value
  p51 : Array Value
  c44 : Addr
  c51 : Addr
  o44 : Obj
  o51 : Obj
noncomputable def RwP (M : Nat) (D : Addr) (k : Nat) (c : RwSt) : Prop :=
  RowsAre M k c.rs ∧ T44 c.p44 c.c44 c.o44 ∧ T51 c.p51 c.c51 c.o51 ∧ c.c44 ≠ 51 ∧ c.c51 ≠ 44 ∧ c.c44 ≠ c.c51 ∧ 44 ≠ D ∧ 51 ≠ D ∧ c.c44 ≠ D ∧ c.c51 ≠ D ∧
    (∀ q ∈ c.rs.flatMap rowObjs, q.1 ≠ D) ∧ (∀ q ∈ c.rs.flatMap rowObjs, q.1 ≠ 44) ∧ (∀ q ∈ c.rs.flatMap rowObjs, q.1 ≠ c.c44) ∧ (∀ q ∈ c.rs.flatMap rowObjs, q.1 ≠ 51) ∧ (∀ q ∈ c.rs.flatMap rowObjs, q.1 ≠ c.c51)
theorem RwP.elim {M : Nat} {D : Addr} {k : Nat} {c : RwSt} {C : Prop} (h : RwP M D k c) (f : RowsAre M k c.rs → T44 c.p44 c.c44 c.o44 → T51 c.p51 c.c51 c.o51 → c.c44 ≠ 51 → c.c51 ≠ 44 → c.c44 ≠ c.c51 → 44 ≠ D → 51 ≠ D → c.c44 ≠ D → c.c51 ≠ D →
    (∀ q ∈ c.rs.flatMap rowObjs, q.1 ≠ D) → (∀ q ∈ c.rs.flatMap rowObjs, q.1 ≠ 44) → (∀ q ∈ c.rs.flatMap rowObjs, q.1 ≠ c.c44) → (∀ q ∈ c.rs.flatMap rowObjs, q.1 ≠ 51) → (∀ q ∈ c.rs.flatMap rowObjs, q.1 ≠ c.c51) → C) : C :=
  let ⟨b1, b2, b3, b4, b5, b6, b7, b8, b9, b10, b11, b12, b13, b14, b15⟩ := h
  f b1 b2 b3 b4 b5 b6 b7 b8 b9 b10 b11 b12 b13 b14 b15
noncomputable def RwI (M : Nat) (D I : Addr) (k : Nat) (c : RwSt) : Prop := RwP M D k c ∧ D ≠ I ∧ 44 ≠ I ∧ c.c44 ≠ I ∧ 51 ≠ I ∧ c.c51 ≠ I ∧ ∀ q ∈ c.rs.flatMap rowObjs, q.1 ≠ I
theorem RwI.elim {M : Nat} {D I : Addr} {k : Nat} {c : RwSt} {C : Prop} (h : RwI M D I k c) (f : RwP M D k c → D ≠ I → 44 ≠ I → c.c44 ≠ I → 51 ≠ I → c.c51 ≠ I → (∀ q ∈ c.rs.flatMap rowObjs, q.1 ≠ I) → C) : C :=
  let ⟨b, z1, z2, z3, z4, z5, z6⟩ := h
  f b z1 z2 z3 z4 z5 z6
theorem newsSub2 {h₀ h : Heap} {L : Addr} {n n' : List (Addr × Obj)} (N : News h₀ L h n) (P : ∀ q ∈ n', q ∈ n) : News h₀ L h n' := fun q hq => N q (P q hq)
theorem ledMv {α : Type} {a b c d e x : α} {l : List α} : ∀ q ∈ a :: b :: c :: d :: e :: x :: l, q ∈ (a :: b :: c :: d :: e :: l) ++ [x] := by
  intro q hq
  simp only [List.mem_append, List.mem_cons, List.not_mem_nil, or_false] at hq ⊢
  rcases hq with h | h | h | h | h | h | h <;> simp [h]
theorem ledIn {α : Type} {a b c d e x : α} {l : List α} : ∀ q ∈ a :: b :: c :: d :: e :: l, q ∈ a :: b :: c :: d :: e :: x :: l := by
  intro q hq
  simp only [List.mem_cons] at hq ⊢
  rcases hq with h | h | h | h | h | h <;> simp [h]
theorem flatSnoc (rs : List RowD) (r : RowD) : (rs ++ [r]).flatMap rowObjs = rs.flatMap rowObjs ++ [(r.a, listOf r.o.toArray 0), (r.m, listOf r.mo.toArray 0)] := by simp [rowObjs]
theorem flatNe {rs : List RowD} {r : RowD} {X : Addr} (h : ∀ q ∈ rs.flatMap rowObjs, q.1 ≠ X) (h1 : r.a ≠ X) (h2 : r.m ≠ X) : ∀ q ∈ (rs ++ [r]).flatMap rowObjs, q.1 ≠ X := by
  rw [flatSnoc]
  intro q hq
  simp only [List.mem_append, List.mem_cons, List.not_mem_nil, or_false] at hq
  rcases hq with hq | rfl | rfl
  · exact h q hq
  · exact h1
  · exact h2
theorem rows_spec (w : World) (M n : Nat) (tr td : Tok) (h1 : 1 ≤ M) (h3 : M ≤ 3) (hn : n = 3 * M * M + 3 * M + 1) (hf : RowFit M) (hs : SortD M)
    (p44 p51 : Array Value) (c44 c51 : Addr) (o44 o51 : Obj) (h44 : T44 p44 c44 o44) (h51 : T51 p51 c51 o51) (d1 : c44 ≠ 51) (d2 : c51 ≠ 44) (d3 : c44 ≠ c51) :
    C3 w 103 95 800 [(44, tabObj p44), (c44, o44), (51, tabObj p51), (c51, o51)] [.int M tr, .int n td]
      (fun v n' => ∃ D ss e p44' p51' c44' c51' o44' o51', v = .ref D ∧ n' = (D, listOf (ss.map fun q => Value.ref q.a).toArray e) :: (44, tabObj p44') :: (c44', o44') :: (51, tabObj p51') :: (c51', o51') :: ss.flatMap rowObjs ∧
        SRows M ss ∧ T44 p44' c44' o44' ∧ T51 p51' c51' o51' ∧ c44' ≠ 51 ∧ c51' ≠ 44 ∧ c44' ≠ c51' ∧ 44 ≠ D ∧ 51 ≠ D ∧ c44' ≠ D ∧ c51' ≠ D ∧
        (∀ q ∈ ss.flatMap rowObjs, q.1 ≠ 44) ∧ (∀ q ∈ ss.flatMap rowObjs, q.1 ≠ c44') ∧ (∀ q ∈ ss.flatMap rowObjs, q.1 ≠ 51) ∧ (∀ q ∈ ss.flatMap rowObjs, q.1 ≠ c51')) := by
  have j1 : Is ((M : Int) + 1) ((M + 1 : Nat) : Int) := by unfold Is; (first | lia | omega)
  intro p loose mean mg mb dp un gd fr base g s R B X T st sz N hd hu hret
  k_dflt (refine' enterP ?k1 ?kst ?ksz ?kN ?kX ?kT ?k6 ?k7 ?k8 ?k9 ?kB ?_ ?c2 ?c3 ?c4 ?c5; (case k1 => exact B); (case kst => exact st); (case ksz => exact sz); (case kN => exact N); (case kX => exact X); (case kT => exact T); (case k6 => k_is); (case k7 => k_is); (case k8 => first | exact Mine.rm0 (by assumption) | ktr_room); (case k9 => exact BindsTo.of_eq rfl); (case c5 => decide); (case kB => exact locs rfl); (case c2 => exact rfl); (case c3 => exact rfl); (case c4 => exact rfl); k_whole; intro L' h' F' N' l0; (try dsimp only); (try k_lt l0); (try k_fold))
  repeat' (first | (k_unfold; (try dsimp only)) | walk1 | (dsimp only; walk1))
  rename_i D _ lD _ _ _ r0 _ _ _ _ _ rg _ _
  refine goOn ?_
  have k1 : (44 : Nat) < D := lD _ (.head _)
  have k2 : c44 < D := lD (c44, o44) (.tail _ (.head _))
  have k3 : (51 : Nat) < D := lD _ (.tail _ (.tail _ (.head _)))
  have k4 : c51 < D := lD (c51, o51) (.tail _ (.tail _ (.tail _ (.head _))))
  k_dflt (refine' loopRF (σ := RwSt) (n := M + 1) (fun c => (D, listOf (c.rs.map fun q => Value.ref q.a).toArray c.e) :: (44, tabObj c.p44) :: (c.c44, c.o44) :: (51, tabObj c.p51) :: (c.c51, c.o51) :: c.rs.flatMap rowObjs) (fun c => [("radius", .int M tr), ("divisor", .int n td), ("rows", .ref D)]) (fun g c => RwP M D (pre g) c) ⟨[], 0, p44, p51, c44, c51, o44, o51⟩ ?hh ?hr ?hn ?F ?N ?hk ?hp ?turn ?done; (case hh => exact rfl); (case hr => assumption); (case hn => (first | lia | omega)); (case F => k_asm); (case N => k_asm); (case hk => repeat' (first | exact List.forall_mem_nil _ | (refine' List.forall_mem_cons.mpr ⟨?_, ?_⟩) | exact rfl)))
  case hp => exact ⟨RowsAre.nil, h44, h51, d1, d2, d3, Nat.ne_of_lt k1, Nat.ne_of_lt k3, Nat.ne_of_lt k2, Nat.ne_of_lt k4, (fun q h => nomatch h), (fun q h => nomatch h), (fun q h => nomatch h), (fun q h => nomatch h), (fun q h => nomatch h)⟩
  case turn =>
    intro g tg c u hh1 tk I oI hg hP hI F1 N1
    refine RwP.elim hP fun b1 b2 b3 b4 b5 b6 b7 b8 b9 b10 b11 b12 b13 b14 b15 => ?_
    clear hP
    obtain ⟨rs, e, p44', p51', c44', c51', o44', o51'⟩ := c
    dsimp only at *
    repeat' (first | (k_unfold; (try dsimp only)) | walk1 | (dsimp only; walk1))
    refine goOn ?_
    have em : (max 1 (6 * (g : Int))) = ((max 1 (6 * g) : Nat) : Int) := by (first | lia | omega)
    have rg2 := (by assumption : IsRange _ _ 0 (max 1 (6 * (g : Int))) 1 _ _ _)
    rw [em] at rg2
    k_dflt (refine' loopRF (σ := RwSt) (n := max 1 (6 * g)) (fun c => (D, listOf (c.rs.map fun q => Value.ref q.a).toArray c.e) :: (44, tabObj c.p44) :: (c.c44, c.o44) :: (51, tabObj c.p51) :: (c.c51, c.o51) :: (I, oI) :: c.rs.flatMap rowObjs) (fun c => [("radius", .int M tr), ("divisor", .int n td), ("rows", .ref D), ("ring", .int (g : Nat) tg)]) (fun p c => RwI M D I (pre g + p) c) ⟨rs, e, p44', p51', c44', c51', o44', o51'⟩ ?yh ?yr ?yn ?yF ?yN ?yk ?yp ?yt ?yd; (case yh => exact rfl); (case yr => exact rg2); (case yn => (first | lia | omega)); (case yF => k_asm); (case yk => repeat' (first | exact List.forall_mem_nil _ | (refine' List.forall_mem_cons.mpr ⟨?_, ?_⟩) | exact rfl)))
    case yN =>
      with_reducible rename News _ _ _ _ => NN
      exact fun q hq => NN q (ledMv q hq)
    case yp => exact ⟨⟨b1, b2, b3, b4, b5, b6, b7, b8, b9, b10, b11, b12, b13, b14, b15⟩, hI _ (.head _), hI _ (.tail _ (.head _)), hI (c44', o44') (.tail _ (.tail _ (.head _))), hI _ (.tail _ (.tail _ (.tail _ (.head _)))), hI (c51', o51') (.tail _ (.tail _ (.tail _ (.tail _ (.head _))))), fun q hq => hI q (.tail _ (.tail _ (.tail _ (.tail _ (.tail _ hq)))))⟩
    case yt =>
      clear hI b1 b2 b3 b4 b5 b6 b9 b10 b11 b12 b13 b14 b15
      intro p tp c u hh1 tk J oJ hp hP hJ F1 N1
      refine RwI.elim hP fun hP z1 z2 z3 z4 z5 z6 => RwP.elim hP fun b1 b2 b3 b4 b5 b6 b7 b8 b9 b10 b11 b12 b13 b14 b15 => ?_
      clear hP
      obtain ⟨rs, e, p44', p51', c44', c51', o44', o51'⟩ := c
      dsimp only at *
      repeat' (first | (k_unfold; (try dsimp only)) | walk1 | (dsimp only; walk1))
      obtain ⟨f1, f2, f3⟩ := hf.1 g hg p hp
      k_dflt (refine' CC.useK (move_spec _ _ _ _ _ ?ok) .nil ?cB ?cF ?cX ?cN ?cT ?cf ?ck ?cd ?cdp ?cun ?_; (case ok => exact f1); (case cN => k_asm); (case cB => k_asm); (case cF => k_asm); (case cX => k_asm); (case cT => k_asm); (case cf => exact rfl); (case ck => exact rfl); (case cdp => first | exact Mine.rm2 (by assumption) (by exact rfl) | exact Mine.rm0 (by assumption) | exact Mine.rm3 (by assumption) (by omega) | ktr_room); (case cun => first | exact Mine.rm2 (by assumption) (by exact rfl) | exact Mine.rm0 (by assumption) | exact Mine.rm3 (by assumption) (by omega) | ktr_units); (case cd => exact fun _ _ _ h => nomatch h); k_whole)
      intro v' n' h' tk' PP F' N' D'
      obtain ⟨mA, n1, n2, n3, t1, t2, rfl, rfl, hpf⟩ := PP
      have hm := D' _ (.head _)
      dsimp only [List.cons_append, List.nil_append] at N' hm ⊢
      repeat' (first | (k_unfold; (try dsimp only)) | walk1 | (dsimp only; walk1))
      have e1 : mvx p g = n1 - n2 := by unfold mvx mvL; rw [hpf]; rfl
      have e2 : mvy p g = n2 - n3 := by unfold mvy mvL; rw [hpf]; rfl
      rw [e1, e2] at f3
      k_dflt (refine' CC.useK (num_spec _ _ _ _ _ _ _ _ _ ?m0 ?m3) (.cons ?p1 .nil) ?cB ?cF ?cX ?cN ?cT ?cf ?ck ?cd ?cdp ?cun ?_; (case m0 => (first | lia | omega)); (case m3 => (first | lia | omega)); (case cN => k_asm); (case p1 => repeat' (first | exact Mine.Pick.head | refine' Mine.Pick.tail ?_)); (case cB => k_asm); (case cF => k_asm); (case cX => k_asm); (case cT => k_asm); (case cf => exact rfl); (case ck => exact rfl); (case cdp => first | exact Mine.rm2 (by assumption) (by exact rfl) | exact Mine.rm0 (by assumption) | exact Mine.rm3 (by assumption) (by omega) | ktr_room); (case cun => first | exact Mine.rm2 (by assumption) (by exact rfl) | exact Mine.rm0 (by assumption) | exact Mine.rm3 (by assumption) (by omega) | ktr_units); (case cd => exact fun q hq r hr => by rw [List.mem_singleton.mp hr]; exact hm q hq); k_whole)
      intro v' n' h' tk' PP F' N' D'
      obtain ⟨rfl, t3, rfl⟩ := PP
      dsimp only [List.cons_append, List.nil_append] at N' ⊢
      repeat' (first | (k_unfold; (try dsimp only)) | walk1 | (dsimp only; walk1))
      unfold numZ at f3
      k_dflt (refine' useQ (idm_any w _ _ _ _ ?ha ?hb ?hb2 _ _ _ _ _ _ b2 b3 b4 b5 b6) ?cN ?p1 ?p2 ?p3 ?p4 ?cB ?cF ?cX ?cT ?cf ?ck ?cd ?cdp ?cun ?_; (case ha => exact f3); (case hb => (first | lia | omega)); (case hb2 => (rcases (by (first | lia | omega) : M = 1 ∨ M = 2 ∨ M = 3) with rfl | rfl | rfl <;> (first | lia | omega))); (case cN => k_asm); (case p1 => repeat' (first | exact Mine.Pick.head | refine' Mine.Pick.tail ?_)); (case p2 => repeat' (first | exact Mine.Pick.head | refine' Mine.Pick.tail ?_)); (case p3 => repeat' (first | exact Mine.Pick.head | refine' Mine.Pick.tail ?_)); (case p4 => repeat' (first | exact Mine.Pick.head | refine' Mine.Pick.tail ?_)); (case cB => k_asm); (case cF => k_asm); (case cX => k_asm); (case cT => k_asm); (case cf => exact rfl); (case ck => exact rfl); (case cdp => first | exact Mine.rm2 (by assumption) (by exact rfl) | exact Mine.rm0 (by assumption) | exact Mine.rm3 (by assumption) (by omega) | ktr_room); (case cun => first | exact Mine.rm2 (by assumption) (by exact rfl) | exact Mine.rm0 (by assumption) | exact Mine.rm3 (by assumption) (by omega) | ktr_units); k_whole)
      case cd =>
        have hz : ∀ q ∈ (mA, listOf (List.toArray [.int (n1 - n2) t1, .int (n2 - n3) t2]) 0) :: (D, listOf (rs.map fun q => Value.ref q.a).toArray e) :: (I, oI) :: (rs.flatMap rowObjs ++ [(J, oJ)]), q.1 ≠ 44 ∧ q.1 ≠ c44' ∧ q.1 ≠ 51 ∧ q.1 ≠ c51' :=
          List.forall_mem_cons.mpr ⟨⟨(hm (44, tabObj p44') (by k_mem)).symm, (hm (c44', o44') (by k_mem)).symm, (hm (51, tabObj p51') (by k_mem)).symm, (hm (c51', o51') (by k_mem)).symm⟩,
            List.forall_mem_cons.mpr ⟨⟨b7.symm, b9.symm, b8.symm, b10.symm⟩, List.forall_mem_cons.mpr ⟨⟨z2.symm, z3.symm, z4.symm, z5.symm⟩,
              List.forall_mem_append.mpr ⟨fun q hq => ⟨b12 q hq, b13 q hq, b14 q hq, b15 q hq⟩, List.forall_mem_cons.mpr ⟨⟨(hJ (44, tabObj p44') (by k_mem)).symm, (hJ (c44', o44') (by k_mem)).symm, (hJ (51, tabObj p51') (by k_mem)).symm, (hJ (c51', o51') (by k_mem)).symm⟩, List.forall_mem_nil _⟩⟩⟩⟩⟩
        exact fun q hq => List.forall_mem_cons.mpr ⟨(hz q hq).1, List.forall_mem_cons.mpr ⟨(hz q hq).2.1, List.forall_mem_cons.mpr ⟨(hz q hq).2.2.1, List.forall_mem_cons.mpr ⟨(hz q hq).2.2.2, List.forall_mem_nil _⟩⟩⟩⟩
      intro T t4 t5 p44'' p51'' c44'' c51'' o44'' o51'' h' tk' F' N' tX44 tX51 y1 y2 y3 D1 D2 D3
      try dsimp only
      repeat' (first | (k_unfold; (try dsimp only)) | walk1 | (dsimp only; walk1))
      with_reducible rename News _ _ _ _ => NN
      rename_i R0 _ _ lR
      have hl : rs.length ≤ 100 := by
        have := hf.2.2
        have hpl : pre g + p < (plc M).length := (List.getElem?_eq_some_iff.mp f2).1
        have hsl := hs.2.1
        unfold keysZ at hsl
        rw [List.length_map] at hsl
        rw [b1.1]
        rcases (by (first | lia | omega) : M = 1 ∨ M = 2 ∨ M = 3) with rfl | rfl | rfl <;> (first | lia | omega)
      have ek : keyZ M (g, p) = (n1 - n2 + (3 * (M : Int) + 2) * (n2 - n3)).fmod (n : Int) := by unfold keyZ numZ; rw [e1, e2, hn]; push_cast; rfl
      have eq : quoZ M (g, p) = (n1 - n2 + (3 * (M : Int) + 2) * (n2 - n3)).fdiv (n : Int) := by unfold quoZ numZ; rw [e1, e2, hn]; push_cast; rfl
      k_dflt (refine' appendL (news := (D, listOf (rs.map fun q => Value.ref q.a).toArray e) :: (R0, listOf (List.toArray [.int (keyZ M (g, p)) t5, .int (g : Nat) tg, .int (p : Nat) tp, .int (quoZ M (g, p)) t4, .ref mA]) 0) :: (mA, listOf (List.toArray [.int (n1 - n2) t1, .int (n2 - n3) t2]) 0) :: (44, tabObj p44'') :: (c44'', o44'') :: (51, tabObj p51'') :: (c51'', o51'') :: (I, oI) :: (rs.flatMap rowObjs ++ [(J, oJ)])) ?aF ?aN (.head ?aU) ?al ?_; (case aF => k_asm); (case al => (rw [List.length_map]; (first | lia | omega))))
      case aN =>
        rw [ek, eq]
        exact newsSub2 NN (by repeat' (first | (refine' List.forall_mem_cons.mpr ⟨?_, ?_⟩) | k_mem | (intro q hq; repeat' (first | exact hq | refine List.Mem.tail _ ?_))))
      case aU => exact List.forall_mem_cons.mpr ⟨(Nat.ne_of_lt (lR (D, listOf (rs.map fun q => Value.ref q.a).toArray e) (by k_mem))).symm, List.forall_mem_cons.mpr ⟨(hm (D, listOf (rs.map fun q => Value.ref q.a).toArray e) (.head _)).symm, List.forall_mem_cons.mpr ⟨b7, List.forall_mem_cons.mpr ⟨(D2 (D, listOf (rs.map fun q => Value.ref q.a).toArray e) (.tail _ (.head _))).symm, List.forall_mem_cons.mpr ⟨b8, List.forall_mem_cons.mpr ⟨(D3 (D, listOf (rs.map fun q => Value.ref q.a).toArray e) (.tail _ (.head _))).symm, List.forall_mem_cons.mpr ⟨z1.symm, List.forall_mem_append.mpr ⟨fun q hq => b11 q hq, List.forall_mem_cons.mpr ⟨(hJ (D, listOf (rs.map fun q => Value.ref q.a).toArray e) (.head _)).symm, List.forall_mem_nil _⟩⟩⟩⟩⟩⟩⟩⟩⟩
      intro h' F' N'
      repeat' (first | (k_unfold; (try dsimp only)) | walk1 | (dsimp only; walk1))
      have r0 : ∀ x o, (x, o) ∈ (T, tupOf [.int ((n1 - n2 + (3 * (M : Int) + 2) * (n2 - n3)).fdiv (n : Int)) t4, .int ((n1 - n2 + (3 * (M : Int) + 2) * (n2 - n3)).fmod (n : Int)) t5]) :: _ → R0 ≠ x := fun x o h => (Nat.ne_of_lt (lR (x, o) h)).symm
      have m2 : ∀ q ∈ rs.flatMap rowObjs, q.1 ≠ c44'' := fun q hq => D2 q (by repeat' (first | exact hq | exact List.mem_append_left _ hq | refine List.Mem.tail _ ?_))
      have m3 : ∀ q ∈ rs.flatMap rowObjs, q.1 ≠ c51'' := fun q hq => D3 q (by repeat' (first | exact hq | exact List.mem_append_left _ hq | refine List.Mem.tail _ ?_))
      have m4 : ∀ q ∈ rs.flatMap rowObjs, q.1 ≠ J := fun q hq => hJ q (by repeat' (first | exact hq | exact List.mem_append_left _ hq | refine List.Mem.tail _ ?_))
      k_dflt (refine' fEnd ⟨rs ++ [⟨R0, mA, [.int (keyZ M (g, p)) t5, .int (g : Nat) tg, .int (p : Nat) tp, .int (quoZ M (g, p)) t4, .ref mA], [.int (n1 - n2) t1, .int (n2 - n3) t2]⟩], e + 1, p44'', p51'', c44'', c51'', o44'', o51''⟩ ?eF ?eN ?ek ?en ?ei ?eo ?ep; (case eF => k_asm); (case eN => exact N'); (case ek => repeat' (first | exact List.forall_mem_nil _ | (refine' List.forall_mem_cons.mpr ⟨?_, ?_⟩) | exact rfl)))
      case en =>
        rw [flatSnoc, List.map_append]
        exact List.forall_mem_cons.mpr ⟨by k_mem, List.forall_mem_cons.mpr ⟨by k_mem, List.forall_mem_cons.mpr ⟨by k_mem, List.forall_mem_cons.mpr ⟨by k_mem, List.forall_mem_cons.mpr ⟨by k_mem, List.forall_mem_cons.mpr ⟨by k_mem, List.forall_mem_append.mpr ⟨fun q hq => .tail _ (.tail _ (.tail _ (.tail _ (.tail _ (.tail _ (.tail _ (.tail _ (List.mem_append_left _ hq)))))))), List.forall_mem_cons.mpr ⟨by k_mem, List.forall_mem_cons.mpr ⟨by k_mem, List.forall_mem_nil _⟩⟩⟩⟩⟩⟩⟩⟩⟩
      case ei => simp
      case eo =>
        refine List.forall_mem_cons.mpr ⟨?_, List.forall_mem_cons.mpr ⟨?_, List.forall_mem_cons.mpr ⟨?_, List.forall_mem_cons.mpr ⟨?_, List.forall_mem_cons.mpr ⟨?_, List.forall_mem_cons.mpr ⟨?_, ?_⟩⟩⟩⟩⟩⟩
        · exact hJ (D, listOf (rs.map fun q => Value.ref q.a).toArray e) (.head _)
        · exact hJ (44, tabObj p44') (by k_mem)
        · exact (D2 (J, oJ) (by repeat' (first | exact List.Mem.head _ | exact List.mem_append_right _ (List.Mem.head _) | refine List.Mem.tail _ ?_))).symm
        · exact hJ (51, tabObj p51') (by k_mem)
        · exact (D3 (J, oJ) (by repeat' (first | exact List.Mem.head _ | exact List.mem_append_right _ (List.Mem.head _) | refine List.Mem.tail _ ?_))).symm
        · exact hJ (I, oI) (by k_mem)
        · exact flatNe m4 (r0 J oJ (by repeat' (first | exact List.Mem.head _ | exact List.mem_append_right _ (List.Mem.head _) | refine List.Mem.tail _ ?_))) (hm (J, oJ) (by repeat' (first | exact List.Mem.head _ | exact List.mem_append_right _ (List.Mem.head _) | refine List.Mem.tail _ ?_))).symm
      case ep =>
        refine ⟨⟨RowsAre.snoc b1 f2 ⟨t5, tg, tp, t4, t1, t2, rfl, by rw [e1, e2]⟩, tX44, tX51, y1, y2, y3, b7, b8, (D2 (D, listOf (rs.map fun q => Value.ref q.a).toArray e) (.tail _ (.head _))).symm, (D3 (D, listOf (rs.map fun q => Value.ref q.a).toArray e) (.tail _ (.head _))).symm, ?_, ?_, ?_, ?_, ?_⟩, z1, z2, (D2 (I, oI) (by repeat' (first | exact List.Mem.head _ | exact List.mem_append_right _ (List.Mem.head _) | refine List.Mem.tail _ ?_))).symm, z4, (D3 (I, oI) (by repeat' (first | exact List.Mem.head _ | exact List.mem_append_right _ (List.Mem.head _) | refine List.Mem.tail _ ?_))).symm, ?_⟩
        · exact flatNe b11 (r0 D (listOf (rs.map fun q => Value.ref q.a).toArray e) (by repeat' (first | exact List.Mem.head _ | exact List.mem_append_right _ (List.Mem.head _) | refine List.Mem.tail _ ?_))) (hm (D, listOf (rs.map fun q => Value.ref q.a).toArray e) (.head _)).symm
        · exact flatNe b12 (r0 44 (tabObj p44'') (by repeat' (first | exact List.Mem.head _ | exact List.mem_append_right _ (List.Mem.head _) | refine List.Mem.tail _ ?_))) (hm (44, tabObj p44') (by k_mem)).symm
        · exact flatNe m2 (r0 c44'' o44'' (by repeat' (first | exact List.Mem.head _ | exact List.mem_append_right _ (List.Mem.head _) | refine List.Mem.tail _ ?_))) (D2 (mA, _) (.head _))
        · exact flatNe b14 (r0 51 (tabObj p51'') (by repeat' (first | exact List.Mem.head _ | exact List.mem_append_right _ (List.Mem.head _) | refine List.Mem.tail _ ?_))) (hm (51, tabObj p51') (by k_mem)).symm
        · exact flatNe m3 (r0 c51'' o51'' (by repeat' (first | exact List.Mem.head _ | exact List.mem_append_right _ (List.Mem.head _) | refine List.Mem.tail _ ?_))) (D3 (mA, _) (.head _))
        · exact flatNe z6 (r0 I oI (by repeat' (first | exact List.Mem.head _ | exact List.mem_append_right _ (List.Mem.head _) | refine List.Mem.tail _ ?_))) (hm (I, oI) (by k_mem)).symm
    case yd =>
      intro c u hh1 tk hP F1 N1
      refine RwI.elim hP fun hP z1 z2 z3 z4 z5 z6 => ?_
      rw [← hf.2.1 g hg] at hP
      obtain ⟨rs, e, p44', p51', c44', c51', o44', o51'⟩ := c
      dsimp only at *
      repeat' (first | (k_unfold; (try dsimp only)) | walk1 | (dsimp only; walk1))
      k_dflt (refine' fEnd ⟨rs, e, p44', p51', c44', c51', o44', o51'⟩ ?F ?N ?hk ?hn ?hi ?ho ?hp; (case F => k_asm); (case N => exact N1); (case hk => repeat' (first | exact List.forall_mem_nil _ | (refine' List.forall_mem_cons.mpr ⟨?_, ?_⟩) | exact rfl)); (case hp => exact hP))
      case hn => exact ledIn
      case hi => k_mem
      case ho => exact List.forall_mem_cons.mpr ⟨z1, List.forall_mem_cons.mpr ⟨z2, List.forall_mem_cons.mpr ⟨z3, List.forall_mem_cons.mpr ⟨z4, List.forall_mem_cons.mpr ⟨z5, z6⟩⟩⟩⟩⟩
  case done =>
    intro c u hh1 tk hP F1 N1
    refine RwP.elim hP fun b1 b2 b3 b4 b5 b6 b7 b8 b9 b10 b11 b12 b13 b14 b15 => ?_
    clear hP
    rw [hf.2.2, ← hn] at b1
    obtain ⟨rs, e, p44', p51', c44', c51', o44', o51'⟩ := c
    dsimp only at *
    repeat' (first | (k_unfold; (try dsimp only)) | walk1 | (dsimp only; walk1))
    k_dflt (refine' sortedBy (key := fun i => (keysZ M).getD i 0) (vs := rs.map fun q => Value.ref q.a) (n := n) ?sF N1 (PySem.IsL.isList (n := e) (N1 _ (.head _)).1) ?sn ?s2 ?s64 ?srow ?skey ?sok ?su ?_; (case sF => k_asm); (case sn => exact (List.length_map _).trans b1.1); (case su => ktr_units))
    case s2 => rcases (by (first | lia | omega) : M = 1 ∨ M = 2 ∨ M = 3) with rfl | rfl | rfl <;> (first | lia | omega)
    case s64 => rcases (by (first | lia | omega) : M = 1 ∨ M = 2 ∨ M = 3) with rfl | rfl | rfl <;> (first | lia | omega)
    case srow => exact fun h _ NN i hi => rowAt b1 NN (fun x hx => .tail _ (.tail _ (.tail _ (.tail _ (.tail _ hx))))) i hi
    case skey => intro i j hi hj; rw [hn] at hi hj; exact keyNe hs i j hi hj
    case sok => rw [hn]; exact hs.1
    intro D2 e2 h' F' N' l2
    rw [hn] at b1 N'
    have er := srt_refs hs b1
    have es := srt_sub hs b1
    unfold ordR ltZ at er
    rw [er] at N'
    repeat' (first | (k_unfold; (try dsimp only)) | walk1 | (dsimp only; walk1))
    exact hret _ _ _ _ ⟨D2, srt M rs, e2, p44', p51', c44', c51', o44', o51', rfl, rfl, srows_of hs b1, b2, b3, b4, b5, b6, Nat.ne_of_lt (l2 (44, tabObj p44') (by k_mem)), Nat.ne_of_lt (l2 (51, tabObj p51') (by k_mem)), Nat.ne_of_lt (l2 (c44', o44') (by k_mem)), Nat.ne_of_lt (l2 (c51', o51') (by k_mem)), fun q hq => b12 q (es q hq), fun q hq => b13 q (es q hq), fun q hq => b14 q (es q hq), fun q hq => b15 q (es q hq)⟩ (Fr.keep F') (fun q hq => out N' q (by simp only [List.mem_cons] at hq ⊢; rcases hq with h | h | h | h | h | h <;> (first | (exact .inr (.inr (.inr (.inr (.inr (.inr (es q h))))))) | (simp [h]; done))))
end Mine
theorem Mine.rows13 : True := by
  k_with_none
  trivial
namespace Mine
theorem icv {i j : Nat} {dist res : Int} (hd : dist = 2 * (max i j : Nat)) (hr : dist ≤ res) : min (min res (2 * (max i (j + 1) : Nat) : Int) + 2) (dist + 2) = (2 * (max (i + 1) (j + 1) : Nat) : Int) := by
  have e1 : max (i + 1) (j + 1) = max i j + 1 := Nat.succ_max_succ i j
  have h1 : max i j ≤ max i (j + 1) := Nat.max_le.mpr ⟨Nat.le_max_left _ _, Nat.le_trans (Nat.le_succ j) (Nat.le_max_right _ _)⟩
  rw [e1]
  generalize max i (j + 1) = y at *
  generalize max i j = x at *
  subst hd
  clear e1
  have h2 : (2 * (x : Int)) ≤ min res (2 * (y : Int)) := Int.le_min.mpr ⟨hr, by clear hr; (first | lia | omega)⟩
  rw [Int.min_eq_right (Int.add_le_add_right h2 2)]
  clear h2 hr h1
  (first | lia | omega)
theorem icm {i j : Nat} : (2 * (max i (j + 1) : Nat) : Int) ≤ (2 * (max (i + 1) (j + 1) : Nat) : Int) :=
  Int.mul_le_mul_of_nonneg_left (Int.ofNat_le.mpr (Nat.max_le.mpr ⟨Nat.le_trans (Nat.le_succ i) (Nat.le_max_left _ _), Nat.le_max_right _ _⟩)) (by decide)
theorem inner_const {c d : Nat} (hc : costN c d = 2) (i : Nat) : ∀ (n j : Nat) (dist res mn : Int), dist = 2 * (max i j : Nat) → dist ≤ res →
    ∃ mn', innerGo c (List.replicate n d) ((List.range' j n).map fun j : Nat => (2 * (max i (j + 1) : Nat) : Int)) dist res mn = ((List.range' j n).map fun j : Nat => (2 * (max (i + 1) (j + 1) : Nat) : Int), (if n = 0 then res else (2 * (max (i + 1) (j + n) : Nat) : Int)), mn') ∧ mn' ≤ mn ∧ (0 < n → mn' ≤ (2 * (max (i + 1) (j + 1) : Nat) : Int))
  | 0, j, dist, res, mn, _, _ => ⟨mn, rfl, Int.le_refl _, fun h => absurd h (Nat.lt_irrefl _)⟩
  | n + 1, j, dist, res, mn, hd, hr => by
    have hv : min (min res (2 * (max i (j + 1) : Nat) : Int) + 2) (dist + costN c d) = (2 * (max (i + 1) (j + 1) : Nat) : Int) := by rw [hc]; exact icv hd hr
    obtain ⟨mn', e, h1, h2⟩ := inner_const hc i n (j + 1) (2 * (max i (j + 1) : Nat) : Int) (2 * (max (i + 1) (j + 1) : Nat) : Int) (if (2 * (max (i + 1) (j + 1) : Nat) : Int) < mn then (2 * (max (i + 1) (j + 1) : Nat) : Int) else mn) rfl icm
    refine ⟨mn', ?_, ?_, fun _ => ?_⟩
    · rw [List.replicate_succ, List.range'_succ, List.map_cons, List.map_cons]
      simp only [innerGo, hv, e]
      refine Prod.ext rfl (Prod.ext ?_ rfl)
      dsimp only
      by_cases hn : n = 0
      · subst hn; simp
      · rw [if_neg hn, if_neg (by (first | lia | omega)), show j + 1 + n = j + (n + 1) from by (first | lia | omega)]
    · split at h1 <;> (first | lia | omega)
    · split at h1 <;> (first | lia | omega)
theorem outer_const {c d n : Nat} (hc : costN c d = 2) (hn : 0 < n) : ∀ (m i : Nat) (res : Int), i + m ≤ 49 →
    outerGo (List.replicate n d) 99 (List.replicate m c) ((List.range' 0 n).map fun j : Nat => (2 * (max i (j + 1) : Nat) : Int)) res (i : Int) = if m = 0 then res else (2 * (max (i + m) n : Nat) : Int)
  | 0, _, _, _ => rfl
  | m + 1, i, res, hm => by
    obtain ⟨mn', e, -, h2⟩ := inner_const hc i n 0 ((i : Int) * 2) ((i : Int) * 2) 9223372036854775807 (by (first | lia | omega)) (Int.le_refl _)
    have h3 := h2 hn
    rw [List.replicate_succ]
    simp only [outerGo, e]
    rw [if_neg (by (first | lia | omega)), if_neg (by (first | lia | omega)), if_neg (by (first | lia | omega)), show ((i : Int) + 1) = ((i + 1 : Nat) : Int) from by (first | lia | omega), outer_const hc hn m (i + 1) _ (by (first | lia | omega))]
    by_cases h : m = 0
    · subst h; simp
    · rw [if_neg h, show i + 1 + m = i + (m + 1) from by (first | lia | omega)]
theorem levDP_const {c d n m : Nat} (hc : costN c d = 2) (hn : 0 < n) (hm : 0 < m) (h : m ≤ 49) (hnm : n ≤ m) : levDP (List.replicate n d) (List.replicate m c) 99 = 2 * m := by
  have := outer_const hc hn m 0 0 (by (first | lia | omega))
  unfold levDP
  rw [List.length_replicate]
  have e : ((List.range n).map fun i : Nat => (2 * ((i : Int) + 1))) = (List.range' 0 n).map fun j : Nat => (2 * (max 0 (j + 1) : Nat) : Int) := by
    rw [List.range_eq_range']
    apply List.map_congr_left
    intro a _
    (first | lia | omega)
  rw [e]
  rw [if_neg (by (first | lia | omega))] at this
  rw [show (0 : Int) = ((0 : Nat) : Int) from rfl]
  rw [show (((0 : Nat) : Int)) = (0 : Int) from rfl] at this ⊢
  refine this.trans ?_
  (first | lia | omega)
theorem lev1_const {c d n m : Nat} (h1 : costN c d = 2) (h2 : costN d c = 2) (hn : 0 < n) (hm : 0 < m) (hn4 : n ≤ 40) (hm4 : m ≤ 40) : lev1 (List.replicate n d) (List.replicate m c) 99 = 2 * (max n m : Nat) := by
  unfold lev1
  simp only [List.length_replicate]
  rw [if_neg (by (first | lia | omega)), if_neg (by (first | lia | omega)), if_neg (by (first | lia | omega)), if_neg (by (first | lia | omega))]
  by_cases h : (m : Int) < n
  · rw [if_pos h]
    unfold lev2
    simp only [List.length_replicate]
    rw [if_neg (by (first | lia | omega)), levDP_const h2 hm hn (by (first | lia | omega)) (by (first | lia | omega))]
    (first | lia | omega)
  · rw [if_neg h]
    unfold lev2
    simp only [List.length_replicate]
    rw [if_neg (by (first | lia | omega)), levDP_const h1 hn hm (by (first | lia | omega)) (by (first | lia | omega))]
    (first | lia | omega)
theorem preLen_rep (x : Nat) (l m : List Nat) : ∀ n, preLen (List.replicate n x ++ l) (List.replicate n x ++ m) = n + preLen l m
  | 0 => by simp
  | n + 1 => by simp only [List.replicate_succ, List.cons_append, preLen, if_true, preLen_rep x l m n]; (first | lia | omega)
theorem preLen_ne {x y : Nat} (h : x ≠ y) (l m : List Nat) (n k : Nat) (hn : n = 0 → l = []) (hk : k = 0 → m = []) : preLen (List.replicate n x ++ l) (List.replicate k y ++ m) = 0 := by
  cases n with
  | zero => rw [hn rfl]; simp; cases k <;> rfl
  | succ n => cases k with
    | zero => rw [hk rfl]; simp [List.replicate_succ, preLen]
    | succ k => simp [List.replicate_succ, preLen, h]
theorem levl_nil {m : List Nat} (mc : Int) : lev1 [] m mc = 2 * m.length := by unfold lev1; simp
theorem levr_nil {l : List Nat} (mc : Int) : lev1 l [] mc = 2 * l.length := by
  unfold lev1
  by_cases h : 0 < l.length
  · rw [if_neg (by (first | lia | omega))]; simp
  · rw [if_pos h]; simp
theorem cut_tail {x y : Nat} (hxy : x ≠ y) (p b d : Nat) (hp : 0 < p) :
    preLen (List.replicate b x).reverse (List.replicate p y ++ List.replicate d x).reverse = min b d ∧ preLen (List.replicate p y ++ List.replicate d x).reverse (List.replicate b x).reverse = min b d := by
  rw [List.reverse_append, List.reverse_replicate, List.reverse_replicate, List.reverse_replicate]
  rcases Nat.le_total b d with h | h
  · obtain ⟨e, rfl⟩ := Nat.exists_eq_add_of_le h
    rw [← List.replicate_append_replicate, List.append_assoc]
    have h1 := preLen_rep x [] (List.replicate e x ++ List.replicate p y) b
    have h2 := preLen_rep x (List.replicate e x ++ List.replicate p y) [] b
    rw [List.append_nil] at h1 h2
    rw [h1, h2, preLen_nil_r]
    constructor
    · show b + 0 = _; (first | lia | omega)
    · (first | lia | omega)
  · obtain ⟨e, rfl⟩ := Nat.exists_eq_add_of_le h
    rw [← List.replicate_append_replicate]
    rw [preLen_rep, preLen_rep]
    have h1 := preLen_ne hxy [] [] e p (fun _ => rfl) (by (first | lia | omega))
    have h2 := preLen_ne (Ne.symm hxy) [] [] p e (by (first | lia | omega)) (fun _ => rfl)
    rw [List.append_nil, List.append_nil] at h1 h2
    rw [h1, h2]
    (first | lia | omega)
theorem take_cut (p d k : Nat) (x y : Nat) : (List.replicate p y ++ List.replicate d x).take (p + (d - k)) = List.replicate p y ++ List.replicate (d - k) x := by
  rw [List.take_append, List.length_replicate]
  simp
theorem tail_lev {x y : Nat} (hxy : x ≠ y) (h1 : costN x y = 2) (h2 : costN y x = 2) (p b d : Nat) (hp : 0 < p) (hb : b ≤ 40) (hp4 : p ≤ 40) (hd : d ≤ 40) :
    lev1 (cutEnd (List.replicate b x) (List.replicate p y ++ List.replicate d x)) (cutEnd2 (List.replicate b x) (List.replicate p y ++ List.replicate d x)) 99 = (if b ≤ d then 2 * ((p : Int) + d - b) else 2 * (max (b - d) p : Nat))
    ∧ lev1 (cutEnd (List.replicate p y ++ List.replicate d x) (List.replicate b x)) (cutEnd2 (List.replicate p y ++ List.replicate d x) (List.replicate b x)) 99 = (if b ≤ d then 2 * ((p : Int) + d - b) else 2 * (max (b - d) p : Nat)) := by
  obtain ⟨c1, c2⟩ := cut_tail hxy p b d hp
  unfold cutEnd cutEnd2
  rw [c1, c2]
  simp only [List.length_append, List.length_replicate, List.take_replicate]
  rcases Nat.le_total b d with h | h
  · rw [show min b d = b from by (first | lia | omega), Nat.sub_self, show p + d - b = p + (d - b) from by (first | lia | omega), take_cut]
    have e0 : min 0 b = 0 := by (first | lia | omega)
    rw [e0, if_pos h]
    constructor
    · rw [show List.replicate 0 x = [] from rfl, levl_nil]
      simp only [List.length_append, List.length_replicate]; (first | lia | omega)
    · rw [show List.replicate 0 x = [] from rfl, levr_nil]
      simp only [List.length_append, List.length_replicate]; (first | lia | omega)
  · by_cases he : b = d
    · subst he
      rw [show min b b = b from by (first | lia | omega), Nat.sub_self, show p + b - b = p + (b - b) from by (first | lia | omega), take_cut, Nat.sub_self]
      have e0 : min 0 b = 0 := by (first | lia | omega)
      rw [e0, if_pos (Nat.le_refl _)]
      constructor
      · rw [show List.replicate 0 x = [] from rfl, levl_nil]
        simp only [List.length_append, List.length_replicate, List.append_nil]; (first | lia | omega)
      · rw [show List.replicate 0 x = [] from rfl, levr_nil]
        simp only [List.length_append, List.length_replicate, List.append_nil]; (first | lia | omega)
    · have hlt : d < b := by (first | lia | omega)
      rw [show min b d = d from by (first | lia | omega), show p + d - d = p + (d - d) from by (first | lia | omega), take_cut, Nat.sub_self, show List.replicate 0 x = [] from rfl, List.append_nil, show min (b - d) b = b - d from by (first | lia | omega), if_neg (by (first | lia | omega))]
      constructor
      · exact lev1_const h2 h1 (by (first | lia | omega)) hp (by (first | lia | omega)) hp4
      · rw [lev1_const h1 h2 hp (by (first | lia | omega)) hp4 (by (first | lia | omega)), Nat.max_comm]
theorem drop_rep (n x : Nat) (l : List Nat) : (List.replicate n x ++ l).drop n = l := by
  rw [List.drop_append, List.length_replicate]; simp
noncomputable def wayI (x y : Int) : Int := max (max (max x (-x)) (max y (-y))) (max (x + y) (-(x + y)))
theorem mabs {x : Int} (h : 0 ≤ x) : max x (-x) = x := Int.max_eq_left (Int.le_trans (Int.neg_nonpos_of_nonneg h) h)
theorem mabs' {x : Int} (h : x ≤ 0) : max x (-x) = -x := Int.max_eq_right (Int.le_trans h (Int.neg_nonneg_of_nonpos h))
theorem wayNeg (x y : Int) : wayI (-x) (-y) = wayI x y := by
  unfold wayI
  rw [Int.neg_neg, Int.neg_neg, Int.max_comm (-x) x, Int.max_comm (-y) y, ← Int.neg_add, Int.neg_neg, Int.max_comm (-(x + y)) (x + y)]
theorem wayPP {x y : Int} (hx : 0 ≤ x) (hy : 0 ≤ y) : wayI x y = x + y := by
  unfold wayI
  rw [mabs hx, mabs hy, mabs (Int.add_nonneg hx hy)]
  exact Int.max_eq_right (Int.max_le.mpr ⟨Int.le_add_of_nonneg_right hy, Int.le_add_of_nonneg_left hx⟩)
theorem wayPN {x y : Int} (hx : 0 ≤ x) (hy : 0 ≤ y) : wayI x (-y) = max x y := by
  unfold wayI
  rw [mabs hx, mabs' (Int.neg_nonpos_of_nonneg hy), Int.neg_neg]
  refine Int.max_eq_left (Int.max_le.mpr ⟨?_, ?_⟩)
  · exact Int.le_trans (by (first | lia | omega)) (Int.le_max_left x y)
  · exact Int.le_trans (by (first | lia | omega)) (Int.le_max_right x y)
theorem wayA (p b d : Nat) : (if b ≤ d then 2 * ((p : Int) + d - b) else 2 * ((max (b - d) p : Nat) : Int)) = 2 * wayI (p : Int) ((d : Int) - b) := by
  by_cases h : b ≤ d
  · rw [if_pos h, wayPP (Int.natCast_nonneg p) (Int.sub_nonneg_of_le (Int.ofNat_le.mpr h)), Int.add_sub_assoc]
  · rw [if_neg h, show (d : Int) - b = -(((b - d : Nat)) : Int) from by (first | lia | omega), wayPN (Int.natCast_nonneg p) (Int.natCast_nonneg _), Nat.max_comm, ← Lean.Omega.Int.ofNat_max]
theorem wayB1 (a p : Nat) : (a : Int) - ((a + p : Nat) : Int) = -(p : Int) := by (first | lia | omega)
theorem wayB2 (a p : Nat) : ((a + p : Nat) : Int) - (a : Int) = (p : Int) := by (first | lia | omega)
theorem way0 (e : Nat) : wayI 0 (e : Int) = e := (wayPP (Int.le_refl 0) (Int.natCast_nonneg e)).trans (Int.zero_add _)
theorem lev_word {a b c d : Nat} (ha : a ≤ 40) (hb : b ≤ 40) (hc : c ≤ 40) (hd : d ≤ 40) : lev (wordL a b) (wordL c d) 99 = 2 * wayI ((a : Int) - c) ((b : Int) - d) := by
  have k1 : costN 97 98 = 2 := by decide +kernel
  have k2 : costN 98 97 = 2 := by decide +kernel
  unfold lev
  by_cases he : wordL a b = wordL c d
  · rw [if_pos he]
    have h1 := congrArg (List.count 97) he
    have h2 := congrArg (List.count 98) he
    simp [wordL, List.count_replicate] at h1 h2
    subst h1 h2
    simp [wayI]
  · rw [if_neg he]
    unfold wordL at he ⊢
    rcases Nat.lt_trichotomy a c with h | h | h
    · obtain ⟨p, rfl⟩ := Nat.exists_eq_add_of_le (Nat.le_of_lt h)
      rw [← List.replicate_append_replicate, List.append_assoc, preLen_rep]
      have h0 := preLen_ne (x := 98) (y := 97) (by decide) [] (List.replicate d 98) b p (fun _ => rfl) (by (first | lia | omega))
      rw [List.append_nil] at h0
      rw [h0, Nat.add_zero, drop_rep, drop_rep, (tail_lev (x := 98) (y := 97) (by decide) k2 k1 p b d (by (first | lia | omega)) hb (by (first | lia | omega)) hd).1, wayA, wayB1, ← wayNeg, Int.neg_sub]
    · subst h
      rw [preLen_rep]
      rcases Nat.le_total b d with h | h
      · obtain ⟨e, rfl⟩ := Nat.exists_eq_add_of_le h
        have h1 := preLen_rep 98 [] (List.replicate e 98) b
        rw [List.append_nil, List.replicate_append_replicate] at h1
        rw [h1, show preLen [] (List.replicate e 98) = 0 from rfl, Nat.add_zero]
        rw [← List.drop_drop, drop_rep, ← List.drop_drop, drop_rep, List.drop_replicate, List.drop_replicate, Nat.sub_self, show b + e - b = e from by (first | lia | omega)]
        unfold cutEnd cutEnd2
        rw [show (List.replicate 0 98 : List Nat) = [] from rfl]
        rw [show preLen [].reverse (List.replicate e 98).reverse = 0 from rfl]
        simp only [List.length_nil, Nat.sub_zero, List.take_nil, levl_nil, List.length_take, List.length_replicate, Nat.min_self]
        rw [wayB1, Int.sub_self, ← wayNeg, Int.neg_neg, show -(0 : Int) = 0 from rfl, way0]
      · obtain ⟨e, rfl⟩ := Nat.exists_eq_add_of_le h
        have h1 := preLen_rep 98 (List.replicate e 98) [] d
        rw [List.append_nil, List.replicate_append_replicate] at h1
        rw [h1, preLen_nil_r, Nat.add_zero]
        rw [← List.drop_drop, drop_rep, ← List.drop_drop, drop_rep, List.drop_replicate, List.drop_replicate, Nat.sub_self, show d + e - d = e from by (first | lia | omega)]
        unfold cutEnd cutEnd2
        rw [show (List.replicate 0 98 : List Nat) = [] from rfl]
        rw [show preLen (List.replicate e 98).reverse [].reverse = 0 from preLen_nil_r _]
        simp only [List.length_nil, Nat.sub_zero, List.take_nil, levr_nil, List.length_take, List.length_replicate, Nat.min_self]
        rw [wayB2, Int.sub_self, way0]
    · obtain ⟨p, rfl⟩ := Nat.exists_eq_add_of_le (Nat.le_of_lt h)
      rw [← List.replicate_append_replicate, List.append_assoc, preLen_rep]
      have h0 := preLen_ne (x := 97) (y := 98) (by decide) (List.replicate b 98) [] p d (by (first | lia | omega)) (fun _ => rfl)
      rw [List.append_nil] at h0
      rw [h0, Nat.add_zero, drop_rep, drop_rep, (tail_lev (x := 98) (y := 97) (by decide) k2 k1 p d b (by (first | lia | omega)) hd (by (first | lia | omega)) hb).2, wayA, wayB2]
end Mine
namespace Mine
noncomputable def dvZ (M : Nat) : Int := 3 * (M : Int) * M + 3 * M + 1
noncomputable def awx (M k : Nat) : Int := mvx ((M : Int) + (k : Int) * (2 * (M : Int) + 1)) (2 * (M : Int) + 1)
noncomputable def awy (M k : Nat) : Int := mvy ((M : Int) + (k : Int) * (2 * (M : Int) + 1)) (2 * (M : Int) + 1)
noncomputable def sprOk (M : Nat) (x y : Int) : Prop := HsvOk (x + y + 64) (y + 64) 64 ∧ PySem.Float64.isNaN (spB (x + y + 64) (y + 64)) = false ∧ PySem.Float64.isInf (spB (x + y + 64) (y + 64)) = false ∧ PySem.Flt.toInt PySem.Float64.truncOf (spB (x + y + 64) (y + 64)) = wayI x y ∧ (M : Int) < wayI x y ∧ (mx3 (x + y + 64) (y + 64) 64).natAbs < 1000
noncomputable instance (M : Nat) (x y : Int) : Decidable (sprOk M x y) := by unfold sprOk; infer_instance
noncomputable def nxt (z : Nat × Nat) (k : Nat) : Nat × Nat := (z.1, (z.2 + (k + 1) * z.1) % max 1 (6 * z.1))
noncomputable def AwayD (M : Nat) : Prop := ∀ k : Nat, k < 6 → MoveOk ((M : Int) + (k : Int) * (2 * (M : Int) + 1)) (2 * (M : Int) + 1) ∧ (numZ M (awx M k) (awy M k)).fmod (dvZ M) = 0 ∧ (awx M k).natAbs ≤ 7 ∧ (awy M k).natAbs ≤ 7 ∧ -(2 * (M : Int) + 1) ≤ awx M k ∧ -(2 * (M : Int) + 1) ≤ awy M k
noncomputable instance (M : Nat) : Decidable (AwayD M) := by unfold AwayD; infer_instance
noncomputable def TurnD (M : Nat) : Prop := ∀ z ∈ plc M, wayI (mvx z.2 z.1) (mvy z.2 z.1) = (z.1 : Int) ∧ z.1 ≤ M ∧ ∀ k : Nat, k < 6 → sprOk M (mvx z.2 z.1 - awx M k) (mvy z.2 z.1 - awy M k) ∧ keyZ M (nxt z k) = (keyZ M z * (3 * (M : Int) + 2) ^ (k + 1)).fmod (dvZ M) ∧ nxt z k ∈ plc M
noncomputable instance (M : Nat) : Decidable (TurnD M) := by unfold TurnD; infer_instance
theorem away1 : AwayD 1 := by decide +kernel
theorem away2 : AwayD 2 := by decide +kernel
theorem away3 : AwayD 3 := by decide +kernel
noncomputable def ixZ (z : Nat × Nat) : Nat := if z.1 = 0 then 0 else 3 * z.1 * (z.1 - 1) + 1 + z.2
noncomputable def keyT (M : Nat) : List Int := if M = 1 then [0, 1, 5, 4, 6, 2, 3] else if M = 2 then [0, 1, 8, 7, 18, 11, 12, 2, 9, 16, 15, 14, 6, 17, 10, 3, 4, 5, 13] else [0, 1, 11, 10, 36, 26, 27, 2, 12, 22, 21, 20, 9, 35, 25, 15, 16, 17, 28, 3, 13, 23, 33, 32, 31, 30, 19, 8, 34, 24, 14, 4, 5, 6, 7, 18, 29]
noncomputable def TurnE (M : Nat) : Prop := (∀ z ∈ plc M, keyZ M z = (keyT M).getD (ixZ z) 0 ∧ wayI (mvx z.2 z.1) (mvy z.2 z.1) = (z.1 : Int) ∧ z.1 ≤ M ∧ ∀ k : Nat, k < 6 → sprOk M (mvx z.2 z.1 - awx M k) (mvy z.2 z.1 - awy M k)) ∧
  ∀ z ∈ plc M, ∀ k : Nat, k < 6 → (keyT M).getD (ixZ (nxt z k)) 0 = ((keyT M).getD (ixZ z) 0 * (3 * (M : Int) + 2) ^ (k + 1)).fmod (dvZ M) ∧ nxt z k ∈ plc M
noncomputable instance (M : Nat) : Decidable (TurnE M) := by unfold TurnE; infer_instance
theorem TurnE.d {M : Nat} (h : TurnE M) : TurnD M := fun z hz =>
  have a := h.1 z hz
  ⟨a.2.1, a.2.2.1, fun k hk => ⟨a.2.2.2 k hk, by have b := h.2 z hz k hk; rw [(h.1 _ b.2).1, a.1]; exact b.1, (h.2 z hz k hk).2⟩⟩
theorem turnE1 : TurnE 1 := by decide +kernel
theorem turnE2 : TurnE 2 := by decide +kernel
theorem turnE3 : TurnE 3 := by decide +kernel
theorem turn1 : TurnD 1 := turnE1.d
theorem turn2 : TurnD 2 := turnE2.d
theorem turn3 : TurnD 3 := turnE3.d
end Mine
namespace Mine
theorem inj_of {α : Type} (f : α → Int) : ∀ {l : List α}, (l.map f).Nodup → ∀ {x y : α}, x ∈ l → y ∈ l → f x = f y → x = y
  | a :: l, h, x, y, hx, hy, e => by
    rw [List.map_cons, List.nodup_cons] at h
    rcases List.mem_cons.mp hx with h1 | h1
    · rcases List.mem_cons.mp hy with h2 | h2
      · rw [h1, h2]
      · exact absurd (h1 ▸ e ▸ List.mem_map_of_mem h2) h.1
    · rcases List.mem_cons.mp hy with h2 | h2
      · exact absurd (h2 ▸ e.symm ▸ List.mem_map_of_mem h1) h.1
      · exact inj_of f h.2 h1 h2 e
theorem powB : ∀ M : Nat, M < 4 → ∀ i : Nat, i < 6 → (3 * M + 2) ^ (i + 1) ≤ 1771561 := by decide
theorem wayB {x y g : Int} (h : wayI x y = g) : x ≤ g ∧ -g ≤ x ∧ y ≤ g ∧ -g ≤ y := by
  subst h
  have a := Int.le_max_left (max (max x (-x)) (max y (-y))) (max (x + y) (-(x + y)))
  have b := Int.le_trans (Int.le_max_left (max x (-x)) (max y (-y))) a
  have c := Int.le_trans (Int.le_max_right (max x (-x)) (max y (-y))) a
  exact ⟨Int.le_trans (Int.le_max_left _ _) b, Int.neg_le_of_neg_le (Int.le_trans (Int.le_max_right _ _) b), Int.le_trans (Int.le_max_left _ _) c, Int.neg_le_of_neg_le (Int.le_trans (Int.le_max_right _ _) c)⟩
theorem fmod_mul {x y d : Int} (hd : 0 ≤ d) : (x * y).fmod d = ((x.fmod d) * y).fmod d := by
  rw [Int.fmod_eq_emod_of_nonneg _ hd, Int.fmod_eq_emod_of_nonneg _ hd, Int.fmod_eq_emod_of_nonneg _ hd]
  simp [Int.mul_emod]
structure TurnK (M n : Nat) (x w0 w1 A B : Int) (g pl : Nat) (ss : List RowD) (i : Nat) : Prop where
  mv : MoveOk ((M : Int) + (i : Int) * (2 * (M : Int) + 1)) (2 * (M : Int) + 1)
  c0 : 0 ≤ A + awx M i
  c1 : A + awx M i ≤ 40
  d0 : 0 ≤ B + awy M i
  d1 : B + awy M i ≤ 40
  fm : (A + awx M i + (3 * (M : Int) + 2) * (B + awy M i)).fmod (n : Int) = 0
  nb : (A + awx M i + (3 * (M : Int) + 2) * (B + awy M i)).natAbs < 2 ^ 47
  sp : sprOk M (w0 - (A + awx M i)) (w1 - (B + awy M i))
  xb : (x * (3 * (M : Int) + 2) ^ (i + 1)).natAbs < 2 ^ 47
  tn : ∃ (j : Nat) (r : RowD) (u : Int) (t1 t2 t3 t4 : Tok), ss[j]? = some r ∧ (x * (3 * (M : Int) + 2) ^ (i + 1)).fmod (n : Int) = (j : Int) ∧ r.o = [.int (j : Int) t1, .int (g : Int) t2, .int ((((pl + (i + 1) * g) % max 1 (6 * g) : Nat)) : Int) t3, .int u t4, .ref r.m]
theorem numB {M : Nat} {a b : Int} (h3 : M ≤ 3) (ha : 0 ≤ a) (ha2 : a ≤ 40) (hb : 0 ≤ b) (hb2 : b ≤ 40) : (a + (3 * (M : Int) + 2) * b).natAbs ≤ 1000 := by
  rcases (by (first | lia | omega) : M = 0 ∨ M = 1 ∨ M = 2 ∨ M = 3) with rfl | rfl | rfl | rfl <;> (first | lia | omega)
theorem l2K {M n : Nat} {w0 w1 : Int} {ss : List RowD} (h1 : 1 ≤ M) (h3 : M ≤ 3) (hn : n = 3 * M * M + 3 * M + 1) (ha : 3 * (M : Int) + 1 ≤ w0) (ha2 : w0 ≤ 3 * (M : Int) + 7) (hb : 3 * (M : Int) + 1 ≤ w1) (hb2 : w1 ≤ 3 * (M : Int) + 7) (hss : SRows M ss) {C : Prop}
    (k : ∀ (j : Nat) (r : RowD) (g pl : Nat) (u X Y : Int) (t1 t2 t3 t4 t5 t6 : Tok), ss[j]? = some r → j ≤ 40 → (w0 + (3 * (M : Int) + 2) * w1).natAbs ≤ 1000 → (w0 + (3 * (M : Int) + 2) * w1).fmod (n : Int) = (j : Int) →
      r.o = [.int (j : Int) t1, .int (g : Int) t2, .int (pl : Int) t3, .int u t4, .ref r.m] → r.mo = [.int X t5, .int Y t6] → g ≤ 3 → pl ≤ 18 →
      0 ≤ w0 - X → w0 - X ≤ 40 → 0 ≤ w1 - Y → w1 - Y ≤ 40 → (w0 - X + (3 * (M : Int) + 2) * (w1 - Y)).natAbs ≤ 1000 →
      (w0 - X + (3 * (M : Int) + 2) * (w1 - Y)).fdiv (n : Int) = (w0 + (3 * (M : Int) + 2) * w1).fdiv (n : Int) - u → (w0 - X + (3 * (M : Int) + 2) * (w1 - Y)).fmod (n : Int) = 0 →
      wayI (w0 - (w0 - X)) (w1 - (w1 - Y)) = (g : Int) → (∀ i : Nat, i < 6 → TurnK M n (w0 + (3 * (M : Int) + 2) * w1) w0 w1 (w0 - X) (w1 - Y) g pl ss i) → C) : C := by
  have hs : SortD M := by
    rcases (by (first | lia | omega) : M = 1 ∨ M = 2 ∨ M = 3) with rfl | rfl | rfl
    · exact sort1
    · exact sort2
    · exact sort3
  have hA : AwayD M := by
    rcases (by (first | lia | omega) : M = 1 ∨ M = 2 ∨ M = 3) with rfl | rfl | rfl
    · exact away1
    · exact away2
    · exact away3
  have hT : TurnD M := by
    rcases (by (first | lia | omega) : M = 1 ∨ M = 2 ∨ M = 3) with rfl | rfl | rfl
    · exact turn1
    · exact turn2
    · exact turn3
  have hP : ∀ z ∈ plc M, z.2 ≤ 18 := by
    rcases (by (first | lia | omega) : M = 1 ∨ M = 2 ∨ M = 3) with rfl | rfl | rfl <;> decide +kernel
  have hn0 : 0 < n := by (first | lia | omega)
  have hn40 : n ≤ 37 := by rcases (by (first | lia | omega) : M = 1 ∨ M = 2 ∨ M = 3) with rfl | rfl | rfl <;> (first | lia | omega)
  have hdv : dvZ M = (n : Int) := by rw [hn]; unfold dvZ; push_cast; rfl
  have hlen : ss.length = n := by rw [hss.1, hn]
  have at_ : ∀ v : Int, ∃ (j : Nat) (r : RowD) (z : Nat × Nat), v.fmod (n : Int) = (j : Int) ∧ j < n ∧ ss[j]? = some r ∧ z ∈ plc M ∧ keyZ M z = (j : Int) ∧ RowIs M z r := by
    intro v
    have f1 := Int.fmod_nonneg_of_pos v (b := (n : Int)) (by (first | lia | omega))
    have f2 := Int.fmod_lt_of_pos v (b := (n : Int)) (by (first | lia | omega))
    have hj : (v.fmod (n : Int)).toNat < ss.length := by (first | lia | omega)
    obtain ⟨z, hz, hk, hr⟩ := hss.2 (v.fmod (n : Int)).toNat ss[(v.fmod (n : Int)).toNat] (by simp [hj])
    exact ⟨_, _, z, (Int.toNat_of_nonneg f1).symm, by (first | lia | omega), by simp [hj], hz, hk, hr⟩
  obtain ⟨j, r, z, e1, hj, hr, hz, hk, t1, t2, t3, t4, t5, t6, o1, o2⟩ := at_ (w0 + (3 * (M : Int) + 2) * w1)
  obtain ⟨g1, g2, g3⟩ := hT z hz
  have hX := wayB g1
  have hz1 : (z.1 : Int) ≤ M := by (first | lia | omega)
  have e5 : keyZ M z = (numZ M (mvx z.2 z.1) (mvy z.2 z.1)).fmod (n : Int) := by unfold keyZ; rw [← hdv]; rfl
  have e6 : quoZ M z = (numZ M (mvx z.2 z.1) (mvy z.2 z.1)).fdiv (n : Int) := by unfold quoZ; rw [← hdv]; rfl
  have e7 : ∀ A B C D : Int, A - C + (3 * (M : Int) + 2) * (B - D) = (A + (3 * (M : Int) + 2) * B) - numZ M C D := by
    intro A B C D
    unfold numZ
    rw [Int.mul_sub]
    (first | lia | omega)
  have e8 : ∀ A B C D : Int, A + C + (3 * (M : Int) + 2) * (B + D) = (A + (3 * (M : Int) + 2) * B) + numZ M C D := by
    intro A B C D
    unfold numZ
    rw [Int.mul_add]
    (first | lia | omega)
  have m0 : (w0 - mvx z.2 z.1 + (3 * (M : Int) + 2) * (w1 - mvy z.2 z.1)).fdiv (n : Int) = (w0 + (3 * (M : Int) + 2) * w1).fdiv (n : Int) - quoZ M z ∧ (w0 - mvx z.2 z.1 + (3 * (M : Int) + 2) * (w1 - mvy z.2 z.1)).fmod (n : Int) = 0 := by
    rw [e7, e6]
    rw [hk] at e5
    rw [e5] at e1
    generalize w0 + (3 * (M : Int) + 2) * w1 = x at *
    generalize numZ M (mvx z.2 z.1) (mvy z.2 z.1) = y at *
    clear e7 e8 e6 e5 hk
    simp only [Int.fdiv_eq_ediv_of_nonneg _ (show (0 : Int) ≤ (n : Int) by (first | lia | omega)), Int.fmod_eq_emod_of_nonneg _ (show (0 : Int) ≤ (n : Int) by (first | lia | omega))] at *
    have a1 := Int.emod_add_mul_ediv x n
    have a2 := Int.emod_add_mul_ediv y n
    have a3 : x - y = (n : Int) * (x / n - y / n) := by rw [Int.mul_sub]; (first | lia | omega)
    rw [a3]
    exact ⟨Int.mul_ediv_cancel_left _ (by (first | lia | omega)), Int.mul_emod_right _ _⟩
  refine k j r z.1 z.2 (quoZ M z) (mvx z.2 z.1) (mvy z.2 z.1) t1 t2 t3 t4 t5 t6 hr (by (first | lia | omega)) (numB h3 (by (first | lia | omega)) (by (first | lia | omega)) (by (first | lia | omega)) (by (first | lia | omega))) e1 (by rw [o1, hk]) o2 (by (first | lia | omega)) (hP z hz) (by (first | lia | omega)) (by (first | lia | omega)) (by (first | lia | omega)) (by (first | lia | omega)) (numB h3 (by (first | lia | omega)) (by (first | lia | omega)) (by (first | lia | omega)) (by (first | lia | omega))) m0.1 m0.2 ?_ ?_
  · rw [show w0 - (w0 - mvx z.2 z.1) = mvx z.2 z.1 from by (first | lia | omega), show w1 - (w1 - mvy z.2 z.1) = mvy z.2 z.1 from by (first | lia | omega)]
    exact g1
  · intro i hi
    obtain ⟨a1, a2, a3, a4, a5, a6⟩ := hA i hi
    obtain ⟨b1, b2, b3⟩ := g3 i hi
    have c0 : 0 ≤ w0 - mvx z.2 z.1 + awx M i := by (first | lia | omega)
    have c1 : w0 - mvx z.2 z.1 + awx M i ≤ 40 := by (first | lia | omega)
    have d0 : 0 ≤ w1 - mvy z.2 z.1 + awy M i := by (first | lia | omega)
    have d1 : w1 - mvy z.2 z.1 + awy M i ≤ 40 := by (first | lia | omega)
    refine ⟨a1, c0, c1, d0, d1, ?_, Nat.lt_of_le_of_lt (numB h3 c0 c1 d0 d1) (by decide), ?_, ?_, ?_⟩
    · rw [e8]
      have m1 := m0.2
      rw [hdv] at a2
      simp only [Int.fmod_eq_emod_of_nonneg _ (show (0 : Int) ≤ (n : Int) by (first | lia | omega))] at a2 m1 ⊢
      rw [Int.add_emod, m1, a2]
      simp
    · rw [show w0 - (w0 - mvx z.2 z.1 + awx M i) = mvx z.2 z.1 - awx M i from by (first | lia | omega), show w1 - (w1 - mvy z.2 z.1 + awy M i) = mvy z.2 z.1 - awy M i from by (first | lia | omega)]
      exact b1
    · have p1 := powB M (by (first | lia | omega)) i hi
      have p2 : ((3 * (M : Int) + 2) ^ (i + 1)).natAbs = (3 * M + 2) ^ (i + 1) := by rw [Int.natAbs_pow]; congr 1
      have p3 := numB (M := M) (a := w0) (b := w1) h3 (by (first | lia | omega)) (by (first | lia | omega)) (by (first | lia | omega)) (by (first | lia | omega))
      rw [Int.natAbs_mul, p2]
      exact Nat.lt_of_le_of_lt (Nat.mul_le_mul p3 p1) (by decide)
    · obtain ⟨j', r', z', f1, f2, f3, f4, f5, s1, s2, s3, s4, s5, s6, q1, q2⟩ := at_ ((w0 + (3 * (M : Int) + 2) * w1) * (3 * (M : Int) + 2) ^ (i + 1))
      have f6 : keyZ M z' = keyZ M (nxt z i) := by
        rw [f5, b2, hdv, ← f1, hk, ← e1]
        exact fmod_mul (by (first | lia | omega))
      have f7 : z' = nxt z i := inj_of (keyZ M) hs.2.2.2.1 f4 b3 f6
      subst f7
      exact ⟨j', r', _, s1, s2, s3, s4, f3, f1, by rw [q1, f5]; rfl⟩
end Mine
namespace Mine
section
open PyProof.Rows.LCg
variable {prog : Program} {w : World} {A : Around} {E : Value → Shared → Prop} {s : Shared} {h₀ : Heap} {L : Addr} {m : Str → Option Value} {env : Env}
theorem compMap {elt : Expr} {x : Str} {scope : Scope} {cl : List (Str × Addr)} {S : List (Addr × Obj) → Prop} {P : Nat → Value → Prop} {news : List (Addr × Obj)} {Fin : List Value → List (Addr × Obj) → Prop} (n : Nat) (f : Nat → Int) (hS : S news)
    (hfin : ∀ ys : List Value, IntsAre ys ((List.range n).map f) → Fin ys news)
    (turn : ∀ (i : Nat) (v : Value) (I : Addr) (oI : Obj) (C : Addr) (oC : Obj) (D : Addr) (ys : List Value) (m₂ : Str → Option Value) (h : Heap) (tk : Nat) (E' : Value → Shared → Prop) (R : Value → List (Addr × Obj) → Prop),
      i < n → P i v → NsObj oC m₂ → m₂ x = some v → Fr h₀ L h m → News h₀ L h ((I, oI) :: (C, oC) :: (D, lst ys) :: news) → Off3 I C D news → ((@Ne Nat I C) ∧ (@Ne Nat I D) ∧ (@Ne Nat C D)) →
      (∀ t, R (.int (f i) t) news) →
      wpAny (model prog w) A (eval elt (compEnvC scope cl C env)) (CompEnd h₀ L m { s with heap := h, toks := tk } I oI C oC D (lst ys) S R) E' { s with heap := h, toks := tk }) :
    ∀ (k i : Nat) (ys : List Value), i + k = n → IntsAre ys ((List.range i).map f) → CompRest prog w A h₀ L m env elt x scope cl s S P Fin k i ys news
  | 0, i, ys, hk, hy => by
    rw [Nat.add_zero] at hk
    subst hk
    exact CompRest.zero (hfin ys hy)
  | k + 1, i, ys, hk, hy => by
    refine CompRest.succ fun v I oI C oC D m₂ h tk E' hv hC hx F N off ne => ?_
    refine turn i v I oI C oC D ys m₂ h tk E' _ (by (first | lia | omega)) hv hC hx F N off ne fun t => ?_
    refine compMap n f hS hfin turn k (i + 1) (ys ++ [.int (f i) t]) (by (first | lia | omega)) ?_
    rw [List.range_succ, List.map_append]
    exact ksk_snoc hy
end
end Mine
namespace Mine
noncomputable def Mark (_ : Nat) : Prop := True
theorem newsTail {h₀ h : Heap} {L : Addr} {x : Addr × Obj} {n : List (Addr × Obj)} (N : News h₀ L h (x :: n)) : News h₀ L h n := fun q hq => N q (.tail _ hq)
theorem newsSub {h₀ h : Heap} {L : Addr} {n n' : List (Addr × Obj)} (N : News h₀ L h n) (P : ∀ q ∈ n', q ∈ n) : News h₀ L h n' := fun q hq => N q (P q hq)
noncomputable def Qd (qs : List (Addr × Obj)) : Prop := ∃ (p44 p51 : Array Value) (c44 c51 : Addr) (o44 o51 : Obj), qs = [(44, tabObj p44), (c44, o44), (51, tabObj p51), (c51, o51)] ∧ T44 p44 c44 o44 ∧ T51 p51 c51 o51 ∧ c44 ≠ 51 ∧ c51 ≠ 44 ∧ c44 ≠ c51
noncomputable def Off (rest qs : List (Addr × Obj)) : Prop := ∀ q ∈ rest, ∀ r ∈ qs, q.1 ≠ r.1
theorem frK {h₀ h : Heap} {L : Addr} {m : Str → Option Value} (F : Fr h₀ L h m) : ∃ m', m' = m ∧ Fr h₀ L h m' := ⟨m, rfl, F⟩
theorem modTurn {pl i g : Nat} : Is (((pl : Int) + ((i : Int) + 1) * (g : Int)).fmod (max 1 (6 * (g : Int)))) (((pl + (i + 1) * g) % max 1 (6 * g) : Nat) : Int) := by
  unfold Is
  rw [Int.fmod_eq_emod_of_nonneg _ (by (first | lia | omega)), Int.natCast_emod]
  congr 1
  (first | lia | omega)
theorem tok2 {h₀ h : Heap} {L l : Addr} {a b : Int} {t1 t2 : Tok} {e : Nat} {rest : List (Addr × Obj)} (N : News h₀ L h ((l, listOf (List.toArray [.int a t1, .int b t2]) e) :: rest)) : ∃ t1' t2' : Tok, News h₀ L h ((l, listOf (List.toArray [.int a t1', .int b t2']) e) :: rest) := ⟨_, _, N⟩
theorem Off.new {r : Addr} {o : Obj} {R qs news : List (Addr × Obj)} (h : Off R qs) (l : ∀ p ∈ news, p.1 < r) (hs : ∀ q ∈ qs, q ∈ news) : Off ((r, o) :: R) qs :=
  List.forall_mem_cons.mpr ⟨fun q hq => (Nat.ne_of_lt (l q (hs q hq))).symm, h⟩
theorem refAt {ss : List RowD} {i : Nat} {v : Value} (h : (ss.map fun q => Value.ref q.a).toArray[i]? = some v) : ∃ q, ss[i]? = some q ∧ v = .ref q.a := by
  rw [List.getElem?_toArray, List.getElem?_map] at h
  obtain ⟨q, h1, rfl⟩ := Option.map_eq_some_iff.mp h
  exact ⟨q, h1, rfl⟩
theorem rowIn {ss : List RowD} {i : Nat} {q : RowD} (h : ss[i]? = some q) : (q.a, listOf q.o.toArray 0) ∈ ss.flatMap rowObjs := List.mem_flatMap.mpr ⟨q, List.mem_of_getElem? h, .head _⟩
theorem rowIn2 {ss : List RowD} {i : Nat} {q : RowD} (h : ss[i]? = some q) : (q.m, listOf q.mo.toArray 0) ∈ ss.flatMap rowObjs := List.mem_flatMap.mpr ⟨q, List.mem_of_getElem? h, .tail _ (.head _)⟩
theorem Off.one {I : Addr} {o : Obj} {R qs : List (Addr × Obj)} (h : ∀ q ∈ qs, q.1 ≠ I) (off : Off R qs) : Off ((I, o) :: R) qs := List.forall_mem_cons.mpr ⟨fun r hr => (h r hr).symm, off⟩
theorem Off.sub {R R' qs : List (Addr × Obj)} (h : Off R qs) (hs : ∀ q ∈ R', q ∈ R) : Off R' qs := fun q hq => h q (hs q hq)
section
variable {prog : Program} {w : World} {A : Around} {E : Value → Shared → Prop} {s : Shared} {a b v : Int} {t u : Tok} {Q : Value → Shared → Prop}
theorem modNat (hb : 0 < b) (h : ∀ n : Nat, (n : Int) < b → Q (.int (n : Int) s.toks) { s with toks := s.toks + 1 }) : wpAny (model prog w) A (binaryOp .Mod (.int a t) (.int b u)) Q E s := by
  have h1 := Int.fmod_nonneg_of_pos a hb
  have h2 := Int.fmod_lt_of_pos a hb
  have e : ((a.fmod b).toNat : Int) = a.fmod b := Int.toNat_of_nonneg h1
  have := h (a.fmod b).toNat (by rw [e]; exact h2)
  rw [e] at this
  exact PyProof.Rows.mod_int' (by (first | lia | omega)) this
theorem addOne {n : Nat} (hn : (n : Int) < 3) (h : ∀ M : Nat, 1 ≤ M → M ≤ 3 → Q (.int (M : Int) s.toks) { s with toks := s.toks + 1 }) : wpAny (model prog w) A (binaryOp .Add (.int 1 t) (.int (n : Int) u)) Q E s :=
  PyProof.Rows.add_int (by rw [show (1 : Int) + (n : Int) = ((1 + n : Nat) : Int) from by (first | lia | omega)]; exact h (1 + n) (by (first | lia | omega)) (by (first | lia | omega)))
theorem neSame (e : a = b) (h : Q (.bool false) s) : wpAny (model prog w) A (compareOp .NotEq (.int a t) (.int b u)) Q E s :=
  PyProof.Rows.ne_int (by rw [show (a != b) = false from by simp [e]]; exact h)
theorem leNo (e : b < a) (h : Q (.bool false) s) : wpAny (model prog w) A (compareOp .LtE (.int a t) (.int b u)) Q E s :=
  PyProof.Rows.le_int (by rw [show decide (a ≤ b) = false from by simp; (first | lia | omega)]; exact h)
theorem powIs {n : Nat} (e : Is (a ^ n) v) (hn : n ≤ 100) (hb : b = (n : Int)) (ha : a.natAbs < 2 ^ 60) (h : Q (.int v s.toks) { s with toks := s.toks + 1 }) : wpAny (model prog w) A (binaryOp .Pow (.int a t) (.int b u)) Q E s := by
  subst hb
  exact PyProof.Rows.pow_int_small (by (first | lia | omega)) (by (first | lia | omega)) (by (first | lia | omega)) (by rw [Int.toNat_natCast, show a ^ n = v from e]; exact h)
end
section
variable {prog : Program} {w : World} {A : Around} {E : Value → Shared → Prop} {s : Shared} {h₀ : Heap} {L : Addr} {m : Str → Option Value} {news : List (Addr × Obj)} {Q : Value → Shared → Prop}
theorem neInts {l1 l2 : Addr} {xs ys : List Value} {e1 e2 : Nat} {ns ms : List Int} (N : News h₀ L s.heap news) (ha : (l1, listOf xs.toArray e1) ∈ news) (hb : (l2, listOf ys.toArray e2) ∈ news) (hi : IntsAre xs ns) (hj : IntsAre ys ms) (he : ns = ms) (hu : A.units + 64 < cLine) (h : Q (.bool false) s) :
    wpAny (model prog w) A (compareOp .NotEq (.ref l1) (.ref l2)) Q E s :=
  ke_ne_ints (PySem.IsL.isList (n := e1) (N _ ha).1) (PySem.IsL.isList (n := e2) (N _ hb).1) hi hj hu (by rw [decide_eq_true he]; exact h)
theorem itemL {value slice : PySem.Expr} {l : Addr} {vs : List Value} {e : Nat} {k : Int} {u : Tok} {v : Value} (N : News h₀ L s.heap news) (hm : (l, listOf vs.toArray e) ∈ news)
    (h0 : 0 ≤ k) (hhi : k < 2 ^ 63) (hx : vs[k.toNat]? = some v) (h : Q v s)
    (hs : subscripted slice false (.ref l) (.int k u) = operate [.ref l, .int k u] (getItem (.ref l) (.int k u)) := by with_unfolding_all rfl) :
    wpAny (model prog w) A (subscriptTail value slice (.ref l) (.int k u)) Q E s :=
  have hl : s.heap.IsList l vs.toArray := PySem.IsL.isList (n := e) (N _ hm).1
  tail_any hl.typeIs slot_list_getitem.lookup (wpAny_getItem_list hl h0 hhi (by simpa using hx) h) hs
theorem sliceT {value slice : PySem.Expr} {l : Addr} {vs zs : List Value} {e : Nat} {vl vu : Value} {lo hi : Option Int} {ops : List Value} (F : Fr h₀ L s.heap m) (N : News h₀ L s.heap news) (hm : (l, listOf vs.toArray e) ∈ news) (pl : IsPart vl lo) (pu : IsPart vu hi)
    (ez : kms_pick vs lo hi = zs) (hz : vs.length ≤ 1000) (h : ∀ D h', Fr h₀ L h' m → News h₀ L h' ((D, listOf zs.toArray 0) :: news) → (∀ p ∈ news, p.1 < D) → Q (.ref D) { s with heap := h' })
    (hs : subscripted slice false (.ref l) (.ref s.heap.objs.size) = operate ops (getItem (.ref l) (.ref s.heap.objs.size)) := by with_unfolding_all rfl) :
    wpAny (model prog w) A (subscriptTail value slice (.ref l) (.ref s.heap.objs.size)) Q E { s with heap := s.heap.push { cls := .type "slice", data := .fields #[vl, vu, .none] } } := by
  have hl : s.heap.IsList l vs.toArray := PySem.IsL.isList (n := e) (N _ hm).1
  have G := F.push { cls := .type "slice", data := .fields #[vl, vu, .none] }
  have K := News.push G (N.grown fun _ _ z => Heap.get?_push_of_some _ z) { cls := .type "list", data := .seq (slicePick vs.toArray lo hi none) }
  refine tail_any (T := "list") (Heap.IsList.typeIs (s := { s with heap := s.heap.push { cls := .type "slice", data := .fields #[vl, vu, .none] } }) (hl.push _)) slot_list_getitem.lookup (wpAny_getItem_list_slice (hl.push _) (Heap.IsSliceOf.new ..) pl pu .none (by simp) ?_ (by rw [List.size_toArray]; unfold sizeLine; (first | lia | omega))) hs
  subst ez
  rw [kms_pick_eq] at K ⊢
  exact h _ _ (G.push _) K fun q hq => by
    rw [Heap.size_push]
    exact Nat.lt_succ_of_lt (Heap.lt_size (N q hq).1)
theorem listRng1 {r : Addr} {n : Nat} {b : Int} {t u v : Tok} (hh : A.handled = none) (F : Fr h₀ L s.heap m) (N : News h₀ L s.heap news) (hr : IsRange s.heap r 0 b 1 t u v) (hb : b = (n : Int)) (hn : n ≤ 1000)
    (h : ∀ D us c h' tk, Fr h₀ L h' m → News h₀ L h' ((D, listOf (List.toArray us) c) :: news) → (∀ p ∈ news, p.1 < D) → IntsAre us ((List.range n).map fun i : Nat => (i : Int)) → Q (.ref D) { s with heap := h', toks := tk }) :
    wpAny (model prog w) A (call (.type "list") [.ref r]) Q E s := by
  subst hb
  refine call_list_range hh hr (rsm n (by (first | lia | omega))) (rsz n) (by (first | lia | omega)) fun h' tk acc c hk hD hI => ?_
  have hD' : h'.get? s.heap.objs.size = some (listOf (List.toArray acc.toList) c) := by rw [Array.toArray_toList]; exact hD
  refine h _ acc.toList c h' tk (F.keeps hk) (news_pushed F N hk hD' rfl) (fun p hp => Heap.lt_size (N p hp).1) (ints_of_get _ _ (by simp [hI.1]) fun j v hj => ?_)
  obtain ⟨t', rfl⟩ := hI.2 j v (by rw [← hj, Array.getElem?_toList])
  have hjn : j < n := by
    have := (List.getElem?_eq_some_iff.mp hj).1
    rw [Array.length_toList, hI.1] at this
    exact this
  refine ⟨t', ?_⟩
  have : ((List.range n).map fun i : Nat => (i : Int)).getD j 0 = (j : Int) := by simp [List.getD, hjn]
  rw [this]
  congr 1
  (first | lia | omega)
end
section
variable {w : World} {p : Program} {loose : List Str} {mean : ExcName → Option Value} {mg mb : Str → Option Value} {dp un : Nat} {gd : Option (List Code)} {env : Env} {outer : List Env} {A₀ : Around} {base h₀ : Heap} {L : Addr} {m : Str → Option Value} {s : Shared} {Q E : Value → Shared → Prop} {news R qs : List (Addr × Obj)}
theorem useRO {f : Addr} {D U : Nat} {mu : List (Addr × Obj)} {vs : List Value} {k : Int} (C : C3 w f D U mu vs (fun v n' => n' = mu ∧ ∃ t, v = .int k t)) (N : News h₀ L s.heap news) (hsub : ∀ q ∈ mu, q ∈ news)
    (B : Below A₀ base outer h₀) (F : Fr h₀ L s.heap m) (X : (Mine.hd.heap_39 w.params).In h₀) (T : Top p loose mean mg mb h₀) (hf : env.frame = some L) (hke : env.scope.kind = .function) (hdp : dp + D < recursionLimit) (hun : un + U < cLine)
    (h : ∀ t h' tk', Fr h₀ L h' m → News h₀ L h' news → Q (.int k t) { s with heap := h', toks := tk' }) :
    wpAny (model PySem.Challenge.rw_pg0238_02.row.prog w) (Ar dp un gd (env :: outer)) (call (.ref f) vs) Q E s := by
  refine CC.use (rest := news.filter fun q => decide (q.1 ∉ mu.map (·.1))) C B F X N T hf hke ?_ ?_ hdp hun fun v n' h' tk' P F' N' _ => ?_
  · intro q hq
    rcases List.mem_append.mp hq with h | h
    · exact hsub q h
    · exact (List.mem_filter.mp h).1
  · intro q hq r hr e
    have := (List.mem_filter.mp hq).2
    rw [decide_eq_true_eq] at this
    exact this (e ▸ List.mem_map_of_mem hr)
  · obtain ⟨rfl, t, rfl⟩ := P
    refine h t h' tk' F' fun q hq => ?_
    by_cases hm : q.1 ∈ n'.map (·.1)
    · obtain ⟨r, hr, e⟩ := List.mem_map.mp hm
      have e1 := (N q hq).1
      have e2 := (N r (hsub r hr)).1
      rw [← e, e2] at e1
      have : q = r := Prod.ext e.symm (Option.some.inj e1).symm
      rw [this]
      exact N' r (List.mem_append_left _ hr)
    · exact N' q (List.mem_append_right _ (List.mem_filter.mpr ⟨hq, by rw [decide_eq_true_eq]; exact hm⟩))
theorem useIdmQ {x y fd fm : Int} {b : Nat} {tx ty : Tok} (hy : y = (b : Int)) (ha : x.natAbs < 2 ^ 47) (hb : 0 < b) (hb2 : b < 2 ^ 14) (hfd : x.fdiv b = fd) (hfm : x.fmod b = fm) (Hq : Qd qs) (N : News h₀ L s.heap news) (hsub : ∀ q ∈ R ++ qs, q ∈ news) (hoff : Off R qs)
    (B : Below A₀ base outer h₀) (F : Fr h₀ L s.heap m) (X : (Mine.hd.heap_39 w.params).In h₀) (T : Top p loose mean mg mb h₀) (hf : env.frame = some L) (hke : env.scope.kind = .function) (hdp : dp + 88 < recursionLimit) (hun : un + 720 < cLine)
    (h : ∀ D t1 t2 qs' h' tk', Fr h₀ L h' m → News h₀ L h' ((D, tupOf [.int fd t1, .int fm t2]) :: (R ++ qs')) → Qd qs' → Off R qs' → Q (.ref D) { s with heap := h', toks := tk' }) :
    wpAny (model PySem.Challenge.rw_pg0238_02.row.prog w) (Ar dp un gd (env :: outer)) (call (.ref 70) [.int x tx, .int y ty]) Q E s := by
  subst hy hfd hfm
  obtain ⟨p44, p51, c44, c51, o44, o51, rfl, t44, t51, d1, d2, d3⟩ := Hq
  refine CC.use (rest := R) (idm_any w x b tx ty ha hb hb2 p44 p51 c44 c51 o44 o51 t44 t51 d1 d2 d3) B F X N T hf hke (fun q hq => hsub q (by rw [List.mem_append] at hq ⊢; exact hq.symm)) hoff hdp hun fun v n' h' tk' P F' N' Dj => ?_
  obtain ⟨r, t1, t2, p44', p51', c44', c51', o44', o51', rfl, rfl, e1, e2, e3, e4, e5⟩ := P
  refine h r t1 t2 [(44, tabObj p44'), (c44', o44'), (51, tabObj p51'), (c51', o51')] h' tk' F' (fun q hq => N' q ?_) ⟨_, _, _, _, _, _, rfl, e1, e2, e3, e4, e5⟩ (fun q hq z hz => Dj z (.tail _ hz) q hq)
  simp only [List.mem_cons, List.mem_append, List.not_mem_nil, or_false] at hq ⊢
  rcases hq with h | h | h | h | h | h <;> simp [h]
theorem useRowsQ {M n : Nat} {y : Int} {tr td : Tok} (hy : y = (n : Int)) (h1 : 1 ≤ M) (h3 : M ≤ 3) (hn : n = 3 * M * M + 3 * M + 1) (Hq : Qd qs) (N : News h₀ L s.heap news) (hsub : ∀ q ∈ R ++ qs, q ∈ news) (hoff : Off R qs)
    (B : Below A₀ base outer h₀) (F : Fr h₀ L s.heap m) (X : (Mine.hd.heap_39 w.params).In h₀) (T : Top p loose mean mg mb h₀) (hf : env.frame = some L) (hke : env.scope.kind = .function) (hdp : dp + 95 < recursionLimit) (hun : un + 800 < cLine)
    (h : ∀ D ss e qs' h' tk', Fr h₀ L h' m → News h₀ L h' ((D, listOf (ss.map fun q => Value.ref q.a).toArray e) :: (R ++ (ss.flatMap rowObjs ++ qs'))) → SRows M ss → Qd qs' → Off ((D, listOf (ss.map fun q => Value.ref q.a).toArray e) :: (R ++ ss.flatMap rowObjs)) qs' → Q (.ref D) { s with heap := h', toks := tk' }) :
    wpAny (model PySem.Challenge.rw_pg0238_02.row.prog w) (Ar dp un gd (env :: outer)) (call (.ref 103) [.int (M : Int) tr, .int y td]) Q E s := by
  subst hy
  obtain ⟨p44, p51, c44, c51, o44, o51, rfl, t44, t51, d1, d2, d3⟩ := Hq
  have hf1 : RowFit M := by
    rcases (by (first | lia | omega) : M = 1 ∨ M = 2 ∨ M = 3) with rfl | rfl | rfl
    · exact fit1
    · exact fit2
    · exact fit3
  have hs1 : SortD M := by
    rcases (by (first | lia | omega) : M = 1 ∨ M = 2 ∨ M = 3) with rfl | rfl | rfl
    · exact sort1
    · exact sort2
    · exact sort3
  refine CC.use (rest := R) (rows_spec w M n tr td h1 h3 hn hf1 hs1 p44 p51 c44 c51 o44 o51 t44 t51 d1 d2 d3) B F X N T hf hke (fun q hq => hsub q (by rw [List.mem_append] at hq ⊢; exact hq.symm)) hoff hdp hun fun v n' h' tk' P F' N' Dj => ?_
  obtain ⟨D, ss, e, p44', p51', c44', c51', o44', o51', rfl, rfl, hss, e1, e2, e3, e4, e5, f1, f2, f3, f4, g1, g2, g3, g4⟩ := P
  refine h D ss e [(44, tabObj p44'), (c44', o44'), (51, tabObj p51'), (c51', o51')] h' tk' F' (fun q hq => N' q ?_) hss ⟨_, _, _, _, _, _, rfl, e1, e2, e3, e4, e5⟩ ?_
  · simp only [List.mem_cons, List.mem_append, List.not_mem_nil, or_false] at hq ⊢
    rcases hq with h | h | h | h | h | h | h <;> simp [h]
  · intro q hq z hz
    rcases List.mem_cons.mp hq with rfl | hq
    · simp only [List.mem_cons, List.not_mem_nil, or_false] at hz
      rcases hz with rfl | rfl | rfl | rfl
      · exact f1.symm
      · exact f3.symm
      · exact f2.symm
      · exact f4.symm
    · rcases List.mem_append.mp hq with hq | hq
      · exact Dj z (by simp only [List.mem_cons, List.not_mem_nil, or_false] at hz ⊢; rcases hz with h | h | h | h <;> simp [h]) q hq
      · simp only [List.mem_cons, List.not_mem_nil, or_false] at hz
        rcases hz with rfl | rfl | rfl | rfl
        · exact g1 q hq
        · exact g2 q hq
        · exact g3 q hq
        · exact g4 q hq
theorem useMoveQ {q r X Y : Int} {tp tr : Tok} (hok : MoveOk q r) (hX : mvx q r = X) (hY : mvy q r = Y) (N : News h₀ L s.heap news)
    (B : Below A₀ base outer h₀) (F : Fr h₀ L s.heap m) (X₀ : (Mine.hd.heap_39 w.params).In h₀) (T : Top p loose mean mg mb h₀) (hf : env.frame = some L) (hke : env.scope.kind = .function) (hdp : dp + 6 < recursionLimit) (hun : un + 90 < cLine)
    (h : ∀ D t1 t2 h' tk', Fr h₀ L h' m → News h₀ L h' ((D, listOf (List.toArray [.int X t1, .int Y t2]) 0) :: news) → (∀ p ∈ news, p.1 ≠ D) → Q (.ref D) { s with heap := h', toks := tk' }) :
    wpAny (model PySem.Challenge.rw_pg0238_02.row.prog w) (Ar dp un gd (env :: outer)) (call (.ref 89) [.int q tp, .int r tr]) Q E s := by
  refine CC.use (mu := []) (rest := news) (move_spec w q r tp tr hok) B F X₀ N T hf hke (fun q hq => hq) (fun _ _ _ q => nomatch q) hdp hun fun z n' h' tk' P F' N' Dj => ?_
  obtain ⟨D, n1, n2, n3, t1, t2, rfl, rfl, hpf⟩ := P
  have e1 : n1 - n2 = X := by rw [← hX]; unfold mvx mvL; rw [hpf]; rfl
  have e2 : n2 - n3 = Y := by rw [← hY]; unfold mvy mvL; rw [hpf]; rfl
  rw [e1, e2] at N'
  exact h D t1 t2 h' tk' F' N' (Dj _ (.head _))
theorem useFarI {l1 l2 : Addr} {a b c d g : Int} {e1 e2 : Nat} {ta tb tc td : Tok} (ha : 0 ≤ a) (ha2 : a ≤ 40) (hb : 0 ≤ b) (hb2 : b ≤ 40) (hc : 0 ≤ c) (hc2 : c ≤ 40) (hd : 0 ≤ d) (hd2 : d ≤ 40) (hg : wayI (a - c) (b - d) = g) (N : News h₀ L s.heap news)
    (hsub : ∀ q ∈ [(l1, listOf (List.toArray [.int a ta, .int b tb]) e1), (l2, listOf (List.toArray [.int c tc, .int d td]) e2)], q ∈ news)
    (B : Below A₀ base outer h₀) (F : Fr h₀ L s.heap m) (X : (Mine.hd.heap_39 w.params).In h₀) (T : Top p loose mean mg mb h₀) (hf : env.frame = some L) (hke : env.scope.kind = .function) (hdp : dp + 5 < recursionLimit) (hun : un + 80 < cLine)
    (h : ∀ t h' tk', Fr h₀ L h' m → News h₀ L h' news → Q (.int (2 * g) t) { s with heap := h', toks := tk' }) :
    wpAny (model PySem.Challenge.rw_pg0238_02.row.prog w) (Ar dp un gd (env :: outer)) (call (.ref 117) [.ref l1, .ref l2]) Q E s := by
  obtain ⟨a, rfl⟩ := Int.eq_ofNat_of_zero_le ha
  obtain ⟨b, rfl⟩ := Int.eq_ofNat_of_zero_le hb
  obtain ⟨c, rfl⟩ := Int.eq_ofNat_of_zero_le hc
  obtain ⟨d, rfl⟩ := Int.eq_ofNat_of_zero_le hd
  subst hg
  refine useRO (far_spec w l1 l2 a b c d e1 e2 ta tb tc td (by (first | lia | omega)) (by (first | lia | omega)) (by (first | lia | omega)) (by (first | lia | omega))) N hsub B F X T hf hke hdp hun ?_
  rw [lev_word (by (first | lia | omega)) (by (first | lia | omega)) (by (first | lia | omega)) (by (first | lia | omega))]
  exact h
theorem useSprI {l1 l2 : Addr} {M : Nat} {a b c d : Int} {e1 e2 : Nat} {ta tb tc td : Tok} (hs : sprOk M (a - c) (b - d)) (N : News h₀ L s.heap news)
    (hsub : ∀ q ∈ [(l1, listOf (List.toArray [.int a ta, .int b tb]) e1), (l2, listOf (List.toArray [.int c tc, .int d td]) e2)], q ∈ news)
    (B : Below A₀ base outer h₀) (F : Fr h₀ L s.heap m) (X : (Mine.hd.heap_39 w.params).In h₀) (T : Top p loose mean mg mb h₀) (hf : env.frame = some L) (hke : env.scope.kind = .function) (hdp : dp + 5 < recursionLimit) (hun : un + 60 < cLine)
    (h : ∀ g t h' tk', wayI (a - c) (b - d) = g → (M : Int) < g → Fr h₀ L h' m → News h₀ L h' news → Q (.int g t) { s with heap := h', toks := tk' }) :
    wpAny (model PySem.Challenge.rw_pg0238_02.row.prog w) (Ar dp un gd (env :: outer)) (call (.ref 110) [.ref l1, .ref l2]) Q E s :=
  useRO (spread_spec w l1 l2 a b c d (wayI (a - c) (b - d)) e1 e2 ta tb tc td hs.1 hs.2.1 hs.2.2.1 hs.2.2.2.1 hs.2.2.2.2.2) N hsub B F X T hf hke hdp hun fun t h' tk' F' N' => h _ t h' tk' rfl hs.2.2.2.2.1 F' N'
end
end Mine
namespace Mine
section
variable {M : PySem.Model} {A : Around} {E : Value → Shared → Prop} {s : Shared} {h₀ : Heap} {L a : Addr} {m : Str → Option Value} {cn : Str} {cs : Scope} {ccd : Value} {cl : List (Str × Addr)} {x : Str} {v : Value} {Q : Unit → Shared → Prop} {news : List (Addr × Obj)}
theorem storeI {n : Int} {t : Tok} (F : Fr h₀ L s.heap m) (N : News h₀ L s.heap news)
    (h : ∀ h' t' tk', Fr h₀ L h' (fun y => if y = x then some (.int n t') else m y) → News h₀ L h' news → Q () { s with heap := h', toks := tk' })
    (hk : cs.kind = .function := by rfl) (hx : (envX cn cs L a ccd cl).kindOf x = some .local := by rfl) : wpAny M A (storeName (envX cn cs L a ccd cl) x (.int n t)) Q E s :=
  storeX_L F N (fun h' F N => h h' t _ F N) hk hx
theorem storeV (F : Fr h₀ L s.heap m) (N : News h₀ L s.heap news)
    (h : ∀ h' tk', Fr h₀ L h' (fun y => if y = x then some v else m y) → News h₀ L h' news → Q () { s with heap := h', toks := tk' })
    (hk : cs.kind = .function := by rfl) (hx : (envX cn cs L a ccd cl).kindOf x = some .local := by rfl) : wpAny M A (storeName (envX cn cs L a ccd cl) x v) Q E s :=
  storeX_L F N (fun h' F N => h h' _ F N) hk hx
end
end Mine
theorem Mine.rows14_0 : True := by
  k_with_none
  (k_with "call builtin:max" => (k_here; (with_reducible show wpAny _ _ (call (Value.builtin _) [Value.int _ _, Value.int _ _, Value.int _ _]) _ _ _); (with_unfolding_all refine' Mine.max3 ?zz_k1 ?zz_k2 ?zz_k3 ?_; (case zz_k1 => rfl); (case zz_k2 => k_asm); (case zz_k3 => k_asm); k_whole); intro _ _ _ _ _))
  (k_with "call builtin:min" => (k_here; (with_reducible show wpAny _ _ (call (Value.builtin _) [Value.int _ _, Value.int _ _, Value.int _ _]) _ _ _); (with_unfolding_all refine' Mine.min3 ?zz_k1 ?zz_k2 ?zz_k3 ?_; (case zz_k1 => rfl); (case zz_k2 => k_asm); (case zz_k3 => k_asm); k_whole); intro _ _ _ _ _))
  (k_with "binaryOp Mult ref int" => (k_here; k_dflt (refine' Mine.mulOne ?zz_k1 ?zz_k2 ?zz_k3 ?zz_k4 ?zz_k5 ?_; (case zz_k1 => k_asm); (case zz_k2 => k_asm); (case zz_k3 => k_mem); (case zz_k4 => first | (first | lia | omega) | assumption | l_fact); (case zz_k5 => first | (first | lia | omega) | assumption | l_fact); k_whole); intro _ _ _ _ _ _ _; (try k_sweep)))
  (k_with "call builtin:divmod" => (k_here; (with_reducible show wpAny _ _ (call (Value.builtin _) [Value.int _ _, Value.int _ _]) _ _ _); refine divmod_N (by assumption) (by assumption) (by side_arith) ?_; intro _ _ _))
  (k_with "call builtin:len" => (k_here; (with_reducible show wpAny _ _ (call (Value.builtin _) [Value.ref _]) _ _ _); k_dflt (refine' Mine.lenN ?zz_k1 ?zz_k2 ?zz_k3 ?zz_k4 ?_; (case zz_k1 => k_asm); (case zz_k2 => k_mem); (case zz_k3 => with_reducible assumption); (case zz_k4 => ((try simp only [List.length_append, List.length_cons, List.length_nil, List.length_replicate, List.length_map]); (first | lia | omega))); k_whole); intro _ _))
  (k_with "binaryOp Sub int int" => (k_here; with_reducible refine' Mine.subIs ?zz_k1 ?_; (case zz_k1 => assumption)))
  (k_with "binaryOp Add int int" => (k_here; with_reducible refine' Mine.addIs ?zz_k1 ?_; (case zz_k1 => assumption)))
  (k_with "binaryOp Mult int int" => (k_here; with_reducible refine' Mine.mulIs ?zz_k1 ?zz_k2 ?_; (case zz_k1 => assumption); (case zz_k2 => exact Mine.bits64 (by (first | lia | omega)))))
  (k_with "binaryOp RShift int int" => (k_here; with_reducible refine' Mine.shrIs ?zz_k1 ?zz_k2 ?_; (case zz_k1 => assumption); (case zz_k2 => (first | lia | omega))))
  (k_with "binaryOp LShift int int" => (k_here; with_reducible refine' Mine.shlIs ?zz_k1 ?zz_k2 ?zz_k3 ?zz_k4 ?_; (case zz_k1 => assumption); (case zz_k2 => (first | lia | omega)); (case zz_k3 => (first | lia | omega)); (case zz_k4 => (first | lia | omega))))
  (k_with "binaryOp BitXor int int" => (k_here; with_reducible refine' Mine.xorIs ?zz_k1 ?_; (case zz_k1 => assumption)))
  (k_with "exec FunctionDef" => (k_here; kn_here; k_dflt (refine' nestDef_K ?zz_d0 ?zz_k0 ?zz_a0 ?_; (case zz_d0 => exact rfl); (case zz_k0 => exact rfl); (case zz_a0 => exact rfl)); (k_dflt (refine' Mine.nestBoth ?zz_F ?zz_N ?zz_T ?zz_C ?zz_cd ?zz_hs ?zz_ht ?zz_hP ?zz_hc ?zz_cl ?_; (case zz_F => k_asm); (case zz_N => k_asm); (case zz_T => k_asm); (case zz_cd => exact rfl); (case zz_C => kn_code); (case zz_hs => exact rfl); (case zz_ht => assumption); (case zz_hP => (dsimp only [List.dropLast]; k_all)); (case zz_hc => (dsimp only [List.dropLast]; k_all)); (case zz_cl => exact rfl); k_whole); intro _ _ _ _ _ _ _ _ _ _ N' _ _ l1 l2 _ _ _; (dsimp only [List.dropLast, List.append, HAppend.hAppend, Append.append] at N' l1 l2); (simp only [List.forall_mem_cons, List.forall_mem_nil, and_true] at l1 l2); (repeat (obtain ⟨_, l1⟩ := l1)); (repeat (obtain ⟨_, l2⟩ := l2)))))
  (k_with "call builtin:list.append" => (k_here; (with_reducible show wpAny _ _ (call (Value.builtin _) [Value.ref _, _]) _ _ _); k_dflt (refine' Mine.appendL ?zz_k1 ?zz_k2 ?zz_k3 ?zz_k4 ?_; (case zz_k1 => k_asm); (case zz_k2 => k_asm); (case zz_k3 => k_upd); (case zz_k4 => first | (first | lia | omega) | (simp only [List.length_nil, List.length_cons]; (first | lia | omega))); k_whole); intro _ _ _; (try k_sweep)))
  (k_with "call builtin:list.reverse" => (k_here; (with_reducible show wpAny _ _ (call (Value.builtin _) _) _ _ _); (try dsimp only); k_dflt (refine' Mine.reverseL ?zz_k1 ?zz_k2 ?zz_k3 ?zz_k4 ?zz_k5 ?_; (case zz_k1 => k_asm); (case zz_k2 => k_asm); (case zz_k3 => k_upd); (case zz_k4 => with_reducible assumption); (case zz_k5 => (first | lia | omega)); k_whole); intro _ _ _ _; (try k_sweep)))
  (k_with "unaryOp Invert int" => (k_here; with_reducible refine' Mine.invIs ?zz_k1 ?_; (case zz_k1 => assumption)))
  (k_with "call builtin:min" => (k_here; (with_reducible show wpAny _ _ (call (Value.builtin _) [Value.int _ _, Value.int _ _]) _ _ _); k_dflt (refine' Mine.min2 ?zz_k1 ?zz_k2 ?zz_k3 ?_; (case zz_k1 => exact rfl); (case zz_k2 => k_asm); (case zz_k3 => k_asm); k_whole); intro _ _ _ _ _))
  (k_with "call builtin:max" => (k_here; (with_reducible show wpAny _ _ (call (Value.builtin _) [Value.int _ _, Value.int _ _]) _ _ _); k_dflt (refine' Mine.max2 ?zz_k1 ?zz_k2 ?zz_k3 ?_; (case zz_k1 => exact rfl); (case zz_k2 => k_asm); (case zz_k3 => k_asm); k_whole); intro _ _ _ _ _))
  (k_with "binaryOp Div int int" => (k_here; k_dflt (refine' Mine.divFits ?zz_k1 ?zz_k2 ?zz_k3 ?_; (case zz_k1 => exact rfl); (case zz_k2 => first | decide | (first | lia | omega) | assumption); (case zz_k3 => assumption); k_whole)))
  (k_with "kne" => (refine neN ?_; (try dsimp only); first | exact Mine.neA (by assumption) (by k_mem) | exact Mine.neA' (by assumption) (by k_mem) | exact Mine.ltA (by assumption) (by k_mem) | exact Mine.ltA' (by assumption) (by k_mem) | assumption | (apply Ne.symm; assumption)))
  (k_with "subscriptTail Name Slice ref ref" => (k_here; (with_reducible show wpAny _ _ (subscriptTail _ (PySem.Expr.Slice (some _) none (some _) _) (Value.ref _) (Value.ref _)) _ _ _); k_dflt (refine' Mine.stepSl ?zz_F ?zz_N ?zz_l ?zz_p ?zz_q ?zz_k ?zz_o ?zz_i ?zz_n ?_ ?zz_s ?zz_t; (case zz_F => k_asm); (case zz_N => k_asm); (case zz_l => kmk_list); (case zz_p => kmk_part); (case zz_q => kmk_part); (case zz_k => kmk_part); (case zz_o => decide); (case zz_i => assumption); (case zz_n => (first | lia | omega)); (case zz_s => with_unfolding_all rfl); (case zz_t => kmk_pure)); intro _ _ _ _ _ _ _ _ _))
  (k_with "binaryOp Mod int int" => (k_here; (fail_if_success (with_reducible rename Mine.Mark 1 => mk1')); with_reducible refine' Mine.modNat ?zz_k0 ?_; (case zz_k0 => (first | lia | omega)); intro _ _))
  (k_with "binaryOp Mod int int" => (k_here; (with_reducible rename Mine.Mark 1 => mk1'); with_reducible refine' Mine.modIs ?zz_k0 ?zz_k1 ?_; (case zz_k1 => assumption); (case zz_k0 => (first | lia | omega))))
  (k_with "binaryOp Add int int" => (k_here; with_reducible refine' Mine.addOne ?zz_h ?_; (case zz_h => assumption); intro _ _ _))
  (k_with "binaryOp Mult int int" => (k_here; k_dflt (refine' Mine.mulIs ?zz_k1 ?zz_k2 ?_; (case zz_k1 => exact rfl); (case zz_k2 => exact Mine.bits64 (by (first | lia | omega))))))
  (k_with "binaryOp Pow int int" => (k_here; k_dflt (refine' Mine.powIs ?zz_e ?zz_n ?zz_b ?zz_a ?_; (case zz_b => exact (Int.natCast_succ _).symm); (case zz_e => exact rfl); (case zz_n => (first | lia | omega)); (case zz_a => (first | lia | omega)))))
  (k_with "call type:range" => (k_here; (with_reducible show wpAny _ _ (call (Value.type _) [Value.int (Nat.cast _) _]) _ _ _); k_dflt (refine' Mine.rng1 ?zz_k1 ?zz_k2 ?_; (case zz_k1 => k_asm); (case zz_k2 => k_asm); k_whole); intro _ _ _ _ _ _ _ _ _))
  (k_with "call type:list" => (k_here; (with_reducible show wpAny _ _ (call (Value.type _) [Value.ref _]) _ _ _); k_dflt (refine' Mine.listRng1 ?zz_k1 ?zz_k2 ?zz_k3 ?zz_k4 ?zz_k6 ?zz_k5 ?_; (case zz_k1 => exact rfl); (case zz_k2 => k_asm); (case zz_k3 => k_asm); (case zz_k4 => assumption); (case zz_k6 => exact rfl); (case zz_k5 => assumption); k_whole); intro _ _ _ _ _ _ _ _ _))
  (k_with "call ref" => (k_here; (with_reducible show wpAny _ _ (call (Value.ref 103) [Value.int _ _, Value.int _ _]) _ _ _); refine Mine.halt ?_))
  (k_with "call ref" => (k_here; (with_reducible show wpAny _ _ (call (Value.ref 70) [Value.int _ _, Value.int _ _]) _ _ _); refine Mine.halt ?_))
  (k_with "call ref" => (k_here; (with_reducible show wpAny _ _ (call (Value.ref 110) [Value.ref _, Value.ref _]) _ _ _); refine Mine.halt ?_))
  (k_with "call ref" => (k_here; (with_reducible show wpAny _ _ (call (Value.ref 117) [Value.ref _, Value.ref _]) _ _ _); refine Mine.halt ?_))
  (k_with "call ref" => (k_here; (with_reducible show wpAny _ _ (call (Value.ref 89) [Value.int _ _, Value.int _ _]) _ _ _); refine Mine.halt ?_))
  (k_with "call ref" => (k_here; (with_reducible show wpAny _ _ (call (Value.ref 96) [Value.ref _, Value.int _ _]) _ _ _); k_dflt (refine' Mine.useRO (Mine.num_spec _ _ _ _ _ _ _ _ _ ?zz_m0 ?zz_m3) ?zz_cN ?zz_sub ?zz_cB ?zz_cF ?zz_cX ?zz_cT ?zz_cf ?zz_ck ?zz_cdp ?zz_cun ?_; (case zz_m0 => (first | lia | omega)); (case zz_m3 => (first | lia | omega)); (case zz_cN => k_asm); (case zz_sub => repeat' (first | exact List.forall_mem_nil _ | (refine' List.forall_mem_cons.mpr ⟨?_, ?_⟩) | k_mem)); (case zz_cB => k_asm); (case zz_cF => k_asm); (case zz_cX => k_asm); (case zz_cT => k_asm); (case zz_cf => exact rfl); (case zz_ck => exact rfl); (case zz_cdp => ktr_room); (case zz_cun => ktr_units); k_whole); intro _ _ _ _ _))
  (k_with "compareOp NotEq ref ref" => (k_here; (with_reducible show wpAny _ _ (compareOp CmpOp.NotEq (Value.ref _) (Value.ref _)) _ _ _); refine Mine.halt ?_))
  (k_with "eval ListComp" => (k_here; refine Mine.halt ?_))
  (k_with "CompSrc" => (k_here; refine Mine.halt ?_))
  (k_with "subscriptTail Name Name ref int" => (k_here; refine Mine.halt ?_))
  (k_with "subscriptTail Name Subscript ref int" => (k_here; refine Mine.halt ?_))
  (k_with "subscriptTail Subscript" => (k_here; (with_reducible show wpAny _ _ (subscriptTail (PySem.Expr.Subscript _ _ _) (PySem.Expr.Slice _ _ _ _) _ _) _ _ _); refine Mine.halt ?_))
  (k_with "subscriptTail Name Constant ref int" => (k_here; (with_reducible show wpAny _ _ (subscriptTail _ _ (Value.ref _) (Value.int _ _)) _ _ _); k_dflt (refine' Mine.itemL ?zz_N ?zz_m ?zz_a ?zz_b ?zz_x ?_ ?zz_s; (case zz_N => k_asm); (case zz_m => k_mem); (case zz_a => decide); (case zz_b => decide); (case zz_x => exact rfl); (case zz_s => with_unfolding_all rfl); k_whole)))
  (k_with "subscriptTail Name Constant ref int" => (k_here; (fail_if_success (fail_if_success (with_reducible rename Mine.Mark 5 => mk5'))); refine Mine.halt ?_))
  (k_with "compareOp NotEq int int" => (k_here; with_reducible refine' Mine.neSame ?zz_e ?_; (case zz_e => rfl)))
  (k_with "compareOp LtE int int" => (k_here; with_reducible refine' Mine.leNo ?zz_e ?_; (case zz_e => assumption)))
  (k_with "subscriptTail Name Slice ref ref" => (k_here; (fail_if_success (fail_if_success (with_reducible rename Mine.Mark 1 => mk1'))); refine Mine.halt ?_))
  (k_with "storeName" => (k_here; k_dflt (refine' Mine.storeV ?zz_F ?zz_N ?_ ?zz_a ?zz_b; (case zz_F => k_asm); (case zz_N => k_asm); (case zz_a => rfl); (case zz_b => rfl); k_whole; intro _ _ _ _; (try k_sweep); (try dsimp only))))
  (k_with "storeName" => (k_here; (with_reducible show wpAny _ _ (storeName _ _ (Value.int _ _)) _ _ _); k_dflt (refine' Mine.storeI ?zz_F ?zz_N ?_ ?zz_a ?zz_b; (case zz_F => k_asm); (case zz_N => k_asm); (case zz_a => rfl); (case zz_b => rfl); k_whole; intro _ _ _ _ _; (try k_sweep); (try dsimp only))))
  (k_with "execs cons" => (k_here; k_fold))
  (k_with "eval ListComp" => (k_here; k_fold))
  trivial
theorem PySem.Challenge.cw_pg0238_02_holds : PySem.Challenge.rw_pg0238_02.Holds :=
  Mine.hd (by
  k_go0
  (all_goals try k_fold)
  rename (∀ p : Addr × Obj, p ∈ _ → p.1 < _) => l0
  have q1 : (51 : Nat) < _ := l0 _ (.head _)
  have q2 : (44 : Nat) < _ := l0 _ (.tail _ (.head _))
  repeat' (first | (k_unfold; (try dsimp only)) | walk1 | (dsimp only; walk1))
  refine Mine.goOn ?_
  rename_i M hM1 hM3 _ _ _ _ _ _ D1 ws1 ms1 _ lD1 _ _ _ _ _ p hp D2 ws2 ms2 _ lD2 _ _ _ _ _ q hq lm _ _ _ _ lw _ lW _ _ F0 N0
  obtain ⟨n, hn, eN⟩ : ∃ n : Nat, n = 3 * M * M + 3 * M + 1 ∧ 3 * (M : Int) * (M : Int) + 3 * (M : Int) + 1 = (n : Int) := ⟨_, rfl, by push_cast; rfl⟩
  obtain ⟨w0, hw0, ew0⟩ : ∃ w0 : Int, (3 * (M : Int) + 1 ≤ w0 ∧ w0 ≤ 3 * (M : Int) + 7) ∧ 3 * (M : Int) + 1 + (p : Int) = w0 := ⟨_, ⟨by (first | lia | omega), by (first | lia | omega)⟩, rfl⟩
  obtain ⟨w1, hw1, ew1⟩ : ∃ w1 : Int, (3 * (M : Int) + 1 ≤ w1 ∧ w1 ≤ 3 * (M : Int) + 7) ∧ 3 * (M : Int) + 1 + (q : Int) = w1 := ⟨_, ⟨by (first | lia | omega), by (first | lia | omega)⟩, rfl⟩
  rw [ew0, ew1] at N0
  obtain ⟨ta, tb, N0⟩ := Mine.tok2 N0
  rw [eN] at F0 ⊢
  clear ew0 ew1
  k_dflt (refine' Mine.useRowsQ (M := M) (R := [(lw, _)]) (qs := [(44, _), (D2, _), (51, _), (D1, _)]) rfl hM1 hM3 hn ⟨_, _, _, _, _, _, rfl, .inl rfl, .inl rfl, ?d1, ?d2, ?d3⟩ ?cN ?sub ?off ?cB ?cF ?cX ?cT ?cf ?ck ?cdp ?cun ?_; (case cN => k_asm); (case sub => repeat' (first | exact List.forall_mem_nil _ | (refine' List.forall_mem_cons.mpr ⟨?_, ?_⟩) | k_mem)); (case cB => k_asm); (case cF => k_asm); (case cX => k_asm); (case cT => k_asm); (case cf => exact rfl); (case ck => exact rfl); (case cdp => first | exact Mine.rm2 (by assumption) (by exact rfl) | exact Mine.rm0 (by assumption) | exact Mine.rm3 (by assumption) (by omega) | ktr_room); (case cun => first | exact Mine.rm2 (by assumption) (by exact rfl) | exact Mine.rm0 (by assumption) | exact Mine.rm3 (by assumption) (by omega) | ktr_units); k_whole)
  case d1 => k_ne
  case d2 => k_ne
  case d3 => k_ne
  case off => exact Mine.Off.new (fun _ h => nomatch h) lW (by repeat' (first | exact List.forall_mem_nil _ | (refine' List.forall_mem_cons.mpr ⟨?_, ?_⟩) | k_mem))
  intro D ss e qs h' tk' F' N' hss Hq off
  dsimp only [List.cons_append, List.nil_append] at N' off ⊢
  have hln : ss.length = n := by rw [hss.1, hn]
  have hn40 : n ≤ 1000 := by rw [hn]; rcases (by (first | lia | omega) : M = 1 ∨ M = 2 ∨ M = 3) with rfl | rfl | rfl <;> decide
  have hn0 : 0 < n := by (first | lia | omega)
  have hn14 : n < 2 ^ 14 := by (first | lia | omega)
  repeat' (first | (k_unfold; (try dsimp only)) | walk1 | (dsimp only; walk1))
  refine Mine.goOn ?_
  k_dflt (refine PyProof.Rows.LCg.ListComp_U (F₀ := by k_asm) (by with_unfolding_all rfl) (by decide) (by rfl) (by decide) (by rfl) ?_)
  repeat' (first | (k_unfold; (try dsimp only)) | walk1 | (dsimp only; walk1))
  refine Mine.goOn ?_
  k_dflt (refine PyProof.Rows.LCg.CompSrc.ledger (k := e) (its := (ss.map fun q => Value.ref q.a).toArray) (by rfl) (by k_asm) (by k_asm) (by k_mem) (by unfold sizeLine; simp; (first | lia | omega)) ?_)
  intro g'
  refine Mine.compMap (ss.map fun q => Value.ref q.a).toArray.size (fun i => (i : Int)) ?hS ?fin ?turn _ 0 [] (Nat.zero_add _) .nil
  case hS => exact .inr ⟨_, .head _, rfl, _, rfl⟩
  case turn =>
    intro i v I oI' C oC D' ys m₂ h tk E' R hi hv hC hx F1 N1 off1 ne hR
    obtain ⟨r, hr1, rfl⟩ := Mine.refAt hv
    obtain ⟨z, _, hk, t1, _, _, _, _, _, e1, _⟩ := hss.2 i r hr1
    have mk5 : Mine.Mark 5 := trivial
    repeat' (first | (k_unfold; (try dsimp only)) | walk1 | (dsimp only; walk1))
    refine Mine.goOn ?_
    k_dflt (refine' Mine.itemL (vs := r.o) (e := 0) (v := .int (i : Int) t1) N1 (.tail _ (.tail _ (.tail _ (.tail _ (.tail _ (List.mem_append_left _ (Mine.rowIn hr1))))))) (by decide) (by decide) ?hx ?_; (case hx => (rw [e1, hk]; rfl)); k_whole)
    exact ⟨_, _, _, rfl, F1, N1, off1, .inr ⟨_, .head _, rfl, _, rfl⟩, hR _⟩
  case fin =>
    intro ys hy D' h tk F1 N1 o1
    rw [show (ss.map fun q => Value.ref q.a).toArray.size = n from by rw [← hln]; simp] at hy
    try dsimp only
    repeat' (first | (k_unfold; (try dsimp only)) | walk1 | (dsimp only; walk1))
    refine Mine.goOn ?_
    k_dflt (refine' Mine.neInts ?zN ?za ?zb ?zi ?zj ?ze ?zu ?_; (case zN => k_asm); (case za => k_mem); (case zb => k_mem); (case zi => exact hy); (case zj => assumption); (case ze => exact rfl); (case zu => exact Nat.le_of_ble_eq_true rfl); k_whole)
    refine Mine.l2K hM1 hM3 hn hw0.1 hw0.2 hw1.1 hw1.2 hss fun j r g pl u X Y s1 s2 s3 s4 s5 s6 hr hj hx1 hx2 o1 o2 hg hpl a1 a2 b1 b2 hx3 hx4 hx5 hway hturn => ?_
    have ro := Mine.rowIn hr
    have rm := Mine.rowIn2 hr
    rw [o1] at ro
    rw [o2] at rm
    repeat' (first | (k_unfold; (try dsimp only)) | walk1 | (dsimp only; walk1))
    refine Mine.goOn ?_
    k_dflt (refine' Mine.useIdmQ (b := n) (qs := qs) (R := (D, _) :: (lw, _) :: ss.flatMap Mine.rowObjs) rfl ?ha hn0 hn14 rfl hx2 Hq ?cN ?sub off ?cB ?cF ?cX ?cT ?cf ?ck ?cdp ?cun ?_; (case ha => exact Nat.lt_of_le_of_lt hx1 (by decide)); (case cN => k_asm); (case sub => exact fun q hq => .tail _ (.tail _ hq)); (case cB => k_asm); (case cF => k_asm); (case cX => k_asm); (case cT => k_asm); (case cf => exact rfl); (case ck => exact rfl); (case cdp => first | exact Mine.rm2 (by assumption) (by exact rfl) | exact Mine.rm0 (by assumption) | exact Mine.rm3 (by assumption) (by omega) | ktr_room); (case cun => first | exact Mine.rm2 (by assumption) (by exact rfl) | exact Mine.rm0 (by assumption) | exact Mine.rm3 (by assumption) (by omega) | ktr_units); k_whole)
    intro Dt t1 t2 qs2 h' tk' F' N' Hq2 off2
    try dsimp only
    repeat' (first | (k_unfold; (try dsimp only)) | walk1 | (dsimp only; walk1))
    refine Mine.goOn ?_
    with_reducible rename News _ _ _ _ => NN
    have N3 := Mine.newsSub (n' := (r.a, _) :: (r.m, _) :: (D, _) :: (lw, _) :: (ss.flatMap Mine.rowObjs ++ qs2)) NN (List.forall_mem_cons.mpr ⟨.tail _ (.tail _ (.tail _ (List.mem_append_left _ ro))), List.forall_mem_cons.mpr ⟨.tail _ (.tail _ (.tail _ (List.mem_append_left _ rm))), fun q hq => .tail _ hq⟩⟩)
    clear NN
    k_dflt (refine' Mine.itemL (vs := ss.map fun q => Value.ref q.a) (v := .ref r.a) ?cN ?cM (Int.natCast_nonneg _) (by (first | lia | omega)) ?hx ?_; (case cN => k_asm); (case cM => k_mem); (case hx => (rw [Int.toNat_natCast, List.getElem?_map, hr]; rfl)); k_whole)
    repeat' (first | (k_unfold; (try dsimp only)) | walk1 | (dsimp only; walk1))
    refine Mine.goOn ?_
    k_dflt (refine' Mine.sliceT (zs := [.int (g : Int) s2, .int (pl : Int) s3, .int u s4, .ref r.m]) ?zF ?zN ?zm ?zp ?zq ?ze ?zz ?_ ?zs; (case zF => k_asm); (case zN => k_asm); (case zm => k_mem); (case zp => kmk_part); (case zq => kmk_part); (case ze => exact rfl); (case zz => exact Nat.le_of_ble_eq_true rfl); (case zs => with_unfolding_all rfl); k_whole)
    intro Ds h' F' N' lDs
    try dsimp only
    repeat' (first | (k_unfold; (try dsimp only)) | walk1 | (dsimp only; walk1))
    refine Mine.goOn ?_
    rename_i lm' _ lM _ _ _ _ _ _ _ _ NM
    obtain ⟨tc, td, NM⟩ := Mine.tok2 NM
    k_dflt (refine' Mine.useIdmQ (b := n) (qs := qs2) (R := (lm', _) :: (r.a, _) :: (r.m, _) :: (D, _) :: (lw, _) :: ss.flatMap Mine.rowObjs) rfl ?ha hn0 hn14 hx4 hx5 Hq2 ?cN ?sub ?off ?cB ?cF ?cX ?cT ?cf ?ck ?cdp ?cun ?_; (case ha => exact Nat.lt_of_le_of_lt hx3 (by decide)); (case cN => k_asm); (case sub => repeat' (first | (refine' List.forall_mem_cons.mpr ⟨?_, ?_⟩) | k_mem | (intro q hq; repeat' (first | exact hq | refine List.Mem.tail _ ?_)))); (case cB => k_asm); (case cF => k_asm); (case cX => k_asm); (case cT => k_asm); (case cf => exact rfl); (case ck => exact rfl); (case cdp => first | exact Mine.rm2 (by assumption) (by exact rfl) | exact Mine.rm0 (by assumption) | exact Mine.rm3 (by assumption) (by omega) | ktr_room); (case cun => first | exact Mine.rm2 (by assumption) (by exact rfl) | exact Mine.rm0 (by assumption) | exact Mine.rm3 (by assumption) (by omega) | ktr_units); k_whole)
    case off => exact Mine.Off.new (Mine.Off.sub off2 (List.forall_mem_cons.mpr ⟨.tail _ (.tail _ ro), List.forall_mem_cons.mpr ⟨.tail _ (.tail _ rm), fun q hq => hq⟩⟩)) lM (fun q hq => by simp only [List.mem_cons, List.mem_append]; simp [hq])
    intro Dt2 t1' t2' qs3 h' tk' F' N' Hq3 off3
    dsimp only [List.cons_append, List.nil_append] at N' ⊢
    repeat' (first | (k_unfold; (try dsimp only)) | walk1 | (dsimp only; walk1))
    refine Mine.goOn ?_
    k_dflt (refine ne_dataH (by ke_read) (by ke_read) (by ke_shaped) (by ke_shaped) (by ke_room) ?_)
    ke_norm
    with_reducible rename News _ _ _ _ => NN
    have N4 := Mine.newsSub (n' := (lm', _) :: (D, _) :: (lw, _) :: (ss.flatMap Mine.rowObjs ++ qs3)) NN (List.forall_mem_cons.mpr ⟨.tail _ (.tail _ (.head _)), fun q hq => .tail _ (.tail _ (.tail _ (.tail _ (.tail _ hq))))⟩)
    clear NN
    repeat' (first | (k_unfold; (try dsimp only)) | walk1 | (dsimp only; walk1))
    refine Mine.goOn ?_
    k_dflt (refine' Mine.useFarI (by (first | lia | omega)) (by (first | lia | omega)) (by (first | lia | omega)) (by (first | lia | omega)) a1 a2 b1 b2 hway ?cN ?sub ?cB ?cF ?cX ?cT ?cf ?ck ?cdp ?cun ?_; (case cN => k_asm); (case sub => repeat' (first | exact List.forall_mem_nil _ | (refine' List.forall_mem_cons.mpr ⟨?_, ?_⟩) | k_mem)); (case cB => k_asm); (case cF => k_asm); (case cX => k_asm); (case cT => k_asm); (case cf => exact rfl); (case ck => exact rfl); (case cdp => first | exact Mine.rm2 (by assumption) (by exact rfl) | exact Mine.rm0 (by assumption) | exact Mine.rm3 (by assumption) (by omega) | ktr_room); (case cun => first | exact Mine.rm2 (by assumption) (by exact rfl) | exact Mine.rm0 (by assumption) | exact Mine.rm3 (by assumption) (by omega) | ktr_units); k_whole)
    intro tf h' tk' F' N'
    try dsimp only
    repeat' (first | (k_unfold; (try dsimp only)) | walk1 | (dsimp only; walk1))
    refine Mine.goOn ?_
    with_reducible rename Fr _ _ _ _ => FF
    have rg6 := (by assumption : IsRange _ _ 0 6 1 _ _ _)
    obtain ⟨mm, em, Fm⟩ := Mine.frK FF
    obtain ⟨z1, z2, z3, z4, z5, z6, hks⟩ : ∃ z1 z2 z3 z4 z5 z6 : Tok, ∀ q ∈ [(Str.ofString "radius", Value.int (M : Int) z1), (Str.ofString "divisor", Value.int (n : Int) z2), (Str.ofString "word", Value.ref lw), (Str.ofString "rows", Value.ref D), (Str.ofString "number", Value.int (w0 + (3 * (M : Int) + 2) * w1) z3), (Str.ofString "ring", Value.int (g : Int) z4), (Str.ofString "place", Value.int (pl : Int) z5), (Str.ofString "mended", Value.ref lm'), (Str.ofString "wide", Value.int (2 * (M : Int) + 1) z6)], mm q.1 = some q.2 := by
      rw [em]
      exact ⟨_, _, _, _, _, _, by repeat' (first | exact List.forall_mem_nil _ | (refine' List.forall_mem_cons.mpr ⟨?_, ?_⟩) | exact rfl)⟩
    k_dflt (refine' Mine.loopRF (σ := List (Addr × Obj)) (n := 6) (fun c => (lm', PySem.W.listOf (List.toArray [Value.int (w0 - X) tc, Value.int (w1 - Y) td]) 0) :: (D, PySem.W.listOf (ss.map fun q => Value.ref q.a).toArray e) :: (lw, PySem.W.listOf (List.toArray [Value.int w0 ta, Value.int w1 tb]) 0) :: (ss.flatMap Mine.rowObjs ++ c)) (fun c => [(Str.ofString "radius", Value.int (M : Int) z1), (Str.ofString "divisor", Value.int (n : Int) z2), (Str.ofString "word", Value.ref lw), (Str.ofString "rows", Value.ref D), (Str.ofString "number", Value.int (w0 + (3 * (M : Int) + 2) * w1) z3), (Str.ofString "ring", Value.int (g : Int) z4), (Str.ofString "place", Value.int (pl : Int) z5), (Str.ofString "mended", Value.ref lm'), (Str.ofString "wide", Value.int (2 * (M : Int) + 1) z6)]) (fun i c => Mine.Qd c ∧ Mine.Off ((lm', PySem.W.listOf (List.toArray [Value.int (w0 - X) tc, Value.int (w1 - Y) td]) 0) :: (D, PySem.W.listOf (ss.map fun q => Value.ref q.a).toArray e) :: (lw, PySem.W.listOf (List.toArray [Value.int w0 ta, Value.int w1 tb]) 0) :: ss.flatMap Mine.rowObjs) c) qs3 ?yh ?yr ?yn Fm ?yN hks ⟨Hq3, Mine.Off.sub off3 (List.forall_mem_cons.mpr ⟨.head _, fun q hq => .tail _ (.tail _ (.tail _ hq))⟩)⟩ ?yt ?yd; (case yh => exact rfl); (case yr => exact rg6); (case yn => decide); (case yN => k_asm))
    case yt =>
      clear em Fm hks mm
      intro i ti c u h tk I oI hi hP hI F1 N1
      obtain ⟨Hq, off⟩ := hP
      obtain ⟨mv, c0, c1, d0, d1, fm, nb, sp, xb, j', r', u', y1, y2, y3, y4, hr', hx', o'⟩ := hturn i hi
      have hj' : j' < n := by rw [← hln]; exact (List.getElem?_eq_some_iff.mp hr').1
      have offI := Mine.Off.one (o := oI) (fun r hr => hI r (by simp [hr])) off
      have imod := Mine.modTurn (pl := pl) (i := i) (g := g)
      have N2 := Mine.newsSub (n' := (I, oI) :: (lm', PySem.W.listOf (List.toArray [Value.int (w0 - X) tc, Value.int (w1 - Y) td]) 0) :: (D, PySem.W.listOf (ss.map fun q => Value.ref q.a).toArray e) :: (lw, PySem.W.listOf (List.toArray [Value.int w0 ta, Value.int w1 tb]) 0) :: (ss.flatMap Mine.rowObjs ++ c)) N1 (fun q hq => by
        simp only [List.mem_cons, List.mem_append, List.not_mem_nil, or_false] at hq ⊢
        rcases hq with h | h | h | h | h | h <;> simp [h])
      clear N1
      have ro' := Mine.rowIn hr'
      rw [o'] at ro'
      try dsimp only
      repeat' (first | (k_unfold; (try dsimp only)) | walk1 | (dsimp only; walk1))
      refine Mine.goOn ?_
      k_dflt (refine' Mine.useMoveQ mv rfl rfl ?cN ?cB ?cF ?cX ?cT ?cf ?ck ?cdp ?cun ?_; (case cN => k_asm); (case cB => k_asm); (case cF => k_asm); (case cX => k_asm); (case cT => k_asm); (case cf => exact rfl); (case ck => exact rfl); (case cdp => first | exact Mine.rm2 (by assumption) (by exact rfl) | exact Mine.rm0 (by assumption) | exact Mine.rm3 (by assumption) (by omega) | ktr_room); (case cun => first | exact Mine.rm2 (by assumption) (by exact rfl) | exact Mine.rm0 (by assumption) | exact Mine.rm3 (by assumption) (by omega) | ktr_units); k_whole)
      intro Dm t1 t2 h' tk' F' N' lDm
      try dsimp only
      repeat' (first | (k_unfold; (try dsimp only)) | walk1 | (dsimp only; walk1))
      refine Mine.goOn ?_
      rename_i lo _ lO _ _ _ NO
      obtain ⟨te, tf', NO⟩ := Mine.tok2 NO
      k_dflt (refine' Mine.useSprI sp ?cN ?sub ?cB ?cF ?cX ?cT ?cf ?ck ?cdp ?cun ?_; (case cN => k_asm); (case sub => repeat' (first | exact List.forall_mem_nil _ | (refine' List.forall_mem_cons.mpr ⟨?_, ?_⟩) | k_mem)); (case cB => k_asm); (case cF => k_asm); (case cX => k_asm); (case cT => k_asm); (case cf => exact rfl); (case ck => exact rfl); (case cdp => first | exact Mine.rm2 (by assumption) (by exact rfl) | exact Mine.rm0 (by assumption) | exact Mine.rm3 (by assumption) (by omega) | ktr_room); (case cun => first | exact Mine.rm2 (by assumption) (by exact rfl) | exact Mine.rm0 (by assumption) | exact Mine.rm3 (by assumption) (by omega) | ktr_units); k_whole)
      intro v ts h' tk' hv hMv F' N'
      try dsimp only
      repeat' (first | (k_unfold; (try dsimp only)) | walk1 | (dsimp only; walk1))
      refine Mine.goOn ?_
      k_dflt (refine' Mine.useIdmQ (b := n) (qs := c) (R := (lo, _) :: (I, oI) :: (lm', _) :: (D, _) :: (lw, _) :: ss.flatMap Mine.rowObjs) rfl nb hn0 hn14 rfl fm Hq ?cN ?sub (Mine.Off.new offI lO ?os) ?cB ?cF ?cX ?cT ?cf ?ck ?cdp ?cun ?_; (case cN => k_asm); (case sub => repeat' (first | (refine' List.forall_mem_cons.mpr ⟨?_, ?_⟩) | k_mem | (intro q hq; repeat' (first | exact hq | refine List.Mem.tail _ ?_)))); (case cB => k_asm); (case cF => k_asm); (case cX => k_asm); (case cT => k_asm); (case cf => exact rfl); (case ck => exact rfl); (case cdp => first | exact Mine.rm2 (by assumption) (by exact rfl) | exact Mine.rm0 (by assumption) | exact Mine.rm3 (by assumption) (by omega) | ktr_room); (case cun => first | exact Mine.rm2 (by assumption) (by exact rfl) | exact Mine.rm0 (by assumption) | exact Mine.rm3 (by assumption) (by omega) | ktr_units); (case os => (intro q hq; repeat' (first | exact List.mem_append_right _ hq | refine List.Mem.tail _ ?_))); k_whole)
      intro Dt t1 t2 c' h' tk' F' N' Hq' off'
      dsimp only [List.cons_append, List.nil_append] at N' ⊢
      repeat' (first | (k_unfold; (try dsimp only)) | walk1 | (dsimp only; walk1))
      refine Mine.goOn ?_
      k_dflt (refine' Mine.useFarI (by (first | lia | omega)) (by (first | lia | omega)) (by (first | lia | omega)) (by (first | lia | omega)) c0 c1 d0 d1 hv ?cN ?sub ?cB ?cF ?cX ?cT ?cf ?ck ?cdp ?cun ?_; (case cN => k_asm); (case sub => repeat' (first | exact List.forall_mem_nil _ | (refine' List.forall_mem_cons.mpr ⟨?_, ?_⟩) | k_mem)); (case cB => k_asm); (case cF => k_asm); (case cX => k_asm); (case cT => k_asm); (case cf => exact rfl); (case ck => exact rfl); (case cdp => first | exact Mine.rm2 (by assumption) (by exact rfl) | exact Mine.rm0 (by assumption) | exact Mine.rm3 (by assumption) (by omega) | ktr_room); (case cun => first | exact Mine.rm2 (by assumption) (by exact rfl) | exact Mine.rm0 (by assumption) | exact Mine.rm3 (by assumption) (by omega) | ktr_units); k_whole)
      intro tf h' tk' F' N'
      try dsimp only
      repeat' (first | (k_unfold; (try dsimp only)) | walk1 | (dsimp only; walk1))
      refine Mine.goOn ?_
      k_dflt (refine' Mine.useIdmQ (b := n) (qs := c') (R := (lo, _) :: (I, oI) :: (lm', _) :: (D, _) :: (lw, _) :: ss.flatMap Mine.rowObjs) rfl xb hn0 hn14 rfl hx' Hq' ?cN ?sub off' ?cB ?cF ?cX ?cT ?cf ?ck ?cdp ?cun ?_; (case cN => k_asm); (case sub => repeat' (first | (refine' List.forall_mem_cons.mpr ⟨?_, ?_⟩) | k_mem | (intro q hq; repeat' (first | exact hq | refine List.Mem.tail _ ?_)))); (case cB => k_asm); (case cF => k_asm); (case cX => k_asm); (case cT => k_asm); (case cf => exact rfl); (case ck => exact rfl); (case cdp => first | exact Mine.rm2 (by assumption) (by exact rfl) | exact Mine.rm0 (by assumption) | exact Mine.rm3 (by assumption) (by omega) | ktr_room); (case cun => first | exact Mine.rm2 (by assumption) (by exact rfl) | exact Mine.rm0 (by assumption) | exact Mine.rm3 (by assumption) (by omega) | ktr_units); k_whole)
      intro Dt3 t1 t2 c'' h' tk' F' N' Hq'' off''
      dsimp only [List.cons_append, List.nil_append] at N' ⊢
      repeat' (first | (k_unfold; (try dsimp only)) | walk1 | (dsimp only; walk1))
      refine Mine.goOn ?_
      with_reducible rename News _ _ _ _ => NN
      have N5 := Mine.newsSub (n' := (r'.a, _) :: (I, oI) :: (lm', _) :: (D, _) :: (lw, _) :: (ss.flatMap Mine.rowObjs ++ c'')) NN (List.forall_mem_cons.mpr ⟨.tail _ (.tail _ (.tail _ (.tail _ (.tail _ (.tail _ (List.mem_append_left _ ro')))))), fun q hq => .tail _ (.tail _ hq)⟩)
      clear NN
      k_dflt (refine' Mine.itemL (vs := ss.map fun q => Value.ref q.a) (v := .ref r'.a) ?cN ?cM (Int.natCast_nonneg _) (by (first | lia | omega)) ?hx ?_; (case cN => k_asm); (case cM => k_mem); (case hx => (rw [Int.toNat_natCast, List.getElem?_map, hr']; rfl)); k_whole)
      have mk1 : Mine.Mark 1 := trivial
      repeat' (first | (k_unfold; (try dsimp only)) | walk1 | (dsimp only; walk1))
      refine Mine.goOn ?_
      k_dflt (refine' Mine.sliceT (zs := [Value.int (g : Int) y2, Value.int (((pl + (i + 1) * g) % max 1 (6 * g) : Nat) : Int) y3]) ?zF ?zN ?zm ?zp ?zq ?ze ?zz ?_ ?zs; (case zF => k_asm); (case zN => k_asm); (case zm => k_mem); (case zp => kmk_part); (case zq => kmk_part); (case ze => exact rfl); (case zz => exact Nat.le_of_ble_eq_true rfl); (case zs => with_unfolding_all rfl); k_whole)
      intro Ds2 h' F' N' lDs2
      try dsimp only
      repeat' (first | (k_unfold; (try dsimp only)) | walk1 | (dsimp only; walk1))
      refine Mine.goOn ?_
      k_dflt (refine' Mine.neInts ?zN ?za ?zb ?zi ?zj ?ze ?zu ?_; (case zN => k_asm); (case za => k_mem); (case zb => k_mem); (case zi => exact .cons _ _ (.cons _ _ .nil)); (case zj => exact .cons _ _ (.cons _ _ .nil)); (case ze => exact rfl); (case zu => exact Nat.le_of_ble_eq_true rfl); k_whole)
      repeat' (first | (k_unfold; (try dsimp only)) | walk1 | (dsimp only; walk1))
      k_dflt (refine' Mine.fEnd c'' ?eF ?eN ?ek ?en ?ei ?eo ?ep; (case eF => k_asm); (case eN => k_asm); (case ek => repeat' (first | exact List.forall_mem_nil _ | (refine' List.forall_mem_cons.mpr ⟨?_, ?_⟩) | exact rfl)); (case en => repeat' (first | (refine' List.forall_mem_cons.mpr ⟨?_, ?_⟩) | k_mem | (intro q hq; repeat' (first | exact hq | refine List.Mem.tail _ ?_)))); (case ei => k_mem); (case ep => exact ⟨Hq'', Mine.Off.sub off'' (fun q hq => .tail _ (.tail _ hq))⟩))
      intro q hq
      simp only [List.mem_cons, List.mem_append] at hq
      rcases hq with h | h | h | h | h
      · exact hI q (by simp [h])
      · exact hI q (by simp [h])
      · exact hI q (by simp [h])
      · exact hI q (by simp [h])
      · exact (off'' (I, oI) (.tail _ (.head _)) q h).symm
    case yd =>
      intro c u h tk hP F1 N1
      obtain ⟨⟨p44, p51, c44, c51, o44, o51, rfl, _⟩, _⟩ := hP
      have N2 := Mine.newsSub (n' := [(51, PySem.W.tabObj p51), (44, PySem.W.tabObj p44)]) N1 (List.forall_mem_cons.mpr ⟨by simp, List.forall_mem_cons.mpr ⟨by simp, List.forall_mem_nil _⟩⟩)
      clear N1
      try dsimp only
      k_steps)
