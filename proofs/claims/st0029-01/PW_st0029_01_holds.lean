import PyProof.Rows.All
import Wide.All
import OpenK.AllK
import Wide.FinOn
import PySem.Challenge.RW_st0029_01
open PySem PySem.W PyProof.Rows
set_option Elab.async false
set_option compiler.extract_closed false
set_option maxRecDepth 100000
namespace Mine
section
-- the written heap alone (hd.heap_1); the head itself runs in top_holds
local macro_rules | `(tactic| o_head $_) => `(tactic| assumption)
theorem hd (h : (OpenLaw.row PySem.Challenge.rw_st0029_01).Holds) : (OpenLaw.row PySem.Challenge.rw_st0029_01).Holds := by
  k_head
end
-- text Base
section
open PySem PySem.W PyProof.Rows PySem.Calls PySem.Spec

section
variable {prog : Program} {w : World} {A₀ A : Around} {s : Shared} {base h₀ : Heap} {outer : List Env} {L : Addr} {m mg mb : Str → Option Value} {env : Env} {news : List (Addr × Obj)} {K : Frag} {p : Program} {loose : List Str} {mean : ExcName → Option Value}
  {R : Result → Shared → Prop} {name qual : Str} {params : Arguments} {body : List Stmt} {scope : Scope} {dV kV doc pm cdv ct oc : Value} {an od : Option Addr} {osl : Array (Option Value)} {f : Addr} {args : Args} {binds : List (Str × Value)}

/-- what a def leaves: its value's end -/
noncomputable def Ret (R : Result → Shared → Prop) (v : Value) (s' : Shared) : Prop := R (.ok (.ret v)) s'

/-- a def entered: the ledger's objects that it is handed lie ahead of its own, all else stands below -/
theorem own_def (B : Below A₀ base outer h₀) (F : Fr h₀ L s.heap m) (X₀ : K.In h₀) (N : News h₀ L s.heap news) (T : Top p loose mean mg mb h₀) (hA : A.frames = some (env :: outer)) (hf : env.frame = some L) (hke : env.scope.kind = .function)
    (ho : K.lookup f = some ⟨oc, od, .func (fnOf name qual params body scope dV kV doc pm an cdv ct), osl⟩) (hcd : codeIn K cdv qual = true) (hroom : A.depth < recursionLimit)
    (hbind : BindsTo s (fnOf name qual params body scope dV kV doc pm an cdv ct) args binds) (hloc : ∀ y ∈ binds, scope.names.lookup y.1 = some .local)
    (h : ∀ g h₁, g = hideAll s.heap (news.map (·.1)) → Fr g s.heap.objs.size h₁ (fun y => binds.reverse.lookup y) → News g s.heap.objs.size h₁ news → Below A base (env :: outer) g → K.In g → Top p loose mean mg mb g → (∀ p ∈ news, p.1 < s.heap.objs.size) →
      wpAny (model prog w) (A.deeper (envOf qual scope s.heap.objs.size f cdv)) (execs body (envOf qual scope s.heap.objs.size f cdv))
        (fun fl s' => Ret R (match fl with | .ret v => v | _ => .none) s')
        (fun e s' => wpAny (model prog w) (A.deeper (envOf qual scope s.heap.objs.size f cdv)) (leaving (envOf qual scope s.heap.objs.size f cdv) e) (fun _ s'' => R (.error e) s'') (fun e' s'' => R (.error e') s'') s')
        { s with heap := h₁, toks := s.toks + binds.length })
    (hco : scope.isCoroutine = false) (hgen : scope.isGenerator = false) (hk : scope.kind = .function)
    (hcell : ∀ x ∈ scope.names, x.2 ≠ .cell) : codeAny (model prog w) A (.call (.ref f) args) R s := by
  obtain ⟨FG, BG, st, lv⟩ := groundX (R := R) B F N hA hf hke
  refine codeAny_call_def (fd := fnOf name qual params body scope dV kV doc pm an cdv ct) (body := body) (binds := binds) hroom ((X₀.keeps F.keep) _ _ ho) rfl (T.nolimit.keeps F.keep) (codeRec_of (X₀.keeps F.keep) hcd) rfl hbind hcell hloc (fun h₁ hns hk₁ => ?_) hco hgen hk
  exact h _ h₁ rfl ⟨hns, fun b o e => hk₁ b o (of_hideAll _ e), Nat.le_of_eq (hideAll_size _ _)⟩
    (fun p hp => ⟨hk₁ _ _ (N p hp).1, Nat.ne_of_lt (Heap.lt_size (N p hp).1), hideAll_none _ (List.mem_map_of_mem hp)⟩) BG (X₀.keeps st) (T.keeps st) (fun p hp => Heap.lt_size (N p hp).1)

theorem own_def0 (B : Below A₀ base outer h₀) (F : Fr h₀ L s.heap m) (X₀ : K.In h₀) (T : Top p loose mean mg mb h₀) (hA : A.frames = some (env :: outer)) (hf : env.frame = some L) (hke : env.scope.kind = .function)
    (ho : K.lookup f = some ⟨oc, od, .func (fnOf name qual params body scope dV kV doc pm an cdv ct), osl⟩) (hcd : codeIn K cdv qual = true) (hroom : A.depth < recursionLimit)
    (hbind : BindsTo s (fnOf name qual params body scope dV kV doc pm an cdv ct) args binds) (hloc : ∀ y ∈ binds, scope.names.lookup y.1 = some .local)
    (h : ∀ h₁, Fr s.heap s.heap.objs.size h₁ (fun y => binds.reverse.lookup y) → News s.heap s.heap.objs.size h₁ [] → Below A base (env :: outer) s.heap → K.In s.heap → Top p loose mean mg mb s.heap →
      wpAny (model prog w) (A.deeper (envOf qual scope s.heap.objs.size f cdv)) (execs body (envOf qual scope s.heap.objs.size f cdv))
        (fun fl s' => Ret R (match fl with | .ret v => v | _ => .none) s')
        (fun e s' => wpAny (model prog w) (A.deeper (envOf qual scope s.heap.objs.size f cdv)) (leaving (envOf qual scope s.heap.objs.size f cdv) e) (fun _ s'' => R (.error e) s'') (fun e' s'' => R (.error e') s'') s')
        { s with heap := h₁, toks := s.toks + binds.length })
    (hco : scope.isCoroutine = false) (hgen : scope.isGenerator = false) (hk : scope.kind = .function)
    (hcell : ∀ x ∈ scope.names, x.2 ≠ .cell) : codeAny (model prog w) A (.call (.ref f) args) R s :=
  own_def B F X₀ News.nil T hA hf hke ho hcd hroom hbind hloc (fun g h₁ e F' N' B' X' T' _ => by subst e; exact h h₁ F' N' B' X' T') hco hgen hk hcell

/-- behind a def that kept all: the frame and the ledger, with what is new -/
theorem behind {h' : Heap} (F : Fr h₀ L s.heap m) (N : News h₀ L s.heap news) (st : s.heap.StaysIn h') : Fr h₀ L h' m ∧ News h₀ L h' news := by
  obtain ⟨oL, es, ep, hL, hLd, hLk, hLf⟩ := F.ns
  exact ⟨⟨⟨oL, es, ep, st _ _ hL, hLd, hLk, hLf⟩, fun b o e => st b o (F.keep b o e), F.above⟩, fun p hp => ⟨st _ _ (N p hp).1, (N p hp).2⟩⟩

theorem behind1 {h' : Heap} {l : Addr} {o : Obj} (F : Fr h₀ L s.heap m) (N : News h₀ L s.heap news) (st : s.heap.StaysIn h') (hl : h'.get? l = some o) (hn : s.heap.get? l = none) :
    Fr h₀ L h' m ∧ News h₀ L h' ((l, o) :: news) ∧ GnNe l news := by
  obtain ⟨F', N'⟩ := behind F N st
  refine ⟨F', fun p hp => ?_, gnNe_of fun p hp q => ?_⟩
  · rcases List.mem_cons.mp hp with rfl | hp
    · refine ⟨hl, fun q => ?_, ?_⟩
      · obtain ⟨oL, _, _, hL, _⟩ := F.ns
        rw [show l = L from q, hL] at hn; cases hn
      · cases q : h₀.get? l with
        | none => rfl
        | some o' => rw [F.keep _ _ q] at hn; cases hn
    · exact N' p hp
  · rw [← q, (N p hp).1] at hn; cases hn

/-- a cut of a block -/
theorem execs_app (ss₁ ss₂ : List Stmt) : execs (ss₁ ++ ss₂) env = (do match ← execs ss₁ env with | .next => execs ss₂ env | f => pure f) := by
  induction ss₁ with
  | nil => rfl
  | cons a r ih =>
    rw [List.cons_append, execs_cons, ih, execs_cons]
    simp only [Sem.bind_eq_wrap', Sem.wrap_wrap]
    refine Sem.wrap_congr _ _ _ (fun f => ?_) (fun _ => rfl)
    cases f <;> rfl
theorem execs_cut {M : Model} {E : Value → Shared → Prop} {Q : Flow → Shared → Prop} {Mid : Shared → Prop} (ss₁ ss₂ : List Stmt)
    (h1 : wpAny M A (execs ss₁ env) (fun f s' => f = .next ∧ Mid s') E s) (h2 : ∀ s', Mid s' → wpAny M A (execs ss₂ env) Q E s') : wpAny M A (execs (ss₁ ++ ss₂) env) Q E s := by
  rw [execs_app]
  refine wpAny_bind (wpAny_mono h1 (fun f s' hf => ?_) fun _ _ e => e)
  obtain ⟨rfl, hm⟩ := hf
  exact h2 s' hm
end
end
-- text Rules
section
open PySem PySem.W PyProof.Rows PySem.Calls PySem.Spec PySem.SeqAt
section
variable {prog : Program} {w : World} {A : Around} {E : Value → Shared → Prop} {s : Shared} {h₀ : Heap} {L : Addr} {m : Str → Option Value} {news : List (Addr × Obj)}

/-- a text that is not too long -/
structure Short (x : Str) : Prop where
  le : x.length ≤ 1000
theorem Short.fits {x : Str} (h : Short x) : x.length ≤ sizeLine := by rw [sizeLine_eq]; exact Nat.le_trans h.le (by decide)
theorem Short.of_le {x y : Str} (h : Short x) (e : y.length ≤ x.length) : Short y := ⟨Nat.le_trans e h.le⟩
theorem any_mem {ns : List Int} {k : Int} (h : (ns.any fun x => x == k) = true) : k ∈ ns := by
  obtain ⟨x, hx, e⟩ := List.any_eq_true.mp h
  have e' : x = k := by simpa using e
  exact e' ▸ hx
theorem any_not {ns : List Int} {k : Int} (h : (ns.any fun x => x == k) = false) : k ∉ ns := fun hm => by
  have : (ns.any fun x => x == k) = true := List.any_eq_true.mpr ⟨k, hm, by simp⟩
  rw [this] at h; cases h

/-- xs.index(k), k among the ints -/
theorem own_index {l : Addr} {vs : List Value} {ns : List Int} {k : Int} {t : Tok} {Q : Value → Shared → Prop} (hl : s.heap.IsList l vs.toArray) (hi : IntsAre vs ns)
    (hb : ns.length ≤ 1000000) (hk : k ∈ ns) (h : Q (.int (ns.idxOf k : Nat) s.toks) { s with toks := s.toks + 1 }) :
    wpAny (model prog w) A (call (.builtin "list.index") [.ref l, .int k t]) Q E s := by
  obtain ⟨⟨cls, dd, data, sl⟩, ho, hc, n, hd⟩ := id hl
  dsimp only at hc hd
  subst hc hd
  have hlen := hi.length
  have hj : ns.idxOf k < ns.length := List.idxOf_lt_length_iff.mpr hk
  refine call_meets PySem.F.slot_list_index ⟨_, ho, rfl⟩ PySem.F.entry_list_index (PySem.F.args_list_index_2 _ _)
    (list_indexAt l vs.toArray n dd sl (.int k t) (isInt k) (ns.idxOf k) (by simpa [hlen] using hj) (by omega) ?_ ?_) ⟨ho, fun y hy => (eq_isInt k t hi y (by simpa using hy)).at _ _, h⟩
  · exact (isInt_at k hi _ (by omega) hj).trans (by simp)
  · intro j hjs hlt
    exact (isInt_at k hi j (by simpa using hjs) (by omega)).trans (ne_of_lt_idxOf hlt _)

/-- len(xs) of a list of ints -/
theorem own_len {l : Addr} {vs : List Value} {ns : List Int} {Q : Value → Shared → Prop} (hl : s.heap.IsList l vs.toArray) (hi : IntsAre vs ns) (hb : ns.length ≤ 1000000)
    (h : Q (.int (ns.length : Nat) (s.toks + 1)) { s with toks := s.toks + 1 + 1 }) : wpAny (model prog w) A (call (.builtin "len") [.ref l]) Q E s := by
  have e : vs.toArray.size = ns.length := by simp [hi.length]
  refine len_list hl (by rw [e]; omega) ?_
  rw [e]; exact h

noncomputable def loN (v : Option Int) (n : Nat) : Nat := match v with
  | none => 0
  | some x => if x < 0 then n - (-x).toNat else min x.toNat n
noncomputable def hiN (v : Option Int) (n : Nat) : Nat := match v with
  | none => n
  | some y => if y < 0 then n - (-y).toNat else min y.toNat n
/-- xs[lo:hi] -/
noncomputable def cutI {α : Type} (ns : List α) (lo hi : Option Int) : List α := (ns.drop (loN lo ns.length)).take (hiN hi ns.length - loN lo ns.length)

theorem length_cutI {α : Type} (ns : List α) (lo hi : Option Int) : (cutI ns lo hi).length = min (hiN hi ns.length - loN lo ns.length) (ns.length - loN lo ns.length) := by
  unfold cutI; rw [List.length_take, List.length_drop]
theorem length_cutI_le {α : Type} (ns : List α) (lo hi : Option Int) : (cutI ns lo hi).length ≤ ns.length := by rw [length_cutI]; omega
theorem own_slice {l : Addr} {vs : List Value} {ns : List Int} {value slice : PySem.Expr} {vl vu : Value} {lo hi : Option Int} {Q : Value → Shared → Prop} (F : Fr h₀ L s.heap m) (N : News h₀ L s.heap news) (hl : s.heap.IsList l vs.toArray) (hi' : IntsAre vs ns) (hb : ns.length ≤ 1000000)
    (pl : IsPart vl lo) (pu : IsPart vu hi)
    (h : ∀ D ws h', Fr h₀ L h' m → News h₀ L h' ((D, listOf (List.toArray ws) 0) :: news) → (∀ p ∈ news, p.1 < D) → IntsAre ws (cutI ns lo hi) → (cutI ns lo hi).length ≤ ns.length → Q (.ref D) { s with heap := h' })
    (hs : subscripted slice false (.ref l) (.ref s.heap.objs.size) = operate [.ref s.heap.objs.size, .ref l] (getItem (.ref l) (.ref s.heap.objs.size))) (ht : ∀ r, letTemporaryGo value (.ref l) r = pure ()) :
    wpAny (model prog w) A (subscriptTail value slice (.ref l) (.ref s.heap.objs.size)) Q E { s with heap := s.heap.push { cls := .type "slice", data := .fields #[vl, vu, .none] } } := by
  refine kms_slice_lit F N hl pl pu rfl (fun D h' F' N' l1 => h D _ h' F' N' l1 ?_ (length_cutI_le _ _ _)) hs ht (by rw [List.size_toArray, hi'.length, sizeLine_eq]; omega)
  have e1 : ∀ n, kms_lo lo n = loN lo n := fun n => rfl
  have e2 : ∀ n, kms_hi hi n = hiN hi n := fun n => rfl
  show IntsAre ((vs.drop (kms_lo lo vs.length)).take (kms_hi hi vs.length - kms_lo lo vs.length)) _
  rw [e1, e2, hi'.length]
  exact (hi'.drop _).take _

theorem rep_ints {vs : List Value} {ns : List Int} (h : IntsAre vs ns) : ∀ k : Nat, IntsAre (List.replicate k vs).flatten (List.replicate k ns).flatten
  | 0 => .nil
  | k + 1 => by
    rw [List.replicate_succ, List.replicate_succ, List.flatten_cons, List.flatten_cons]
    exact h.append (rep_ints h k)
/-- xs.append(x) -/
theorem own_append {D : Addr} {vs : List Value} {ns : List Int} {n : Nat} {x : Value} {news' : List (Addr × Obj)} {Q : Value → Shared → Prop} (F : Fr h₀ L s.heap m) (N : News h₀ L s.heap news) (hi : IntsAre vs ns) (hb : ns.length ≤ 1000000) (U : Upd D (listOf vs.toArray n) (listOf (vs ++ [x]).toArray (n + 1)) news news')
    (h : ∀ h', Fr h₀ L h' m → News h₀ L h' news' → Q .none { s with heap := h' }) : wpAny (model prog w) A (call (.builtin "list.append") [.ref D, x]) Q E s := by
  refine append_K (its := vs.toArray) F N (by rw [List.push_toArray]; exact U) h (hsz := ?_)
  rw [List.size_toArray, hi.length, sizeLine_eq]; omega
/-- xs * k -/
noncomputable def repI {α : Type} (k : Int) (ns : List α) : List α := (List.replicate k.toNat ns).flatten
theorem length_repI {α : Type} (k : Int) (ns : List α) : (repI k ns).length = k.toNat * ns.length := by
  unfold repI
  generalize k.toNat = n
  induction n with
  | zero => simp
  | succ n ih => rw [List.replicate_succ, List.flatten_cons, List.length_append, ih, Nat.succ_mul]; omega
theorem own_mul {l : Addr} {vs : List Value} {ns : List Int} {x : Int} {u : Tok} {Q : Value → Shared → Prop} (F : Fr h₀ L s.heap m) (N : News h₀ L s.heap news) (hl : s.heap.IsList l vs.toArray) (hi : IntsAre vs ns) (hlo : -(2 ^ 63 : Int) ≤ x) (hhi : x < 2 ^ 63) (hsz : ns.length * x.toNat ≤ 256)
    (h : ∀ D ws h', Fr h₀ L h' m → News h₀ L h' ((D, listOf (List.toArray ws) 0) :: news) → (∀ p ∈ news, p.1 < D) → IntsAre ws (repI x ns) → (repI x ns).length ≤ 256 → Q (.ref D) { s with heap := h' }) : wpAny (model prog w) A (binaryOp .Mult (.ref l) (.int x u)) Q E s :=
  KMa.mul F N hl hlo hhi (by rw [hi.length]; exact hsz) rfl fun D h' F' N' l1 => h D _ h' F' N' l1 (rep_ints hi _) (by rw [length_repI, Nat.mul_comm]; exact hsz)

theorem mul_small {a b : Nat} (ha : a ≤ 10) (hb : b ≤ 25) : a * b ≤ 256 := Nat.le_trans (Nat.mul_le_mul ha hb) (by decide)
/-- xs + ys -/
theorem own_add {l b : Addr} {vs us : List Value} {ns ms : List Int} {Q : Value → Shared → Prop} (F : Fr h₀ L s.heap m) (N : News h₀ L s.heap news) (hl : s.heap.IsList l vs.toArray) (hb : s.heap.IsList b us.toArray) (hi : IntsAre vs ns) (hj : IntsAre us ms) (hz : ns.length + ms.length ≤ 1000000)
    (h : ∀ D ws h', Fr h₀ L h' m → News h₀ L h' ((D, listOf (List.toArray ws) 0) :: news) → (∀ p ∈ news, p.1 < D) → IntsAre ws (ns ++ ms) → (ns ++ ms).length = ns.length + ms.length → Q (.ref D) { s with heap := h' }) : wpAny (model prog w) A (binaryOp .Add (.ref l) (.ref b)) Q E s :=
  add_lists_ints (hsz := by rw [sizeLine_eq]; omega) F N hl hb hi hj fun h' F' N' hI => h _ _ h' F' N' (fun p hp => Heap.lt_size (N p hp).1) hI List.length_append
end
end
-- text Rules2
section
open PySem PySem.W PyProof.Rows PySem.Calls PySem.Spec PySem.SeqAt PySem.W.KStt
section
variable {prog : Program} {w : World} {A₀ A : Around} {s : Shared} {base h₀ : Heap} {outer : List Env} {L : Addr} {m mg mb : Str → Option Value} {env : Env} {news : List (Addr × Obj)} {K : Frag} {p : Program} {loose : List Str} {mean : ExcName → Option Value}
  {R : Result → Shared → Prop} {name qual : Str} {params : Arguments} {body : List Stmt} {scope : Scope} {dV kV doc pm cdv ct oc : Value} {an od : Option Addr} {osl : Array (Option Value)} {f C : Addr} {rest : List Value} {binds : List (Str × Value)}

/-- a class called: its __init__ entered, the new object and its dict on the ledger -/
theorem own_new (B : Below A₀ base outer h₀) (F : Fr h₀ L s.heap m) (X₀ : K.In h₀) (T : Top p loose mean mg mb h₀) (hA : A.frames = some (env :: outer)) (hf : env.frame = some L) (hke : env.scope.kind = .function)
    (hm : makesIn K C = true) (hi : findIn K (.ref C) "__init__" = some (some (.ref f))) (hfn : typeIn K (.ref f) = some (.type "function"))
    (ho : K.lookup f = some ⟨oc, od, .func (fnOf name qual params body scope dV kV doc pm an cdv ct), osl⟩) (hcd : codeIn K cdv qual = true) (hroom : (A.under (.builtin "type.__call__" ⟨.ref C :: rest, []⟩)).depth < recursionLimit)
    (hbind : ∀ (x : Addr) (s' : Shared), BindsTo s' (fnOf name qual params body scope dV kV doc pm an cdv ct) ⟨.ref x :: rest, []⟩ ((Str.ofString "self", .ref x) :: binds)) (hloc : ∀ (x : Addr), ∀ y ∈ ((Str.ofString "self", Value.ref x) :: binds), scope.names.lookup y.1 = some .local)
    (h : ∀ g h₁ x dx SZ, s.heap.StaysIn g → s.heap.get? x = none → dx < x → x < SZ → Fr g SZ h₁ (fun y => ((Str.ofString "self", Value.ref x) :: binds).reverse.lookup y) → News g SZ h₁ [(x, instObj C dx), (dx, emptyDict)] → Below (A.under (.builtin "type.__call__" ⟨.ref C :: rest, []⟩)) base (env :: outer) g → K.In g → Top p loose mean mg mb g →
      wpAny (model prog w) ((A.under (.builtin "type.__call__" ⟨.ref C :: rest, []⟩)).deeper (envOf qual scope SZ f cdv)) (execs body (envOf qual scope SZ f cdv))
        (fun fl s' => Ret (InitBack x R) (match fl with | .ret v => v | _ => .none) s')
        (fun e s' => wpAny (model prog w) ((A.under (.builtin "type.__call__" ⟨.ref C :: rest, []⟩)).deeper (envOf qual scope SZ f cdv)) (leaving (envOf qual scope SZ f cdv) e) (fun _ s'' => InitBack x R (.error e) s'') (fun e' s'' => InitBack x R (.error e') s'') s')
        { s with heap := h₁, toks := s.toks + ((Str.ofString "self", Value.ref x) :: binds).length })
    (hco : scope.isCoroutine = false) (hgen : scope.isGenerator = false) (hk : scope.kind = .function)
    (hcell : ∀ x ∈ scope.names, x.2 ≠ .cell) : codeAny (model prog w) A (.call (.ref C) ⟨rest, []⟩) R s := by
  obtain ⟨hh, g, d, t, os⟩ := s
  have Xs : K.In hh := X₀.keeps F.keep
  refine make_core (makes_of Xs hm) (looks_findIn Xs hi) (fun self => bind_fn Xs self hfn) (.inl rfl) ?_
  have N' := ((News.nil (h₀ := h₀) (L := L) (h := hh)).push F emptyDict).push (F.push _) (instObj C hh.objs.size)
  rw [Heap.size_push] at N'
  have F' := (F.push emptyDict).push (instObj C hh.objs.size)
  refine own_def (s := ⟨(hh.push emptyDict).push (instObj C hh.objs.size), g, d, t, os⟩) (binds := (Str.ofString "self", Value.ref (hh.objs.size + 1)) :: binds) B F' X₀ N' T hA hf hke ho hcd hroom (hbind _ _) (hloc _) (fun g' h₁ eg F1 N1 B1 X1 T1 lt => ?_) hco hgen hk hcell
  refine h g' h₁ (hh.objs.size + 1) hh.objs.size _ (fun b o e => ?_) (Heap.get?_none_of_le (Nat.le_succ _)) (Nat.lt_succ_self _) (lt _ (.head _)) F1 N1 B1 X1 T1
  subst eg
  have hb := Heap.lt_size e
  refine hideAll_get _ (Heap.get?_push_of_some _ (Heap.get?_push_of_some _ e)) fun hm => ?_
  rcases List.mem_cons.mp hm with q | hm
  · have q' : b = hh.objs.size + 1 := q
    subst q'; exact absurd hb (Nat.not_lt_of_le (Nat.le_succ _))
  · have q' : b = hh.objs.size := List.mem_singleton.mp hm
    subst q'; exact absurd hb (Nat.lt_irrefl _)
end
section
variable {prog : Program} {w : World} {A : Around} {E : Value → Shared → Prop} {s : Shared} {env : Env} {h₀ : Heap} {x : Str} {body : List Stmt} {Q : Flow → Shared → Prop}
/-- a loop whose state's objects lie where they will: on any walk -/
theorem own_loop {I : Addr} {fp : List Addr} {n : Nat} {Pv : Nat → Value → Prop} {St : Nat → Heap → Prop} {m₀ : Str → Option Value} {news : List (Addr × Obj)} (J : Nat → (Str → Option Value) → List (Addr × Obj) → Prop)
    (W : Walks prog w A I fp [I] n Pv St) (hLf : env.locals ∉ fp) (hI : h₀.get? I = none) (hn : ∀ p ∈ news, p.1 ≠ I) (hst : St 0 s.heap) (hIf : I ∈ fp) (hfx : ∀ b ∈ fp, b ≠ I → ∃ o, h₀.get? b = some o)
    (hlive : ∀ i h, St i h → ∃ o, h.get? I = some o) (F : Fr h₀ env.locals s.heap m₀) (N : News h₀ env.locals s.heap news) (hj : J 0 m₀ news)
    (turn : ∀ i v m₁ nx h tk own, i < n → Pv i v → TbOff own nx → J i m₁ nx → Fr h₀ env.locals h (fun y => if y = x then some v else m₁ y) → News h₀ env.locals h (nx ++ own) →
      wpAny (model prog w) A (execs body env) (TbPost h₀ env.locals (J (i + 1)) own { s with heap := h, toks := tk } Q) E { s with heap := h, toks := tk })
    (done : ∀ m₁ nx h tk, J n m₁ nx → Fr h₀ env.locals h m₁ → News h₀ env.locals h nx → Q .next { s with heap := h, toks := tk }) :
    LoopAtV prog w A h₀ env x body Q E (.ref I) s := by
  refine ⟨_, fp, [I], n, _, _, m₀, news, J, rfl, W, hLf, ?_, ?_, hst, F, N, hj, ?_, ?_⟩
  · intro b hb; rw [List.mem_singleton.mp hb]; exact hI
  · intro p hp hq; exact hn p hp (List.mem_singleton.mp hq)
  · rintro i v m₁ news₁ s₁ own ⟨hh', tk', rfl⟩ hin hP hJ hoff hown _ hmem hst F₁ N₁
    obtain ⟨oi, hoi⟩ := hlive _ _ hst
    have hI' : (I, oi) ∈ own := hmem _ hIf hI oi hoi
    have hsep : TbOff own news₁ := by
      intro p hp q hq e
      by_cases h1 : p.1 = I
      · exact hoff q hq (List.mem_singleton.mpr (by rw [← e, h1]))
      · obtain ⟨o, ho⟩ := hfx p.1 (hown p hp) h1
        have h3 := (N₁ q (List.mem_append.mpr (.inr hq))).2.2
        rw [← e, ho] at h3
        cases h3
    have N₂ : News h₀ env.locals hh' (news₁ ++ own) := fun p hp => N₁ p ((List.mem_append.mp hp).elim (fun h => List.mem_append.mpr (.inr h)) fun h => List.mem_append.mpr (.inl h))
    refine wpAny_mono (turn i v m₁ news₁ hh' tk' own hin hP hsep hJ F₁ N₂) (fun f s₂ p => ?_) fun _ _ e => e
    have fin : TbEnd h₀ env.locals (J (i + 1)) own { s with heap := hh', toks := tk' } s₂ → LoopStepU h₀ env.locals [I] own (J (i + 1)) { s with heap := hh', toks := tk' } .next s₂ := by
      rintro ⟨h', tk, m', news', nx, e, F', N', hn, ho, ha, hm⟩
      exact ⟨rfl, h', tk, m', nx, e, F', fun p hp => N' p ((List.mem_append.mp hp).elim (ho p) (hn p)), fun p hp hq => ha _ hI' p hp (List.mem_singleton.mp hq).symm, hm⟩
    cases f with
    | ret v => exact .ret p
    | brk => exact .brk p
    | next => exact .next (fin p)
    | cont => exact .cont (fin p)
  · rintro h' tk m' news' F' N' _ hJ
    exact done m' news' h' tk hJ F' N'

/-- for c in text: the state's ledger is free -/
theorem own_text {σ : Type} {xt : PySem.Str} {tx : Tok} {m₀ : PySem.Str → Option Value} (Led : σ → List (Addr × Obj)) (ps : σ → List (PySem.Str × Value)) (Facts : σ → Prop) (stored : List PySem.Str) (P : List Int → σ → Prop) (c₀ : σ)
    (hh : A.handled = none) (F : Fr h₀ env.locals s.heap m₀) (N : News h₀ env.locals s.heap (Led c₀)) (hf : Facts c₀) (hk : ∀ p ∈ ps c₀, m₀ p.1 = some p.2) (hp : P [] c₀)
    (turn : ∀ (c : σ) (pre post : List Int) (n : Nat) t (u : PySem.Str → Option Value) h tk own, codes xt = pre ++ (n : Int) :: post → TbOff own (Led c) → Facts c → P pre c →
      Fr h₀ env.locals h (fun y => if y = x then some (.str ⟨#[n]⟩ t) else kstB (fun z => if stored.contains z then u z else m₀ z) (ps c) y) → News h₀ env.locals h (Led c ++ own) →
      wpAny (model prog w) A (execs body env) (TbPost h₀ env.locals (KstS Led ps Facts x stored m₀ P (pre ++ [(n : Int)])) own { s with heap := h, toks := tk } Q) E { s with heap := h, toks := tk })
    (done : ∀ (c : σ) (u : PySem.Str → Option Value) h tk, Facts c → P (codes xt) c → Fr h₀ env.locals h (fun y => if y = x then u y else kstB (fun z => if stored.contains z then u z else m₀ z) (ps c) y) → News h₀ env.locals h (Led c) → Q .next { s with heap := h, toks := tk }) :
    wpAny (model prog w) A (pyIter (.str xt tx)) (fun it s₂ => LoopAtV prog w A h₀ env x body Q E it s₂) E s := by
  have go : ∀ (o : Obj) (St : Nat → Heap → Prop), Walks prog w A s.heap.objs.size [s.heap.objs.size] [s.heap.objs.size] xt.cps.size (SignAt xt) St → St 0 (s.heap.push o) → (∀ i h, St i h → ∃ o, h.get? s.heap.objs.size = some o) →
      LoopAtV prog w A h₀ env x body Q E (.ref s.heap.objs.size) { s with heap := s.heap.push o } := by
    intro o St W hst hlive
    refine own_loop (s := { s with heap := s.heap.push o }) (fun i m nx => KstS Led ps Facts x stored m₀ P ((codes xt).take i) m nx) W ?_ (next_is_new F) ?_ hst (.head _) ?_ hlive (F.push _) (fun p hp => ⟨Heap.get?_push_of_some _ (N p hp).1, (N p hp).2⟩) ⟨c₀, rfl, hf, hk, fun _ _ _ _ => rfl, by simpa using hp⟩ ?_ ?_
    · intro hm
      exact absurd F.ns.lt ((List.mem_singleton.mp hm) ▸ Nat.lt_irrefl _)
    · intro p hp hI
      exact absurd (Heap.lt_size (N p hp).1) (hI ▸ Nat.lt_irrefl _)
    · intro b hb hne
      exact absurd (List.mem_singleton.mp hb) hne
    · rintro i v m₁ nx h tk own hi ⟨n, u, hn, rfl⟩ hoff ⟨c, rfl, hf', h1, h2, hp'⟩ F₁ N₁
      have hn' := code_at hn
      have hs : (codes xt).take (i + 1) = (codes xt).take i ++ [(n : Int)] := by simp [List.take_add_one, hn']
      have e : codes xt = (codes xt).take i ++ (n : Int) :: (codes xt).drop (i + 1) := by
        have ht := List.take_append_drop (i + 1) (codes xt)
        rw [hs, List.append_assoc] at ht
        exact ht.symm
      rw [hs]
      exact turn c _ _ n u m₁ h tk own e hoff hf' hp' (kst_fr h1 h2 F₁) N₁
    · rintro m₁ nx h tk ⟨c, rfl, hf', h1, h2, hp'⟩ F₁ N₁
      have hl : xt.cps.size = (codes xt).length := (codes_length xt).symm
      rw [hl, List.take_length] at hp'
      exact done c m₁ h tk hf' hp' (kst_frOut h1 h2 F₁) N₁
  cases ha : xt.cps.all (· < 128)
  · exact wpAny_pyIter_wide ha (go _ _ (Walks.strWide hh _ xt tx) ⟨_, Heap.get?_push_size _ rfl, rfl, rfl⟩ fun i h st => let ⟨o, ho, _⟩ := st; ⟨o, ho⟩)
  · exact wpAny_pyIter_ascii ha (go _ _ (Walks.strAscii hh _ xt tx) ⟨_, Heap.get?_push_size _ rfl, rfl, rfl⟩ fun i h st => let ⟨o, ho, _⟩ := st; ⟨o, ho⟩)

theorem own_textT {σ : Type} {xt : PySem.Str} {tx : Tok} {m₀ : PySem.Str → Option Value} (Hd : σ → Addr × Obj) (tl : List (Addr × Obj)) (ps : σ → List (PySem.Str × Value)) (Facts : σ → Prop) (stored : List PySem.Str) (P : List Int → σ → Prop) (c₀ : σ)
    (hh : A.handled = none) (F : Fr h₀ env.locals s.heap m₀) (N : News h₀ env.locals s.heap (Hd c₀ :: tl)) (hf : Facts c₀) (hk : ∀ p ∈ ps c₀, m₀ p.1 = some p.2) (hp : P [] c₀)
    (turn : ∀ (c : σ) (pre post : List Int) (n : Nat) t (u : PySem.Str → Option Value) h tk own, codes xt = pre ++ (n : Int) :: post → TbOff own (Hd c :: tl) → Facts c → P pre c →
      Fr h₀ env.locals h (fun y => if y = x then some (.str ⟨#[n]⟩ t) else kstB (fun z => if stored.contains z then u z else m₀ z) (ps c) y) → News h₀ env.locals h (Hd c :: (tl ++ own)) →
      wpAny (model prog w) A (execs body env) (TbPost h₀ env.locals (KstS (fun c => Hd c :: tl) ps Facts x stored m₀ P (pre ++ [(n : Int)])) own { s with heap := h, toks := tk } Q) E { s with heap := h, toks := tk })
    (done : ∀ (c : σ) (u : PySem.Str → Option Value) h tk, Facts c → P (codes xt) c → Fr h₀ env.locals h (fun y => if y = x then u y else kstB (fun z => if stored.contains z then u z else m₀ z) (ps c) y) → News h₀ env.locals h (Hd c :: tl) → Q .next { s with heap := h, toks := tk }) :
    wpAny (model prog w) A (pyIter (.str xt tx)) (fun it s₂ => LoopAtV prog w A h₀ env x body Q E it s₂) E s :=
  own_text (fun c => Hd c :: tl) ps Facts stored P c₀ hh F N hf hk hp turn done

theorem ownOff_of {own nx : List (Addr × Obj)} (h : TbOff own nx) : OwnOff own (nx.map (·.1)) := fun p hp b hb => by
  obtain ⟨q, hq, rfl⟩ := List.mem_map.mp hb
  exact h p hp q hq
theorem tbOff_cons {own nx : List (Addr × Obj)} {q : Addr × Obj} (h1 : ∀ p ∈ own, p.1 ≠ q.1) (h : TbOff own nx) : TbOff own (q :: nx) := fun p hp r hr => by
  rcases List.mem_cons.mp hr with rfl | hr
  · exact h1 p hp
  · exact h p hp r hr
theorem tbOff_tail {own nx : List (Addr × Obj)} {q : Addr × Obj} (h : TbOff own (q :: nx)) : TbOff own nx := fun p hp r hr => h p hp r (.tail _ hr)
/-- a turn's end -/
theorem own_end {σ : Type} {Led : σ → List (Addr × Obj)} {ps : σ → List (Str × Value)} {Facts : σ → Prop} {stored : List Str} {m₀ : Str → Option Value} {P : List Int → σ → Prop} {pre : List Int} (c : σ) {L : Addr} {m' : Str → Option Value} {own news' : List (Addr × Obj)} {s₁ : Shared} {h' : Heap} {tk : Nat}
    (F : Fr h₀ L h' m') (N : News h₀ L h' news') (hn : ∀ p ∈ Led c, p ∈ news') (ho : ∀ p ∈ own, p ∈ news') (ha : TbOff own (Led c)) (hf : Facts c) (hk : ∀ p ∈ ps c, m' p.1 = some p.2) (hr : ∀ z, z ≠ x → (∀ p ∈ ps c, z ≠ p.1) → stored.contains z = false → m' z = m₀ z) (hp : P pre c) :
    TbEnd h₀ L (KstS Led ps Facts x stored m₀ P pre) own s₁ { s₁ with heap := h', toks := tk } :=
  ⟨h', tk, m', news', Led c, rfl, F, N, hn, ho, ha, c, rfl, hf, hk, hr, hp⟩

/-- xs[i], i within -/
theorem own_get {l : Addr} {vs : List Value} {ns : List Int} {i : Int} {t : Tok} {Q : Value → Shared → Prop} (hl : s.heap.IsList l vs.toArray) (hi : IntsAre vs ns)
    (h0 : 0 ≤ i) (h1 : i < (ns.length : Nat)) (hb : ns.length ≤ 1000000) (h : ∀ u k, ns[i.toNat]? = some k → Q (.int k u) s) : wpAny (model prog w) A (getItem (.ref l) (.int i t)) Q E s := by
  have hlen := hi.length
  have hlt : i.toNat < ns.length := by omega
  obtain ⟨u, hx⟩ := hi.get i.toNat (ns[i.toNat]'hlt) (by simp [hlt])
  exact getItem_listL hl h0 (by omega) hx (h u _ (by simp [hlt]))

theorem setB {k : Int} {u : Tok} : ∀ {vs : List Value} {ns : List Int}, IntsAre vs ns → ∀ i : Nat, IntsAre (vs.set i (.int k u)) (ns.set i k)
  | _, _, .nil, _ => .nil
  | _, _, .cons _ _ h, 0 => .cons k u h
  | _, _, .cons c t h, i + 1 => .cons c t (setB h i)
/-- xs[i] = k, i within -/
theorem own_set {L D : Addr} {m : Str → Option Value} {news news' : List (Addr × Obj)} {vs : List Value} {ns : List Int} {n : Nat} {i k : Int} {t u : Tok} {Q : Unit → Shared → Prop} (F : Fr h₀ L s.heap m) (N : News h₀ L s.heap news) (U : Upd D (listOf vs.toArray n) (listOf (vs.set i.toNat (.int k u)).toArray n) news news') (hi : IntsAre vs ns) (h0 : 0 ≤ i) (h1 : i < (ns.length : Nat)) (hb : ns.length ≤ 1000000)
    (h : ∀ h', Fr h₀ L h' m → News h₀ L h' news' → IntsAre (vs.set i.toNat (.int k u)) (ns.set i.toNat k) → (ns.set i.toNat k).length = ns.length → Q () { s with heap := h' }) :
    wpAny (model prog w) A (setItem (.ref D) (.int i t) (.int k u)) Q E s := by
  obtain ⟨pre, post, rfl, rfl, a, b'⟩ := U.split
  have z := N (D, listOf vs.toArray n) (List.mem_append.mpr (.inr (.head _)))
  have hl : vs.length = ns.length := hi.length
  have hs : vs.toArray.size = ns.length := by rw [List.size_toArray]; exact hl
  refine ki_setAt z.1 h0 (by omega) (by omega) (h _ (F.change (Heap.SameBut.update ..) z.2.1 z.2.2) (ki_turn _ N a b' ?_ ?_) (setB hi _) (List.length_set ..))
  · show vs.toArray.setIfInBounds i.toNat (.int k u) = (vs.set i.toNat (.int k u)).toArray
    apply Array.toList_inj.mp
    simp
  · simp

theorem own_tuple {L l : Addr} {m : Str → Option Value} {news : List (Addr × Obj)} {vs : List Value} {ns : List Int} {Q : Value → Shared → Prop} (F : Fr h₀ L s.heap m) (N : News h₀ L s.heap news) (hl : s.heap.IsList l vs.toArray) (hi : IntsAre vs ns) (hz : ns.length ≤ 16384)
    (h : ∀ D h', Fr h₀ L h' m → News h₀ L h' ((D, ({ cls := .type "tuple", data := .seq vs.toArray } : Obj)) :: news) → (∀ p ∈ news, p.1 < D) → Q (.ref D) { s with heap := h' }) : wpAny (model prog w) A (call (.type "tuple") [.ref l]) Q E s :=
  kde_tupleOf F N hl (by rw [List.size_toArray, hi.length]; exact hz) rfl h
theorem tbOff_of {own nx : List (Addr × Obj)} (h : OwnOff own (nx.map (·.1))) : TbOff own nx := fun p hp q hq => h p hp q.1 (List.mem_map_of_mem hq)
theorem ownOff_cons {own : List (Addr × Obj)} {a : Addr} {l : List Addr} (h1 : AllLt a own) (h : OwnOff own l) : OwnOff own (a :: l) := fun p hp b hb => by
  rcases List.mem_cons.mp hb with rfl | hb
  · exact Nat.ne_of_lt (tb_ltOf h1 p hp)
  · exact h p hp b hb
theorem ownOff_tail {own : List (Addr × Obj)} {a : Addr} {l : List Addr} (h : OwnOff own (a :: l)) : OwnOff own l := fun p hp b hb => h p hp b (.tail _ hb)
theorem one_blank {c : Nat} (h : ((⟨#[c]⟩ : Str) == Str.ofString " ") = true) : (c : Int) = 32 := by
  have e : (⟨#[c]⟩ : Str) = Str.ofString " " := by simpa using h
  have e2 : (⟨#[c]⟩ : Str).cps.toList = [32] := by rw [e]; decide
  have e3 : [c] = [32] := e2
  injection e3 with e4
  omega
theorem one_tab {c : Nat} (h : ((⟨#[c]⟩ : Str) == Str.ofString "\t") = true) : (c : Int) = 9 := by
  have e : (⟨#[c]⟩ : Str) = Str.ofString "\t" := by simpa using h
  have e2 : (⟨#[c]⟩ : Str).cps.toList = [9] := by rw [e]; decide
  have e3 : [c] = [9] := e2
  injection e3 with e4
  omega
theorem not_blank {c : Nat} (h : ((⟨#[c]⟩ : Str) == Str.ofString " ") = false) : (c : Int) ≠ 32 := fun q => by
  have : c = 32 := by omega
  subst this
  exact absurd h (by decide)
theorem not_tab {c : Nat} (h : ((⟨#[c]⟩ : Str) == Str.ofString "\t") = false) : (c : Int) ≠ 9 := fun q => by
  have : c = 9 := by omega
  subst this
  exact absurd h (by decide)
end
end
-- text Rules3
section
open PySem PySem.W PyProof.Rows PySem.Calls PySem.Spec PySem.SeqAt PyProof.V
noncomputable abbrev tupO (vs : List Value) : Obj := { cls := .type "tuple", data := .seq vs.toArray }
/-- a norm as data -/
noncomputable def normD (ns : List Int) (b : Int) : PyData := .tuple [.tuple (ns.map .int), .int b]
theorem reads_norm {h : Heap} {a c : Addr} {vs : List Value} {ns : List Int} {b : Int} {t : Tok} (ha : h.get? a = some (tupO [.ref c, .int b t])) (hc : h.get? c = some (tupO vs)) (hi : IntsAre vs ns) : Reads h (.ref a) (normD ns b) [] := by
  have e : ReadsAll h [.ref c, .int b t] [.tuple (ns.map .int), .int b] ([] ++ ([] ++ [])) :=
    .cons (.tuple hc rfl rfl (by simpa using readsAll_of_ints hi)) (.cons (.int b t) .nil)
  exact .tuple ha rfl rfl (by simpa using e)
theorem shaped_norm (ns : List Int) (b : Int) : shaped (normD ns b) = true := by
  have h1 := W.depthAll_ints ns
  have h2 : PyData.depth (normD ns b) ≤ 64 := by simp only [normD, PyData.depth, PyData.depthAll]; omega
  show (PyData.canLay0 (normD ns b) && decide (PyData.depth (normD ns b) ≤ 64)) = true
  rw [Bool.and_eq_true]
  refine ⟨?_, decide_eq_true h2⟩
  simp only [normD, PyData.canLay0, PyData.canLayAll0, canLayAll0_ints, Bool.and_self]
theorem noMix_norm (ns ms : List Int) (b c : Int) : noMix (normD ns b) (normD ms c) = true := by
  simp only [normD, noMix, noMixAll, noMix_ints, Bool.and_self]
theorem same_norm (ns ms : List Int) (b c : Int) : PySem.Spec.same (normD ns b) (normD ms c) = decide (ns = ms ∧ b = c) := by
  simp only [normD, PySem.Spec.same, PySem.Spec.sameAll, same_ints, Bool.and_true]
  by_cases h : ns = ms <;> by_cases h' : b = c <;> simp [h, h']

/-- a list of triples as data -/
noncomputable def triD (r : Int × Int × Int) : PyData := .tuple [.int r.1, .int r.2.1, .int r.2.2]
noncomputable def trisD (rs : List (Int × Int × Int)) : PyData := .list (rs.map triD)
theorem canLay_tris : ∀ rs : List (Int × Int × Int), PyData.canLayAll0 (rs.map triD) = true
  | [] => by simp [PyData.canLayAll0]
  | n :: r => by simp [PyData.canLayAll0, PyData.canLay0, triD, canLay_tris r]
theorem depth_tris : ∀ rs : List (Int × Int × Int), PyData.depthAll (rs.map triD) ≤ 2
  | [] => by simp [PyData.depthAll]
  | n :: r => by
    have := depth_tris r
    simp only [List.map_cons, PyData.depthAll, PyData.depth, triD]
    omega
theorem shaped_tris (rs : List (Int × Int × Int)) : shaped (trisD rs) = true := by
  have h1 := depth_tris rs
  have h2 : PyData.depth (trisD rs) ≤ 64 := by simp only [trisD, PyData.depth]; omega
  show (PyData.canLay0 (trisD rs) && decide (PyData.depth (trisD rs) ≤ 64)) = true
  rw [Bool.and_eq_true]
  exact ⟨by simp only [trisD, PyData.canLay0]; exact canLay_tris rs, decide_eq_true h2⟩
theorem noMix_tris : ∀ ns ms : List (Int × Int × Int), noMixAll (ns.map triD) (ms.map triD) = true
  | [], [] => by simp [noMixAll]
  | [], _ :: _ => by simp [noMixAll]
  | _ :: _, [] => by simp [noMixAll]
  | _ :: r, _ :: q => by simp [noMixAll, noMix, triD, noMix_tris r q]
theorem same_tris : ∀ ns ms : List (Int × Int × Int), PySem.Spec.sameAll (ns.map triD) (ms.map triD) = decide (ns = ms)
  | [], [] => by simp [PySem.Spec.sameAll]
  | [], _ :: _ => by simp [PySem.Spec.sameAll]
  | _ :: _, [] => by simp [PySem.Spec.sameAll]
  | n :: r, k :: q => by
    simp only [List.map_cons, PySem.Spec.sameAll, same_tris r q, triD, PySem.Spec.same]
    obtain ⟨a, b, c⟩ := n
    obtain ⟨a', b', c'⟩ := k
    by_cases h : a = a' <;> by_cases h' : b = b' <;> by_cases h'' : c = c' <;> by_cases h3 : r = q <;> simp [h, h', h'', h3]
section
variable {prog : Program} {w : World} {A : Around} {E : Value → Shared → Prop} {s : Shared}
theorem own_eqNorm {a b : Addr} {ns ms : List Int} {x y : Int} {Q : Value → Shared → Prop} (ra : Reads s.heap (.ref a) (normD ns x) []) (rb : Reads s.heap (.ref b) (normD ms y) []) (hu : A.units + 64 < cLine)
    (h : Q (.bool (decide (ns = ms ∧ x = y))) s) : wpAny (model prog w) A (compareOp .Eq (.ref a) (.ref b)) Q E s :=
  eq_dataH_same ra rb (shaped_norm ..) (shaped_norm ..) hu (noMix_norm ..) (by rw [same_norm]; exact h)
theorem own_neTris {a b : Addr} {ns ms : List (Int × Int × Int)} {as bs : List Addr} {Q : Value → Shared → Prop} (ra : Reads s.heap (.ref a) (trisD ns) as) (rb : Reads s.heap (.ref b) (trisD ms) bs) (hu : A.units + 64 < cLine)
    (h : Q (.bool (!decide (ns = ms))) s) : wpAny (model prog w) A (compareOp .NotEq (.ref a) (.ref b)) Q E s :=
  ne_dataH_same ra rb (shaped_tris ns) (shaped_tris ms) hu (by simp only [trisD, noMix]; exact noMix_tris ns ms) (by simp only [trisD, PySem.Spec.same]; rw [same_tris]; exact h)
theorem own_eqTris {a b : Addr} {ns ms : List (Int × Int × Int)} {as bs : List Addr} {Q : Value → Shared → Prop} (ra : Reads s.heap (.ref a) (trisD ns) as) (rb : Reads s.heap (.ref b) (trisD ms) bs) (hu : A.units + 64 < cLine)
    (h : Q (.bool (decide (ns = ms))) s) : wpAny (model prog w) A (compareOp .Eq (.ref a) (.ref b)) Q E s :=
  eq_dataH_same ra rb (shaped_tris ns) (shaped_tris ms) hu (by simp only [trisD, noMix]; exact noMix_tris ns ms) (by simp only [trisD, PySem.Spec.same]; rw [same_tris]; exact h)
end
section
variable {prog : Program} {w : World} {A : Around} {E : Value → Shared → Prop} {s : Shared} {env : Env} {h₀ : Heap} {x : Str} {body : List Stmt} {Q : Flow → Shared → Prop}
/-- for k in range(a, b): the state's ledger is free -/
theorem own_range {σ : Type} {r : Addr} {a₀ b₀ : Int} {t₀ u₀ v₀ : Tok} {n : Nat} {m₀ : Str → Option Value} (Led : σ → List (Addr × Obj)) (ps : σ → List (Str × Value)) (Facts : σ → Prop) (stored : List Str) (P : List Int → σ → Prop) (c₀ : σ)
    (hh : A.handled = none) (hr : IsRange s.heap r a₀ b₀ 1 t₀ u₀ v₀) (hsmall : Builtin.Range.small a₀ b₀ 1 = true) (hn : Builtin.Range.rangeSize a₀ b₀ 1 = (n : Int)) (F : Fr h₀ env.locals s.heap m₀) (N : News h₀ env.locals s.heap (Led c₀)) (hf : Facts c₀) (hk : ∀ p ∈ ps c₀, m₀ p.1 = some p.2) (hp : P [] c₀)
    (turn : ∀ (c : σ) (pre : List Int) (k : Int) t (u : Str → Option Value) h tk own, k = a₀ + (pre.length : Int) → pre.length < n → TbOff own (Led c) → Facts c → P pre c →
      Fr h₀ env.locals h (fun y => if y = x then some (.int k t) else kstB (fun z => if stored.contains z then u z else m₀ z) (ps c) y) → News h₀ env.locals h (Led c ++ own) →
      wpAny (model prog w) A (execs body env) (TbPost h₀ env.locals (KstS Led ps Facts x stored m₀ P (pre ++ [k])) own { s with heap := h, toks := tk } Q) E { s with heap := h, toks := tk })
    (done : ∀ (c : σ) (u : Str → Option Value) h tk, Facts c → P (rangeKs a₀ n) c → Fr h₀ env.locals h (fun y => if y = x then u y else kstB (fun z => if stored.contains z then u z else m₀ z) (ps c) y) → News h₀ env.locals h (Led c) → Q .next { s with heap := h, toks := tk }) :
    wpAny (model prog w) A (pyIter (.ref r)) (fun it s₂ => LoopAtV prog w A h₀ env x body Q E it s₂) E s := by
  refine wpAny_pyIter_range hr hsmall ?_
  have W : Walks prog w A s.heap.objs.size [s.heap.objs.size] [s.heap.objs.size] n (fun i v => i < n ∧ ∃ t, v = .int (a₀ + i * 1) t)
      (fun i h => IsRangeIter h s.heap.objs.size (a₀ + (i : Nat) * 1) ((n : Int) - (i : Nat)) 1) := (Walks.range hh _ a₀ 1 n).bound
  refine own_loop (s := { s with heap := s.heap.push _ }) (fun i m nx => KstS Led ps Facts x stored m₀ P ((rangeKs a₀ n).take i) m nx) W ?_ (next_is_new F) ?_ (by show IsRangeIter _ _ _ _ _; rw [hn]; simpa using Heap.get?_push_size _ rfl) (.head _) ?_ (fun i h st => ⟨_, st⟩) (F.push _) (fun p hp => ⟨Heap.get?_push_of_some _ (N p hp).1, (N p hp).2⟩) ⟨c₀, rfl, hf, hk, fun _ _ _ _ => rfl, by simpa using hp⟩ ?_ ?_
  · intro hm
    exact absurd F.ns.lt ((List.mem_singleton.mp hm) ▸ Nat.lt_irrefl _)
  · intro p hp hI
    exact absurd (Heap.lt_size (N p hp).1) (hI ▸ Nat.lt_irrefl _)
  · intro b hb hne
    exact absurd (List.mem_singleton.mp hb) hne
  · rintro i v m₁ nx h tk own hi ⟨_, t, rfl⟩ hoff ⟨c, rfl, hf', h1, h2, hp'⟩ F₁ N₁
    have e1 : a₀ + (i : Int) * 1 = a₀ + (i : Int) := by omega
    rw [e1] at F₁
    have hk' : (rangeKs a₀ n)[i]? = some (a₀ + (i : Int)) := by simp [rangeKs, hi]
    have hs : (rangeKs a₀ n).take (i + 1) = (rangeKs a₀ n).take i ++ [a₀ + (i : Int)] := by simp [List.take_add_one, hk']
    have hlen : ((rangeKs a₀ n).take i).length = i := by rw [List.length_take, rangeKs_length]; omega
    rw [hs]
    exact turn c _ _ t m₁ h tk own (by rw [hlen]) (by rw [hlen]; exact hi) hoff hf' hp' (kst_fr h1 h2 F₁) N₁
  · rintro m₁ nx h tk ⟨c, rfl, hf', h1, h2, hp'⟩ F₁ N₁
    have hl : (rangeKs a₀ n).take n = rangeKs a₀ n := List.take_of_length_le (Nat.le_of_eq (rangeKs_length _ _))
    rw [hl] at hp'
    exact done c m₁ h tk hf' hp' (kst_frOut h1 h2 F₁) N₁
end

/-- triples that lie as tuples on a ledger -/
noncomputable def TriIn (led : List (Addr × Obj)) (v : Value) (r : Int × Int × Int) : Prop := ∃ a t1 t2 t3, v = .ref a ∧ (a, tupO [.int r.1 t1, .int r.2.1 t2, .int r.2.2 t3]) ∈ led
inductive TriAll (led : List (Addr × Obj)) : List Value → List (Int × Int × Int) → Prop
  | nil : TriAll led [] []
  | cons {v vs r rs} : TriIn led v r → TriAll led vs rs → TriAll led (v :: vs) (r :: rs)
theorem TriAll.mono {led led' : List (Addr × Obj)} {vs : List Value} {rs : List (Int × Int × Int)} (h : TriAll led vs rs) (k : ∀ p ∈ led, p ∈ led') : TriAll led' vs rs := by
  induction h with
  | nil => exact .nil
  | cons a _ ih => obtain ⟨x, t1, t2, t3, e, m⟩ := a; exact .cons ⟨x, t1, t2, t3, e, k _ m⟩ ih
theorem TriAll.snoc {led : List (Addr × Obj)} {vs : List Value} {rs : List (Int × Int × Int)} {v : Value} {r : Int × Int × Int} (h : TriAll led vs rs) (a : TriIn led v r) : TriAll led (vs ++ [v]) (rs ++ [r]) := by
  induction h with
  | nil => exact .cons a .nil
  | cons b _ ih => exact .cons b ih
theorem TriAll.length {led : List (Addr × Obj)} {vs : List Value} {rs : List (Int × Int × Int)} (h : TriAll led vs rs) : vs.length = rs.length := by
  induction h with
  | nil => rfl
  | cons _ _ ih => simp [ih]
theorem TriAll.reads {h : Heap} {led : List (Addr × Obj)} {vs : List Value} {rs : List (Int × Int × Int)} (x : TriAll led vs rs) (k : ∀ p ∈ led, h.get? p.1 = some p.2) : ReadsAll h vs (rs.map triD) [] := by
  induction x with
  | nil => exact .nil
  | @cons v vs' r rs' a _ ih =>
    obtain ⟨x, t1, t2, t3, rfl, m⟩ := a
    have e : ReadsAll h [.int r.1 t1, .int r.2.1 t2, .int r.2.2 t3] [.int r.1, .int r.2.1, .int r.2.2] ([] ++ ([] ++ ([] ++ []))) := .cons (.int _ t1) (.cons (.int _ t2) (.cons (.int _ t3) .nil))
    exact ReadsAll.cons (as := []) (d := triD r) (.tuple (k _ m) rfl rfl (by simpa using e)) ih
theorem TriAll.list {h : Heap} {led : List (Addr × Obj)} {vs : List Value} {rs : List (Int × Int × Int)} {l : Addr} {n : Nat} (x : TriAll led vs rs) (k : ∀ p ∈ led, h.get? p.1 = some p.2) (hl : h.get? l = some (listOf vs.toArray n)) : Reads h (.ref l) (trisD rs) [l] :=
  .list hl rfl rfl (by simpa using x.reads k)
end
-- text Rules4
section
open PySem PySem.W PyProof.Rows PySem.Calls PySem.Spec PySem.SeqAt PyProof.V
structure NL where
  vs : List Value
  rs : List (Int × Int × Int)
  ep : Nat
  tl : List (Addr × Obj)
section
variable {prog : Program} {w : World} {A : Around} {E : Value → Shared → Prop} {s : Shared} {env : Env} {h₀ : Heap} {x : Str} {body : List Stmt} {Q : Flow → Shared → Prop}
noncomputable abbrev NLled (D : Addr) (rest : List (Addr × Obj)) (c : NL) : List (Addr × Obj) := (D, listOf c.vs.toArray c.ep) :: (c.tl ++ rest)
noncomputable abbrev NLok (D : Addr) (c : NL) : Prop := TriAll c.tl c.vs c.rs ∧ OwnOff c.tl [D] ∧ c.rs.length ≤ 1000
/-- for k in range(a, b): out.append((k, .., ..)) by turns -/
theorem own_rangeA {r D : Addr} {a₀ b₀ : Int} {t₀ u₀ v₀ : Tok} {n : Nat} {m₀ : Str → Option Value} {rest : List (Addr × Obj)} (out : List Int → List (Int × Int × Int)) (stored : List Str)
    (hh : A.handled = none) (hr : IsRange s.heap r a₀ b₀ 1 t₀ u₀ v₀) (hsmall : Builtin.Range.small a₀ b₀ 1 = true) (hn : Builtin.Range.rangeSize a₀ b₀ 1 = (n : Int)) (hb : n ≤ 1000) (hout : ∀ pre, (out pre).length ≤ pre.length) (F : Fr h₀ env.locals s.heap m₀) (N : News h₀ env.locals s.heap ((D, listOf #[] 0) :: rest)) (hD : OwnOff rest [D])
    (turn : ∀ (vs : List Value) (ep : Nat) (tl : List (Addr × Obj)) (pre : List Int) (k : Int) t (u : Str → Option Value) h tk own, k = a₀ + (pre.length : Int) → pre.length < n → TbOff own (NLled D rest ⟨vs, out pre, ep, tl⟩) → OwnOff (tl ++ (rest ++ own)) [D] → NLok D ⟨vs, out pre, ep, tl⟩ → vs.length < 1000 →
      Fr h₀ env.locals h (fun y => if y = x then some (.int k t) else (fun z => if stored.contains z then u z else m₀ z) y) → News h₀ env.locals h ((D, listOf vs.toArray ep) :: (tl ++ (rest ++ own))) →
      wpAny (model prog w) A (execs body env) (TbPost h₀ env.locals (KstS (NLled D rest) (fun _ => []) (NLok D) x stored m₀ (fun pre c => c.rs = out pre) (pre ++ [k])) own { s with heap := h, toks := tk } Q) E { s with heap := h, toks := tk })
    (done : ∀ (vs : List Value) (ep : Nat) (tl : List (Addr × Obj)) (u : Str → Option Value) h tk, TriAll tl vs (out (rangeKs a₀ n)) → OwnOff tl [D] → Fr h₀ env.locals h (fun y => if y = x then u y else (fun z => if stored.contains z then u z else m₀ z) y) → News h₀ env.locals h ((D, listOf vs.toArray ep) :: (tl ++ rest)) → Q .next { s with heap := h, toks := tk }) :
    wpAny (model prog w) A (pyIter (.ref r)) (fun it s₂ => LoopAtV prog w A h₀ env x body Q E it s₂) E s := by
  have h0 : out [] = [] := List.length_eq_zero_iff.mp (Nat.le_zero.mp (hout []))
  refine own_range (NLled D rest) (fun _ => []) (NLok D) stored (fun pre c => c.rs = out pre) ⟨[], [], 0, []⟩ hh hr hsmall hn F N ⟨.nil, fun p hp => (nomatch hp), Nat.zero_le _⟩ (fun p hp => (nomatch hp)) h0.symm ?_ ?_
  · rintro ⟨vs, rs, ep, tl⟩ pre k t u h tk own ek hlt hoff ⟨hT, hO, hl⟩ hp F1 N1
    dsimp only at hp hT hO hl
    subst hp
    refine turn vs ep tl pre k t u h tk own ek hlt hoff ?_ ⟨hT, hO, hl⟩ ?_ F1 ?_
    · intro p hp b hb
      rcases List.mem_append.mp hp with hp | hp
      · exact hO p hp b hb
      · rcases List.mem_append.mp hp with hp | hp
        · exact hD p hp b hb
        · rw [List.mem_singleton.mp hb]; exact hoff p hp _ (.head _)
    · have := hT.length
      have := hout pre
      omega
    · rw [← List.append_assoc]; exact N1
  · rintro ⟨vs, rs, ep, tl⟩ u h tk ⟨hT, hO, _⟩ hp F1 N1
    dsimp only at hp hT hO
    subst hp
    exact done vs ep tl u h tk hT hO F1 N1
theorem rangeA_same {stored : List Str} {m₀ : Str → Option Value} {out : List Int → List (Int × Int × Int)} {pre : List Int} {k : Int} {D L : Addr} {rest tl own : List (Addr × Obj)} {vs : List Value} {ep : Nat} {m' : Str → Option Value} {s₁ : Shared} {h' : Heap} {tk : Nat}
    (F : Fr h₀ L h' m') (N : News h₀ L h' ((D, listOf vs.toArray ep) :: (tl ++ (rest ++ own)))) (hoff : TbOff own (NLled D rest ⟨vs, out pre, ep, tl⟩)) (ok : NLok D ⟨vs, out pre, ep, tl⟩)
    (hr : ∀ z, z ≠ x → (∀ p ∈ ([] : List (Str × Value)), z ≠ p.1) → stored.contains z = false → m' z = m₀ z) (e : out (pre ++ [k]) = out pre) :
    TbEnd h₀ L (KstS (NLled D rest) (fun _ => []) (NLok D) x stored m₀ (fun pre c => c.rs = out pre) (pre ++ [k])) own s₁ { s₁ with heap := h', toks := tk } := by
  refine own_end ⟨vs, out pre, ep, tl⟩ F N ?_ ?_ hoff ok (fun p hp => (nomatch hp)) hr e.symm
  · intro p hp
    rcases List.mem_cons.mp hp with rfl | hp
    · exact .head _
    · refine .tail _ ?_
      rcases List.mem_append.mp hp with hp | hp
      · exact List.mem_append.mpr (.inl hp)
      · exact List.mem_append.mpr (.inr (List.mem_append.mpr (.inl hp)))
  · intro p hp
    exact .tail _ (List.mem_append.mpr (.inr (List.mem_append.mpr (.inr hp))))
theorem rangeA_app {stored : List Str} {m₀ : Str → Option Value} {out : List Int → List (Int × Int × Int)} {pre : List Int} {k : Int} {D L T : Addr} {rest tl own : List (Addr × Obj)} {vs : List Value} {ep ep' : Nat} {m' : Str → Option Value} {s₁ : Shared} {h' : Heap} {tk : Nat} {a b c : Int} {t1 t2 t3 : Tok}
    (F : Fr h₀ L h' m') (N : News h₀ L h' ((T, tupO [.int a t1, .int b t2, .int c t3]) :: (D, listOf (vs ++ [Value.ref T]).toArray ep') :: (tl ++ (rest ++ own)))) (hlt : D < T ∧ AllLt T (tl ++ (rest ++ own))) (hoff : TbOff own (NLled D rest ⟨vs, out pre, ep, tl⟩)) (ok : NLok D ⟨vs, out pre, ep, tl⟩) (hl : pre.length < 1000) (hout : ∀ pre, (out pre).length ≤ pre.length)
    (hr : ∀ z, z ≠ x → (∀ p ∈ ([] : List (Str × Value)), z ≠ p.1) → stored.contains z = false → m' z = m₀ z) (e : out (pre ++ [k]) = out pre ++ [(a, b, c)]) :
    TbEnd h₀ L (KstS (NLled D rest) (fun _ => []) (NLok D) x stored m₀ (fun pre c => c.rs = out pre) (pre ++ [k])) own s₁ { s₁ with heap := h', toks := tk } := by
  obtain ⟨hT, hO, _⟩ := ok
  have lt := tb_ltOf hlt.2
  refine own_end ⟨vs ++ [Value.ref T], out (pre ++ [k]), ep', (T, tupO [.int a t1, .int b t2, .int c t3]) :: tl⟩ F N ?_ ?_ ?_ ⟨?_, ?_, ?_⟩ (fun p hp => (nomatch hp)) hr rfl
  · intro p hp
    rcases List.mem_cons.mp hp with rfl | hp
    · exact .tail _ (.head _)
    · rcases List.mem_cons.mp hp with rfl | hp
      · exact .head _
      · refine .tail _ (.tail _ ?_)
        rcases List.mem_append.mp hp with hp | hp
        · exact List.mem_append.mpr (.inl hp)
        · exact List.mem_append.mpr (.inr (List.mem_append.mpr (.inl hp)))
  · intro p hp
    exact .tail _ (.tail _ (List.mem_append.mpr (.inr (List.mem_append.mpr (.inr hp)))))
  · intro p hp q hq
    rcases List.mem_cons.mp hq with rfl | hq
    · exact hoff p hp (D, listOf vs.toArray ep) (.head _)
    · rcases List.mem_cons.mp hq with rfl | hq
      · exact Nat.ne_of_lt (lt p (List.mem_append.mpr (.inr (List.mem_append.mpr (.inr hp)))))
      · exact hoff p hp q (.tail _ hq)
  · rw [e]
    exact (hT.mono fun p hp => .tail _ hp).snoc ⟨T, t1, t2, t3, rfl, .head _⟩
  · intro p hp b' hb
    rcases List.mem_cons.mp hp with rfl | hp
    · rw [List.mem_singleton.mp hb]; exact (Nat.ne_of_lt hlt.1).symm
    · exact hO p hp b' hb
  · have := hout (pre ++ [k])
    rw [List.length_append, List.length_singleton] at this
    exact Nat.le_trans this (by omega)
end
end
-- text Sg
section
open PySem PySem.W PyProof.Rows PySem.Calls PySem.Spec
section
variable {M : Model} {A : Around} {R : GenEnd} {Y : Protocol} {n : Nat} {s₀ : Shared} {c : Code} {fs : List Frame} {s : Shared} {env : Env}
  {K : Flow → Sem Fin} {H : Value → Sem Fin} {gd : Bool → Bool} {lv : List Value → List Value}

/-- a statement that does not yield -/
theorem sg_exec {st : Stmt} (h : wpAny M (A.over c fs) (exec st env) (fun f s' => Seg M A R Y n s₀ c (K f) fs s') (fun x s' => Seg M A R Y n s₀ c (H x) fs s') s) :
    Seg M A R Y n s₀ c ((exec st env).wrap K H gd lv) fs s := seg_wrap h

theorem sg_If {test : PySem.Expr} {body orelse : List Stmt} {pos : Pos}
    (h : wpAny M (A.over c fs) (isTrue test env (eval test env)) (fun b s' => if b = true then Seg M A R Y n s₀ c ((execs body env).wrap K H gd lv) fs s' else Seg M A R Y n s₀ c ((execs orelse env).wrap K H gd lv) fs s') (fun x s' => Seg M A R Y n s₀ c (H x) fs s') s) :
    Seg M A R Y n s₀ c ((exec (.If test body orelse pos) env).wrap K H gd lv) fs s := by
  rw [exec_If]
  simp only [Sem.bind_eq_wrap', Sem.wrap_wrap]
  refine seg_wrap (wpAny_standAt ?_)
  refine seg_wrap (wpAny_mono h (fun b s' hb => ?_) fun _ _ x => x)
  cases b with
  | true => exact hb
  | false => exact hb

theorem sg_For {target iter : PySem.Expr} {body : List Stmt} {pos : Pos}
    (h : wpAny M (A.over c fs) (eval iter env) (fun x s₁ => wpAny M (A.over c fs) (pyIter x) (fun it s₂ => ∀ p, Seg M A R Y n s₀ (.forLoop target it body [] env) (M.den (.forLoop target it body [] env))
      (.ret (fun r => ((match r with | .ok f => (.pure f : Sem Flow) | .error e => .raise e).onRaise fun (x : Value) => do
        if (← field x 1) == Value.none then unsupported "frame.own-activation:exception-without-traceback"
        setFlight x env.frame).wrap K H gd lv) none (gd false) (lv []) c p [] :: fs) s₂) (fun x s' => Seg M A R Y n s₀ c (H x) fs s') s₁) (fun x s' => Seg M A R Y n s₀ c (H x) fs s') s)
    (hs : ∀ x, foldedSetIterable iter env x = pure x := by intro _; rfl) :
    Seg M A R Y n s₀ c ((exec (.For target iter body [] pos) env).wrap K H gd lv) fs s := by
  rw [exec_For]
  simp only [Sem.bind_eq_wrap', Sem.wrap_wrap]
  refine seg_wrap (wpAny_standAt ?_)
  refine seg_wrap (wpAny_mono h (fun x s₁ h₁ => ?_) fun _ _ x => x)
  rw [hs x]
  refine seg_wrap (wpAny_pure ?_)
  refine seg_wrap (wpAny_standAt ?_)
  refine seg_wrap (wpAny_holding (wpAny_mono h₁ (fun it s₂ h₂ => ?_) fun _ _ x => x))
  exact seg_call h₂
end
section
variable {prog : Program} {w : World} {A : Around} {R : GenEnd} {Y : Protocol} {n : Nat} {s₀ : Shared} {fs : List Frame} {s : Shared} {env : Env}
/-- what a turn of the loop does with a raise -/
noncomputable abbrev sgH (env : Env) (e : Value) : Sem Fin := (do noteFrame e env; theTreesLotGoes e : Sem Unit).wrap (fun _ => .raise e) .raise id id
noncomputable abbrev sgK (c : Code) (f : Flow) : Sem Fin := match f with
  | .next | .cont => .pure (.again c)
  | .brk => .pure (.done .next)
  | .ret v => .pure (.done (.ret v))
theorem sg_forLoop {target : PySem.Expr} {it : Value} {body : List Stmt}
    (h : wpAny (model prog w) (A.over (.forLoop target it body [] env) fs) (pyNext it) (fun o s₁ => match o with
      | none => Seg (model prog w) A R Y n s₀ (.block [] env) ((model prog w).den (.block [] env)) fs s₁
      | some v => wpAny (model prog w) (A.over (.forLoop target it body [] env) fs) (assign target env v) (fun _ s₂ => Seg (model prog w) A R Y n s₀ (.forLoop target it body [] env) ((execs body env).wrap (sgK (.forLoop target it body [] env)) (sgH env) id id) fs s₂) (fun _ _ => False) s₁) (fun _ _ => False) s)
    (ht : ∀ v, letOwnedTupleGo target it v = pure () := by intro _; rfl) :
    Seg (model prog w) A R Y n s₀ (.forLoop target it body [] env) ((model prog w).den (.forLoop target it body [] env)) fs s := by
  show Seg _ A R Y n s₀ _ ((forTurn target it body [] env).onRaise (fun x => do noteFrame x env; theTreesLotGoes x)) fs s
  unfold forTurn
  rw [Sem.onRaise_eq_wrap]
  simp only [Sem.bind_eq_wrap', Sem.wrap_wrap]
  refine seg_wrap (wpAny_standAt ?_)
  rw [Sem.onRaise_eq_wrap, Sem.wrap_wrap]
  refine seg_wrap (wpAny_mono h (fun o s₁ h₁ => ?_) fun _ _ x => x.elim)
  refine seg_wrap (m := Sem.pure o) (wpAny_pure ?_)
  cases o with
  | none => exact seg_again rfl h₁
  | some v =>
    simp only [Sem.wrap_wrap]
    rw [ht v]
    refine seg_wrap (wpAny_pure ?_)
    refine seg_wrap (wpAny_mono h₁ (fun _ s₂ h₂ => ?_) fun _ _ x => x.elim)
    rw [Sem.wrap_congr (execs body env) _ _ (K' := sgK (.forLoop target it body [] env)) (H' := sgH env) (fun f => by cases f <;> rfl) (fun e => by
      show Sem.bind _ _ = _
      rw [Sem.bind_eq_wrap]; simp only [sgH, Sem.bind_eq_wrap'])]
    exact h₂

theorem sg_forInd {c : Code} {t : Sem Fin} (J : Nat → Nat → Shared → Shared → Prop)
    (turn : ∀ n i s₀ s, J n i s₀ s → (∀ m, m < n → ∀ s₀' s', J m (i + 1) s₀' s' → Seg (model prog w) A R Y (m + 1) s₀' c t fs s') → Seg (model prog w) A R Y (n + 1) s₀ c t fs s) :
    ∀ n i s₀ s, J n i s₀ s → Seg (model prog w) A R Y (n + 1) s₀ c t fs s := by
  intro n
  induction n using Nat.strongRecOn with
  | _ n ih => exact fun i s₀ s hJ => turn n i s₀ s hJ fun m hm s₀' s' hJ' => ih m hm (i + 1) s₀' s' hJ'

theorem sg_blockNil {k h g l c₁ p₁ kp} (hk : Seg (model prog w) A R Y n s₀ c₁ (k (.ok .next)) fs s) :
    Seg (model prog w) A R Y n s₀ (.block [] env) ((model prog w).den (.block [] env)) (.ret k h g l c₁ p₁ kp :: fs) s :=
  seg_leaf (.ok .next) hk

/-- what the generator tells at a yield, and what it asks for to go on -/
noncomputable def gY (hB : Heap) (G I r : Addr) (lo : Obj) (f : Nat → Option Int) (N : Nat) : Protocol := fun m s₀ v s₁ κ => ∃ x t h₁ tk₁ oG oI, f (N - 1 - m) = some x ∧ v = .int x t ∧ s₁ = { s₀ with heap := h₁, toks := tk₁ } ∧
  (∀ b o, b ≠ G → b ≠ I → s₀.heap.get? b = some o → h₁.get? b = some o) ∧ h₁.get? G = some oG ∧ h₁.get? I = some oI ∧
  (0 < m → ∀ s₂ : Shared, s₂.heap.get? G = some oG → s₂.heap.get? I = some oI → s₂.heap.get? r = some lo → hB.StaysIn s₂.heap → κ (.send .none) s₂)
/-- what it leaves at its end -/
noncomputable def gP (G I : Addr) (f : Nat → Option Int) (N : Nat) (n : Nat) (s₀ s₁ : Shared) : Prop :=
  f (N - n) = none ∧ ∃ h₁ tk₁, s₁ = { s₀ with heap := h₁, toks := tk₁ } ∧ (∀ b o, b ≠ G → b ≠ I → s₀.heap.get? b = some o → h₁.get? b = some o)
noncomputable def gR (G I : Addr) (f : Nat → Option Int) (N : Nat) : GenEnd := fun n s₀ r s₁ => r = .ok (.ret .none) ∧ gP G I f N n s₀ s₁
/-- a generator that was made and not yet woken -/
noncomputable def Starts (M : Model) (hB : Heap) (G r : Addr) (lo : Obj) (m : Str → Option Value) (f : Nat → Option Int) (gs : GenState) : Prop :=
  ∀ (A : Around) (N : Nat) (s : Shared), A.handled = none → Fr hB G s.heap m → s.heap.get? r = some lo → gs.Goes M A.in1 (gR G s.heap.objs.size f (N + 1)) (gY hB G s.heap.objs.size r lo f (N + 1)) (N + 1) (.send .none) s
/-- the sizes told, one by one -/
noncomputable def stm : List Int → Option Int → Nat → Option Int
  | [], _, _ => none
  | x :: r, last, k => if x = 127 then none else if x = 0 then last else match k with
    | 0 => some x
    | k + 1 => stm r (some x) k
/-- the row is not refused -/
noncomputable def stmOk : List Int → Option Int → Prop
  | [], _ => True
  | x :: r, last => x = 127 ∨ (x = 0 ∧ last ≠ none) ∨ (x ≠ 127 ∧ x ≠ 0 ∧ stmOk r (some x))
end
section
variable {prog : Program} {w : World} {A : Around} {s : Shared} {h₀ : Heap} {L : Addr} {m mg mb : Str → Option Value} {K : Frag} {p : Program} {loose : List Str} {mean : ExcName → Option Value}
  {R : Result → Shared → Prop} {name qual : Str} {params : Arguments} {body : List Stmt} {scope : Scope} {dV kV doc pm cdv ct oc : Value} {an od : Option Addr} {osl : Array (Option Value)} {f : Addr} {args : Args} {binds : List (Str × Value)}
/-- a generator function called: its frame and its object are new -/
theorem own_gen (F : Fr h₀ L s.heap m) (X₀ : K.In h₀) (T : Top p loose mean mg mb h₀)
    (ho : K.lookup f = some ⟨oc, od, .func (fnOf name qual params body scope dV kV doc pm an cdv ct), osl⟩) (hcd : codeIn K cdv qual = true) (hroom : A.depth < recursionLimit)
    (hbind : BindsTo s (fnOf name qual params body scope dV kV doc pm an cdv ct) args binds) (hloc : ∀ y ∈ binds, scope.names.lookup y.1 = some .local)
    (h : ∀ G a h₁ tk, h₁.Ns G (fun y => binds.reverse.lookup y) → s.heap.StaysIn h₁ → h₁.IsGen a s.gens.size → G < a → s.heap.objs.size ≤ G → s.heap.get? G = none → s.heap.get? a = none → a < h₁.objs.size →
      R (.ok (.ret (.ref a))) { s with heap := h₁, gens := s.gens.push (.fresh (.func body (envOf qual scope G f cdv))), toks := tk })
    (hco : scope.isCoroutine = false) (hgen : scope.isGenerator = true) (hk : scope.kind = .function)
    (hcell : ∀ x ∈ scope.names, x.2 ≠ .cell) : codeAny (model prog w) A (.call (.ref f) args) R s := by
  refine codeAny_call_generator (fd := fnOf name qual params body scope dV kV doc pm an cdv ct) (body := body) hroom ((X₀.keeps F.keep) _ _ ho) rfl hco hgen rfl (codeRec_of (X₀.keeps F.keep) hcd) (hbind _ _ _ _ ?_)
  refine wpAny_newFunctionEnv hcell hloc (fun h₂ hns₂ hsb₂ => ⟨?_, ?_⟩) hk
  · exact (T.nolimit.keeps F.keep).fresh _ hsb₂
  · have k2 : s.heap.StaysIn h₂ := fun b o e => hsb₂.extBut b o (Nat.ne_of_lt (Heap.lt_size e)) (Heap.get?_push_of_some _ e)
    have hG : s.heap.objs.size < h₂.objs.size := by
      obtain ⟨o, _, _, e, _⟩ := hns₂
      exact Heap.lt_size e
    refine h s.heap.objs.size h₂.objs.size _ _ ?_ (fun b o e => Heap.get?_push_of_some _ (k2 b o e)) ⟨_, _, _, Heap.get?_push_size _ rfl, rfl, rfl, rfl⟩ hG (Nat.le_refl _) (Heap.get?_none_of_le (Nat.le_refl _)) (Heap.get?_none_of_le (Nat.le_of_lt hG)) ?_
    · exact hns₂.at' fun o e => Heap.get?_push_of_some _ e
    · rw [Heap.size_push]; exact Nat.lt_succ_self _
end
noncomputable abbrev gm (r : Addr) (lv : Value) (iv : Option Value) : Str → Option Value := fun y => if y = Str.ofString "interval" then iv else if y = Str.ofString "last_interval" then some lv else if y = Str.ofString "grouping" then some (.ref r) else none
noncomputable abbrev lastV (last : Option Int) (t : Tok) : Value := match last with
  | none => .none
  | some x => .int x t
theorem lookup_one (y a : Str) (v : Value) : List.lookup y [(a, v)] = if y = a then some v else none := by
  rw [List.lookup_cons]
  by_cases h : y = a
  · subst h; simp
  · simp [h, beq_eq_false_iff_ne.mpr h]
theorem gm_0 (r : Addr) : (fun y => if y = Str.ofString "last_interval" then some Value.none else List.lookup y [(Str.ofString "grouping", Value.ref r)]) = gm r .none none := by
  funext y
  rw [lookup_one]
  by_cases h : y = Str.ofString "interval"
  · subst h; simp [gm, show Str.ofString "interval" ≠ Str.ofString "last_interval" by decide, show Str.ofString "interval" ≠ Str.ofString "grouping" by decide]
  · simp [gm, h]
theorem gm_int (r : Addr) (lv v : Value) (iv : Option Value) : (fun y => if y = Str.ofString "interval" then some v else gm r lv iv y) = gm r lv (some v) := by
  funext y
  by_cases h : y = Str.ofString "interval" <;> simp [gm, h]
theorem gm_last (r : Addr) (lv v : Value) (iv : Option Value) : (fun y => if y = Str.ofString "last_interval" then some v else gm r lv iv y) = gm r v iv := by
  funext y
  by_cases h : y = Str.ofString "last_interval"
  · subst h; simp [gm, show Str.ofString "last_interval" ≠ Str.ofString "interval" by decide]
  · simp [gm, h]
/-- the loop's words -/
noncomputable def gJ (h₀ : Heap) (G I r : Addr) (lo : Obj) (ns : List Int) (N : Nat) (n i : Nat) (s₀ s : Shared) : Prop :=
  ∃ (last : Option Int) (t : Tok) (iv : Option Value) (h : Heap) (tk : Nat), s = { s₀ with heap := h, toks := tk } ∧ (∀ b o, b ≠ G → b ≠ I → s₀.heap.get? b = some o → h.get? b = some o) ∧
    Fr h₀ G h (gm r (lastV last t) iv) ∧ h.IsListIter I r i ∧ h.get? r = some lo ∧ i ≤ ns.length ∧ stmOk (ns.drop i) last ∧ n ≤ N ∧ ∀ k, stm ns none (N - n + k) = stm (ns.drop i) last k
end
-- text GenLoop
section
open PySem PySem.W PyProof.Rows PySem.Calls PySem.Spec
section
variable {prog : Program} {w : World} {A : Around} {E : Value → Shared → Prop} {s : Shared}
/-- next(g) of a generator that ends by a plain return -/
theorem own_nextG {a : Addr} {g n : Nat} {gs : GenState} {P : Nat → Shared → Shared → Prop} {Y : Protocol} {Q : Option Value → Shared → Prop} (hh : A.handled = none)
    (hl : s.heap.NoLimit) (hroom : A.depth < recursionLimit) (hg : s.heap.IsGen a g) (hgs : s.gens[g]? = some gs)
    (hgo : gs.Goes (model prog w) A.in1 (fun n s₀ r s₁ => r = .ok (.ret .none) ∧ P n s₀ s₁) Y n (.send .none) (s.setGen g .running))
    (hY : ∀ v s₁ gs', gs'.bare = true → Y (n - 1) (s.setGen g .running) v s₁ (fun r' s'' => match n with
        | 0 => False
        | m + 1 => gs'.Goes (model prog w) A.in1 (fun n s₀ r s₁ => r = .ok (.ret .none) ∧ P n s₀ s₁) Y m r' s'') → Q (some v) (s₁.setGen g gs'))
    (hP : ∀ s₁, P n (s.setGen g .running) s₁ → ∀ h', (∀ b o, s₁.heap.get? b = some o → h'.get? b = some o) → Q none { s₁.setGen g .finished with heap := h' }) :
    wpAny (model prog w) A (pyNext (.ref a)) Q E s := by
  unfold pyNext
  refine wpAny_bind (wpAny_attempt (wpAny_callSpecial?_slot (name := Str.ofString "__next__") hg.typeIs slot_gen_next
    (wpAny_call_entry slot_gen_next hg.typeIs entry_gen_next ?_ (args_gen_next _))))
  show wpAny _ _ (Builtin.Generator.genWake (.ref a) (.send .none)) _ _ s
  unfold Builtin.Generator.genWake
  refine wpAny_bind (wpAny_holding (wpAny_genNumber hg (wpAny_bind (wpAny_genState hgs ?_))))
  cases gs with
  | running => exact hgo.elim
  | finished => exact hgo.elim
  | _ =>
    refine wpAny_bind (wpAny_roomToWake hl hroom ?_)
    refine wpAny_resumeQ (l := []) hgs hgo (fun x s₁ hx => ?_) fun v s₁ gs' hb hv => wpAny_pure ⟨v, rfl, wpAny_pure (hY v s₁ gs' hb hv)⟩
    obtain ⟨rfl, hp⟩ := hx
    show wpAny _ _ (newExc (.type "StopIteration") [] >>= _) _ _ _
    simp only [newExc, newTuple]
    refine wpAny_bind (wpAny_bind (wpAny_newObj_type (wpAny_bind (m := firstArgMember _ _) (wpAny_of_eq (a := Value.none) rfl (wpAny_newObj_type ?_ (by size_fits)))) (by size_fits)))
    simp only [raiseNew]
    refine wpAny_bind (wpAny_bind (wpAny_handled ?_))
    rw [show A.in1.handled = none from hh]
    exact wpAny_throw (wpAny_bind (wpAny_isInstance (T := "StopIteration") (b := true) ⟨_, Heap.get?_push_size _ rfl, rfl⟩ isSubtype_stop (wpAny_pure (hP s₁ hp _ fun b o hb => Heap.get?_push_of_some _ (Heap.get?_push_of_some _ hb)))))
end

section
variable {prog : Program} {w : World} {A : Around} {s : Shared} {env : Env} {h₀ : Heap} {x : Str} {body : List Stmt} {Q : Flow → Shared → Prop} {E : Value → Shared → Prop}
theorem setGen_bare {g : Array GenState} {gi : Nat} {y : GenState} (h : AllBare g) (hy : y.bare = true) : AllBare (g.setIfInBounds gi y) := fun z hz => by
  rcases Array.mem_or_eq_of_mem_setIfInBounds hz with q | q
  · exact h z q
  · rw [q]; exact hy
/-- a turn's end where the generators changed: as TbPost -/
theorem own_genLoop {a G r gi N : Nat} {lo : Obj} {m' m : Str → Option Value} {f : Nat → Option Int} {gs : GenState} {news : List (Addr × Obj)} {px : Pos} (J : Nat → (Str → Option Value) → List (Addr × Obj) → Prop)
    (S : Starts (model prog w) h₀ G r lo m' f gs) (hA : A.handled = none) (hroom : A.depth < recursionLimit) (hlim : ∀ h : Heap, h₀.StaysIn h → h.NoLimit) (hx : env.kindOf x = some .local)
    (hp : (env.scope.kind == .class || (env.scope.kind == .module && env.locals != env.globals)) = false)
    (F : Fr h₀ env.locals s.heap m) (N₀ : News h₀ env.locals s.heap news) (FG : Fr h₀ G s.heap m') (hg : s.heap.IsGen a gi) (hgs : s.gens[gi]? = some gs) (hb : AllBare s.gens)
    (hGL : G ≠ env.locals) (haL : a ≠ env.locals) (hGa : G ≠ a) (ha0 : h₀.get? a = none) (hG0 : h₀.get? G = none) (hoff : ∀ p ∈ news, p.1 ≠ G ∧ p.1 ≠ a)
    (hrG : r ≠ G) (hrk : ∀ i m₁ nx h, J i m₁ nx → News h₀ env.locals h nx → h₀.StaysIn h → h.get? r = some lo) (h0 : J 0 m news)
    (turn : ∀ i v t m₁ nx h tk g' own, i ≤ N → f i = some v → J i m₁ nx → TbOff own nx → AllBare g' → Fr h₀ env.locals h (fun y => if y = x then some (.int v t) else m₁ y) → News h₀ env.locals h (nx ++ own) →
      wpAny (model prog w) A (execs body env) (TbPost h₀ env.locals (fun m n => i + 1 ≤ N ∧ J (i + 1) m n) own { s with heap := h, toks := tk, gens := g' } Q) E { s with heap := h, toks := tk, gens := g' })
    (done : ∀ i m₁ nx h tk g', i ≤ N → f i = none → J i m₁ nx → AllBare g' → Fr h₀ env.locals h m₁ → News h₀ env.locals h nx → Q .next { s with heap := h, toks := tk, gens := g' })
    (hE : PassesOwn (model prog w) A env E := by passes_own) :
    codeAny (model prog w) A (.forLoop (.Name x px) (.ref a) body [] env) (fun r s' => match r with | .ok f => Q f s' | .error e => cameBackBy (model prog w) A env E e s') s := by
  obtain ⟨oa, nm, qn, hoa, hoc, hod, hos⟩ := id hg
  have isGen : ∀ h : Heap, h.get? a = some oa → h.IsGen a gi := fun h e => ⟨oa, nm, qn, e, hoc, hod, hos⟩
  obtain ⟨oG, _, _, hoG, _⟩ := id FG.ns
  let Wk (I : Addr) (gs' : GenState) (q : Nat) (s₂ : Shared) : Prop := gs'.Goes (model prog w) A.in1 (gR G I f (N + 1)) (gY h₀ G I r lo f (N + 1)) (q + 1) (.send .none) s₂
  refine codeAny_forLoop (fun k s' => ∃ i h' tk' g' m₁ nx own gs', s' = { s with heap := h', toks := tk', gens := g' } ∧ i ≤ N ∧ k = N + 1 - i ∧ J i m₁ nx ∧ AllBare g' ∧ g'[gi]? = some gs' ∧ Fr h₀ env.locals h' m₁ ∧ News h₀ env.locals h' (nx ++ own) ∧ TbOff own nx ∧
    ((i = 0 ∧ gs' = gs ∧ Fr h₀ G h' m' ∧ own = [(a, oa), (G, oG)]) ∨ ∃ I oG' oI, own = [(a, oa), (G, oG'), (I, oI)] ∧ a ≠ I ∧ h₀.get? I = none ∧ ∀ s₂ : Shared, s₂.heap.get? G = some oG' → s₂.heap.get? I = some oI → s₂.heap.get? r = some lo → h₀.StaysIn s₂.heap → Wk I gs' (N - i) s₂)) ?_ (N + 1) ?_
  · rintro k s' ⟨i, h', tk', g', m₁, nx, own, gs', rfl, hi, rfl, hJ, hgb, hgg, F', N', hoff', ph⟩
    have hoa' : h'.get? a = some oa ∧ (a, oa) ∈ own := by
      rcases ph with ⟨_, _, _, rfl⟩ | ⟨I, oG', oI, rfl, _⟩
      · exact ⟨(N' (a, oa) (List.mem_append.mpr (.inr (.head _)))).1, .head _⟩
      · exact ⟨(N' (a, oa) (List.mem_append.mpr (.inr (.head _)))).1, .head _⟩
    have hr' : h'.get? r = some lo := hrk i m₁ nx h' hJ (fun p hp => N' p (List.mem_append.mpr (.inl hp))) F'.keep
    obtain ⟨I, hLI, haI, hI0, hnxI, hgo⟩ : ∃ I, env.locals ≠ I ∧ a ≠ I ∧ h₀.get? I = none ∧ (∀ p ∈ nx, p.1 ≠ G ∧ p.1 ≠ I) ∧ Wk I gs' (N - i) (Shared.setGen { s with heap := h', toks := tk', gens := g' } gi .running) := by
      rcases ph with ⟨rfl, rfl, FG', rfl⟩ | ⟨I, oG', oI, rfl, haI, hI0, hw⟩
      · refine ⟨h'.objs.size, Nat.ne_of_lt F'.ns.lt, Nat.ne_of_lt (Heap.lt_size hoa'.1), next_is_new F', fun p hp => ⟨?_, ?_⟩, ?_⟩
        · exact fun q => hoff' (G, oG) (.tail _ (.head _)) p hp q.symm
        · exact Nat.ne_of_lt (Heap.lt_size (N' p (List.mem_append.mpr (.inl hp))).1)
        · exact S A N _ hA FG' hr'
      · refine ⟨I, ?_, haI, hI0, fun p hp => ⟨?_, ?_⟩, ?_⟩
        · exact (N' (I, oI) (by simp)).2.1.symm
        · exact fun q => hoff' (G, oG') (.tail _ (.head _)) p hp q.symm
        · exact fun q => hoff' (I, oI) (.tail _ (.tail _ (.head _))) p hp q.symm
        · exact hw _ (N' (G, oG') (by simp)).1 (N' (I, oI) (by simp)).1 hr' F'.keep
    have old : ∀ b o, h₀.get? b = some o → b ≠ G ∧ b ≠ I := fun b o e => ⟨fun q => (by rw [q, hG0] at e; cases e), fun q => (by rw [q, hI0] at e; cases e)⟩
    have nextF : ∀ h₁ : Heap, (∀ b o, b ≠ G → b ≠ I → h'.get? b = some o → h₁.get? b = some o) → Fr h₀ env.locals h₁ m₁ := fun h₁ kp =>
      ⟨F'.ns.at' fun o e => kp _ o hGL.symm hLI e, fun b o e => kp b o (old b o e).1 (old b o e).2 (F'.keep b o e), F'.above⟩
    have nextN : ∀ h₁ : Heap, (∀ b o, b ≠ G → b ≠ I → h'.get? b = some o → h₁.get? b = some o) → News h₀ env.locals h₁ nx := fun h₁ kp p hp =>
      ⟨kp _ _ (hnxI p hp).1 (hnxI p hp).2 (N' p (List.mem_append.mpr (.inl hp))).1, (N' p (List.mem_append.mpr (.inl hp))).2⟩
    refine own_nextG (n := N - i + 1) hA (hlim _ F'.keep) hroom (isGen _ hoa'.1) hgg hgo ?_ ?_
    · rintro v s₁ gs'' hb'' ⟨x', t', h₁, tk₁, oG', oI', hf, rfl, rfl, kp, eG, eI, hκ⟩
      have hfi : f i = some x' := by
        rw [show N + 1 - 1 - (N - i + 1 - 1) = i by omega] at hf
        exact hf
      have F₁ := nextF h₁ kp
      have N₁ := nextN h₁ kp
      have ea : h₁.get? a = some oa := kp a oa hGa.symm haI hoa'.1
      refine wpAny_assign_Name (wpAny_storeName_local hx F₁.ns (fun h₂ hn₂ hs₂ => ?_) hp)
      have N₂ : News h₀ env.locals h₂ (nx ++ [(a, oa), (G, oG'), (I, oI')]) := by
        refine News.append (N₁.set hs₂) ?_
        intro p hp
        simp only [List.mem_cons, List.not_mem_nil, or_false] at hp
        rcases hp with rfl | rfl | rfl
        · exact ⟨(hs₂.2 _ haL).trans ea, haL, ha0⟩
        · exact ⟨(hs₂.2 _ hGL).trans eG, hGL, hG0⟩
        · exact ⟨(hs₂.2 _ hLI.symm).trans eI, hLI.symm, hI0⟩
      have off₂ : TbOff [(a, oa), (G, oG'), (I, oI')] nx := by
        intro p hp q hq
        simp only [List.mem_cons, List.not_mem_nil, or_false] at hp
        rcases hp with rfl | rfl | rfl
        · exact hoff' (a, oa) hoa'.2 q hq
        · exact (hnxI q hq).1.symm
        · exact (hnxI q hq).2.symm
      refine wpAny_mono (wpAny_passesOwn hE (turn i x' t' m₁ nx h₂ _ _ [(a, oa), (G, oG'), (I, oI')] hi hfi hJ off₂ (setGen_bare (setGen_bare hgb rfl) hb'') (F₁.set hn₂ hs₂) N₂)) (fun fl s₃ h₃ => ?_) fun _ _ e => e
      cases fl with
      | ret v => exact h₃
      | brk => exact h₃
      | _ =>
        obtain ⟨h3, tk3, m3, news3, nx3, rfl, F3, N3, hnx3, hown3, hoff3, hi1, hJ3⟩ := h₃
        refine ⟨N + 1 - (i + 1), by omega, i + 1, h3, tk3, _, m3, nx3, [(a, oa), (G, oG'), (I, oI')], gs'', rfl, hi1, rfl, hJ3, setGen_bare (setGen_bare hgb rfl) hb'', ?_, F3, fun p hp => N3 p ((List.mem_append.mp hp).elim (hnx3 p) (hown3 p)), hoff3, .inr ⟨I, oG', oI', rfl, haI, hI0, fun s₂ e1 e2 e3 e4 => ?_⟩⟩
        · have hlt : gi < g'.size := (Array.getElem?_eq_some_iff.mp hgg).1
          show ((g'.setIfInBounds gi .running).setIfInBounds gi gs'')[gi]? = some gs''
          simp [hlt]
        · have z := hκ (by omega) s₂ e1 e2 e3 e4
          obtain ⟨q, hq⟩ : ∃ q, N - i = q + 1 := ⟨N - i - 1, by omega⟩
          show gs''.Goes _ _ _ _ (N - (i + 1) + 1) _ s₂
          rw [show N - (i + 1) + 1 = N - i by omega]
          exact z
    · rintro s₁ ⟨hf, h₁, tk₁, rfl, kp⟩ h'' hk''
      have hfi : f i = none := by
        rw [show N + 1 - (N - i + 1) = i by omega] at hf
        exact hf
      have kp' : ∀ b o, b ≠ G → b ≠ I → h'.get? b = some o → h''.get? b = some o := fun b o b1 b2 e => hk'' b o (kp b o b1 b2 e)
      exact wpAny_execs_nil (done i m₁ nx h'' tk₁ _ hi hfi hJ (setGen_bare (setGen_bare hgb rfl) rfl) (nextF h'' kp') (nextN h'' kp'))
  · refine ⟨0, s.heap, s.toks, s.gens, m, news, [(a, oa), (G, oG)], gs, rfl, Nat.zero_le _, rfl, h0, hb, hgs, F, ?_, ?_, .inl ⟨rfl, rfl, FG, rfl⟩⟩
    · refine News.append N₀ ?_
      intro p hp
      simp only [List.mem_cons, List.not_mem_nil, or_false] at hp
      rcases hp with rfl | rfl
      · exact ⟨hoa, haL, ha0⟩
      · exact ⟨hoG, hGL, hG0⟩
    · intro p hp q hq
      simp only [List.mem_cons, List.not_mem_nil, or_false] at hp
      rcases hp with rfl | rfl
      · exact (hoff q hq).2.symm
      · exact (hoff q hq).1.symm
end
end
-- text LoopG
section
open PySem PySem.W PyProof.Rows PySem.Calls PySem.Spec
section
variable {prog : Program} {w : World} {A : Around} {s : Shared} {env : Env} {h₀ : Heap} {x : Str} {body : List Stmt} {Q : Flow → Shared → Prop} {E : Value → Shared → Prop}
/-- a turn's end, the generators changed -/
noncomputable def GEnd (h₀ : Heap) (L : Addr) (J : (Str → Option Value) → List (Addr × Obj) → Prop) (own : List (Addr × Obj)) (s s₂ : Shared) : Prop :=
  ∃ h' tk g' m' news' nx, s₂ = { s with heap := h', toks := tk, gens := g' } ∧ AllBare g' ∧ Fr h₀ L h' m' ∧ News h₀ L h' news' ∧ (∀ p ∈ nx, p ∈ news') ∧ (∀ p ∈ own, p ∈ news') ∧ TbOff own nx ∧ J m' nx
noncomputable def GPost (h₀ : Heap) (L : Addr) (J : (Str → Option Value) → List (Addr × Obj) → Prop) (own : List (Addr × Obj)) (s : Shared) (Q : Flow → Shared → Prop) (f : Flow) (s₂ : Shared) : Prop :=
  match f with
  | .ret v => Q (.ret v) s₂
  | .brk => Q .next s₂
  | _ => GEnd h₀ L J own s s₂
/-- a loop on any walk whose turns change the generators -/
theorem own_loopG {I : Addr} {fp : List Addr} {n : Nat} {Pv : Nat → Value → Prop} {St : Nat → Heap → Prop} {m₀ : Str → Option Value} {news : List (Addr × Obj)} {px : Pos} (J : Nat → (Str → Option Value) → List (Addr × Obj) → Prop)
    (W : Walks prog w A I fp [I] n Pv St) (hLf : env.locals ∉ fp) (hI : h₀.get? I = none) (hn : ∀ p ∈ news, p.1 ≠ I) (hst : St 0 s.heap) (hIf : I ∈ fp) (hfx : ∀ b ∈ fp, b ≠ I → ∃ o, h₀.get? b = some o ∨ ∀ i m nx, J i m nx → (b, o) ∈ nx)
    (hlive : ∀ i h, St i h → ∃ o, h.get? I = some o) (hx : env.kindOf x = some .local)
    (hp : (env.scope.kind == .class || (env.scope.kind == .module && env.locals != env.globals)) = false) (F : Fr h₀ env.locals s.heap m₀) (N : News h₀ env.locals s.heap news) (hb : AllBare s.gens) (hj : J 0 m₀ news)
    (turn : ∀ i v m₁ nx h tk g own, i < n → Pv i v → TbOff own nx → J i m₁ nx → AllBare g → Fr h₀ env.locals h (fun y => if y = x then some v else m₁ y) → News h₀ env.locals h (nx ++ own) →
      wpAny (model prog w) A (execs body env) (GPost h₀ env.locals (J (i + 1)) own s Q) E { s with heap := h, toks := tk, gens := g })
    (done : ∀ m₁ nx h tk g, J n m₁ nx → AllBare g → Fr h₀ env.locals h m₁ → News h₀ env.locals h nx → Q .next { s with heap := h, toks := tk, gens := g })
    (hE : PassesOwn (model prog w) A env E := by passes_own) :
    codeAny (model prog w) A (.forLoop (.Name x px) (.ref I) body [] env) (fun r s' => match r with | .ok f => Q f s' | .error e => cameBackBy (model prog w) A env E e s') s := by
  have hLI : env.locals ≠ I := fun q => hLf (q ▸ hIf)
  have old : ∀ b o, h₀.get? b = some o → b ∉ [I] := fun b o e q => by rw [List.mem_singleton.mp q, hI] at e; cases e
  refine codeAny_forLoop (fun k s' => ∃ i h' tk' g' m₁ nx oI, s' = { s with heap := h', toks := tk', gens := g' } ∧ i ≤ n ∧ k = n + 1 - i ∧ J i m₁ nx ∧ AllBare g' ∧ St i h' ∧ h'.get? I = some oI ∧ Fr h₀ env.locals h' m₁ ∧ News h₀ env.locals h' nx ∧ ∀ p ∈ nx, p.1 ≠ I) ?_ (n + 1) ?_
  · rintro k s' ⟨i, h', tk', g', m₁, nx, oI, rfl, hi, rfl, hJ, hgb, hst', hoI, F', N', hnI⟩
    have next : ∀ h₁ : Heap, (∀ b o, b ∉ [I] → h'.get? b = some o → h₁.get? b = some o) → Fr h₀ env.locals h₁ m₁ ∧ News h₀ env.locals h₁ nx := fun h₁ hk₁ =>
      ⟨⟨F'.ns.at' fun o e => hk₁ _ o (fun q => hLI (List.mem_singleton.mp q)) e, fun b o e => hk₁ b o (old b o e) (F'.keep b o e), F'.above⟩, fun p hp => ⟨hk₁ _ _ (fun q => hnI p hp (List.mem_singleton.mp q)) (N' p hp).1, (N' p hp).2⟩⟩
    by_cases hlt : i < n
    · refine W.item i _ _ _ hlt hst' fun v h₁ tk₁ hP hst₁ hk₁ => ?_
      obtain ⟨F₁, N₁⟩ := next h₁ hk₁
      refine wpAny_assign_Name (wpAny_storeName_local hx F₁.ns (fun h₂ hn₂ hs₂ => ?_) hp)
      obtain ⟨oI', hoI'⟩ := hlive _ _ hst₁
      have eI : h₂.get? I = some oI' := (hs₂.2 _ hLI.symm).trans hoI'
      have N₂ : News h₀ env.locals h₂ (nx ++ [(I, oI')]) := News.append (N₁.set hs₂) fun p hp => by
        rw [List.mem_singleton.mp hp]; exact ⟨eI, hLI.symm, hI⟩
      have off₂ : TbOff [(I, oI')] nx := fun p hp q hq => by
        rw [List.mem_singleton.mp hp]; exact (hnI q hq).symm
      have hst₂ : St (i + 1) h₂ := W.frame _ _ _ hst₁ fun b hb' o e => (hs₂.2 b fun q => hLf (q ▸ hb')).trans e
      refine wpAny_mono (wpAny_passesOwn hE (turn i v m₁ nx h₂ _ _ [(I, oI')] hlt hP off₂ hJ hgb (F₁.set hn₂ hs₂) N₂)) (fun fl s₃ h₃ => ?_) fun _ _ e => e
      cases fl with
      | ret v => exact h₃
      | brk => exact h₃
      | _ =>
        obtain ⟨h3, tk3, g3, m3, news3, nx3, rfl, hb3, F3, N3, hnx3, hown3, hoff3, hJ3⟩ := h₃
        refine ⟨n + 1 - (i + 1), by omega, i + 1, h3, tk3, g3, m3, nx3, oI', rfl, hlt, rfl, hJ3, hb3, W.frame _ _ _ hst₂ fun b hb' o e => ?_, (N3 _ (hown3 _ (.head _))).1, F3, fun p hp => N3 p (hnx3 p hp), fun p hp => (hoff3 (I, oI') (.head _) p hp).symm⟩
        by_cases q : b = I
        · subst q
          rw [eI] at e; cases e
          exact (N3 _ (hown3 _ (.head _))).1
        · obtain ⟨o', ho'⟩ := hfx b hb' q
          rcases ho' with ho' | ho'
          · have z := (F₁.set hn₂ hs₂).keep b o' ho'
            rw [z] at e; cases e
            exact F3.keep b _ ho'
          · have z := (N₂ (b, o') (List.mem_append.mpr (.inl (ho' _ _ _ hJ)))).1
            rw [z] at e; cases e
            exact (N3 (b, _) (hnx3 _ (ho' _ _ _ hJ3))).1
    · have hin : i = n := by omega
      subst hin
      refine W.done _ _ _ hst' fun h₁ tk₁ hk₁ => wpAny_execs_nil ?_
      obtain ⟨F₁, N₁⟩ := next h₁ hk₁
      exact done m₁ nx h₁ tk₁ _ hJ hgb F₁ N₁
  · obtain ⟨oI, hoI⟩ := hlive _ _ hst
    exact ⟨0, s.heap, s.toks, s.gens, m₀, news, oI, rfl, Nat.zero_le _, rfl, hj, hb, hst, hoI, F, N, hn⟩

/-- for n in xs, a list of ints that lies below; the generators change -/
theorem own_listG {l : Addr} {vs : List Value} {ns : List Int} {m₀ : Str → Option Value} {news : List (Addr × Obj)} {px : Pos} (J : Nat → (Str → Option Value) → List (Addr × Obj) → Prop)
    (hh : A.handled = none) (hl : h₀.IsList l vs.toArray) (hi : IntsAre vs ns) (hx : env.kindOf x = some .local)
    (hp : (env.scope.kind == .class || (env.scope.kind == .module && env.locals != env.globals)) = false) (F : Fr h₀ env.locals s.heap m₀) (N : News h₀ env.locals s.heap news) (hb : AllBare s.gens) (hj : J 0 m₀ news)
    (turn : ∀ i n t m₁ nx h tk g own, ns[i]? = some n → TbOff own nx → J i m₁ nx → AllBare g → Fr h₀ env.locals h (fun y => if y = x then some (.int n t) else m₁ y) → News h₀ env.locals h (nx ++ own) →
      wpAny (model prog w) A (execs body env) (GPost h₀ env.locals (J (i + 1)) own s Q) E { s with heap := h, toks := tk, gens := g })
    (done : ∀ m₁ nx h tk g, J ns.length m₁ nx → AllBare g → Fr h₀ env.locals h m₁ → News h₀ env.locals h nx → Q .next { s with heap := h, toks := tk, gens := g })
    (hE : PassesOwn (model prog w) A env E := by passes_own) :
    wpAny (model prog w) A (pyIter (.ref l)) (fun it s₂ => codeAny (model prog w) A (.forLoop (.Name x px) it body [] env) (fun r s' => match r with | .ok f => Q f s' | .error e => cameBackBy (model prog w) A env E e s') s₂) E s := by
  have hls : s.heap.IsList l vs.toArray := hl.at fun o e => F.keep l o e
  obtain ⟨ol, hol, _⟩ := id hl
  have hlt : l < h₀.objs.size := Heap.lt_size hol
  have hne : l ≠ s.heap.objs.size := Nat.ne_of_lt (Nat.lt_trans (Nat.lt_of_lt_of_le hlt F.above) F.ns.lt)
  have hlen : vs.toArray.size = ns.length := by simp [hi.length]
  refine wpAny_pyIter_list hls ?_
  have W := Walks.list (prog := prog) (w := w) hh s.heap.objs.size l hne vs.toArray
  rw [hlen] at W
  refine own_loopG (s := { s with heap := s.heap.push _ }) J W ?_ (next_is_new F) ?_ ⟨⟨_, Heap.get?_push_size _ rfl, rfl, rfl⟩, hls.at fun o e => Heap.get?_push_of_some _ e⟩ (.head _) ?_ (fun i h st => let ⟨⟨o, ho, _⟩, _⟩ := st; ⟨o, ho⟩) hx hp (F.push _) (fun p hp => ⟨Heap.get?_push_of_some _ (N p hp).1, (N p hp).2⟩) hb hj ?_ done hE
  · intro hm
    rcases List.mem_cons.mp hm with e | hm
    · exact absurd F.ns.lt (e ▸ Nat.lt_irrefl _)
    · exact absurd (Nat.lt_of_lt_of_le hlt F.above) ((List.mem_singleton.mp hm) ▸ Nat.lt_irrefl _)
  · intro p hp hq
    exact absurd (Heap.lt_size (N p hp).1) (hq ▸ Nat.lt_irrefl _)
  · intro b hb' hq
    rcases List.mem_cons.mp hb' with e | hm
    · exact absurd e hq
    · exact ⟨ol, .inl ((List.mem_singleton.mp hm) ▸ hol)⟩
  · intro i v m₁ nx h tk g own hin hP hoff hJ hgb F₁ N₁
    obtain ⟨t, hx9⟩ := hi.get i ns[i] (by simp [hin])
    have hv : v = .int ns[i] t := by
      have hP' : vs[i]? = some v := by simpa using hP
      rw [hx9] at hP'; exact (Option.some.inj hP').symm
    subst hv
    exact turn i ns[i] t m₁ nx h tk g own (by simp [hin]) hoff hJ hgb F₁ N₁

/-- for n in xs, a list of ints of the ledger -/
theorem own_listN {l : Addr} {vs : List Value} {k₀ : Nat} {ns : List Int} {m₀ : Str → Option Value} {news : List (Addr × Obj)} {px : Pos} (J : Nat → (Str → Option Value) → List (Addr × Obj) → Prop)
    (hh : A.handled = none) (hl : ∀ i m nx, J i m nx → (l, listOf vs.toArray k₀) ∈ nx) (hi : IntsAre vs ns) (hx : env.kindOf x = some .local)
    (hp : (env.scope.kind == .class || (env.scope.kind == .module && env.locals != env.globals)) = false) (F : Fr h₀ env.locals s.heap m₀) (N : News h₀ env.locals s.heap news) (hb : AllBare s.gens) (hj : J 0 m₀ news)
    (turn : ∀ i n t m₁ nx h tk g own, ns[i]? = some n → TbOff own nx → J i m₁ nx → AllBare g → Fr h₀ env.locals h (fun y => if y = x then some (.int n t) else m₁ y) → News h₀ env.locals h (nx ++ own) →
      wpAny (model prog w) A (execs body env) (GPost h₀ env.locals (J (i + 1)) own s Q) E { s with heap := h, toks := tk, gens := g })
    (done : ∀ m₁ nx h tk g, J ns.length m₁ nx → AllBare g → Fr h₀ env.locals h m₁ → News h₀ env.locals h nx → Q .next { s with heap := h, toks := tk, gens := g })
    (hE : PassesOwn (model prog w) A env E := by passes_own) :
    wpAny (model prog w) A (pyIter (.ref l)) (fun it s₂ => codeAny (model prog w) A (.forLoop (.Name x px) it body [] env) (fun r s' => match r with | .ok f => Q f s' | .error e => cameBackBy (model prog w) A env E e s') s₂) E s := by
  have hm := hl _ _ _ hj
  have hls : s.heap.IsList l vs.toArray := ⟨_, (N _ hm).1, rfl, _, rfl⟩
  have hlt : l < s.heap.objs.size := Heap.lt_size (N _ hm).1
  have hne : l ≠ s.heap.objs.size := Nat.ne_of_lt hlt
  have hlL : l ≠ env.locals := (N _ hm).2.1
  have hlen : vs.toArray.size = ns.length := by simp [hi.length]
  refine wpAny_pyIter_list hls ?_
  have W := Walks.list (prog := prog) (w := w) hh s.heap.objs.size l hne vs.toArray
  rw [hlen] at W
  refine own_loopG (s := { s with heap := s.heap.push _ }) J W ?_ (next_is_new F) ?_ ⟨⟨_, Heap.get?_push_size _ rfl, rfl, rfl⟩, hls.at fun o e => Heap.get?_push_of_some _ e⟩ (.head _) ?_ (fun i h st => let ⟨⟨o, ho, _⟩, _⟩ := st; ⟨o, ho⟩) hx hp (F.push _) (fun p hp => ⟨Heap.get?_push_of_some _ (N p hp).1, (N p hp).2⟩) hb hj ?_ done hE
  · intro hm'
    rcases List.mem_cons.mp hm' with e | hm'
    · exact absurd F.ns.lt (e ▸ Nat.lt_irrefl _)
    · exact hlL (List.mem_singleton.mp hm').symm
  · intro p hp hq
    exact absurd (Heap.lt_size (N p hp).1) (hq ▸ Nat.lt_irrefl _)
  · intro b hb' hq
    rcases List.mem_cons.mp hb' with e | hm'
    · exact absurd e hq
    · exact ⟨listOf vs.toArray k₀, .inr fun i m nx hJ => (List.mem_singleton.mp hm') ▸ hl i m nx hJ⟩
  · intro i v m₁ nx h tk g own hin hP hoff hJ hgb F₁ N₁
    obtain ⟨t, hx9⟩ := hi.get i ns[i] (by simp [hin])
    have hv : v = .int ns[i] t := by
      have hP' : vs[i]? = some v := by simpa using hP
      rw [hx9] at hP'; exact (Option.some.inj hP').symm
    subst hv
    exact turn i ns[i] t m₁ nx h tk g own (by simp [hin]) hoff hJ hgb F₁ N₁

/-- for k in range(a, b); the generators change -/
theorem own_rangeG {r : Addr} {a₀ b₀ : Int} {t₀ u₀ v₀ : Tok} {n : Nat} {m₀ : Str → Option Value} {news : List (Addr × Obj)} {px : Pos} (J : Nat → (Str → Option Value) → List (Addr × Obj) → Prop)
    (hh : A.handled = none) (hr : IsRange s.heap r a₀ b₀ 1 t₀ u₀ v₀) (hsmall : Builtin.Range.small a₀ b₀ 1 = true) (hn : Builtin.Range.rangeSize a₀ b₀ 1 = (n : Int)) (hx : env.kindOf x = some .local)
    (hp : (env.scope.kind == .class || (env.scope.kind == .module && env.locals != env.globals)) = false) (F : Fr h₀ env.locals s.heap m₀) (N : News h₀ env.locals s.heap news) (hb : AllBare s.gens) (hj : J 0 m₀ news)
    (turn : ∀ i t m₁ nx h tk g own, i < n → TbOff own nx → J i m₁ nx → AllBare g → Fr h₀ env.locals h (fun y => if y = x then some (.int (a₀ + (i : Int)) t) else m₁ y) → News h₀ env.locals h (nx ++ own) →
      wpAny (model prog w) A (execs body env) (GPost h₀ env.locals (J (i + 1)) own s Q) E { s with heap := h, toks := tk, gens := g })
    (done : ∀ m₁ nx h tk g, J n m₁ nx → AllBare g → Fr h₀ env.locals h m₁ → News h₀ env.locals h nx → Q .next { s with heap := h, toks := tk, gens := g })
    (hE : PassesOwn (model prog w) A env E := by passes_own) :
    wpAny (model prog w) A (pyIter (.ref r)) (fun it s₂ => codeAny (model prog w) A (.forLoop (.Name x px) it body [] env) (fun r s' => match r with | .ok f => Q f s' | .error e => cameBackBy (model prog w) A env E e s') s₂) E s := by
  refine wpAny_pyIter_range hr hsmall ?_
  have W : Walks prog w A s.heap.objs.size [s.heap.objs.size] [s.heap.objs.size] n (fun i v => i < n ∧ ∃ t, v = .int (a₀ + i * 1) t)
      (fun i h => IsRangeIter h s.heap.objs.size (a₀ + (i : Nat) * 1) ((n : Int) - (i : Nat)) 1) := (Walks.range hh _ a₀ 1 n).bound
  refine own_loopG (s := { s with heap := s.heap.push _ }) J W ?_ (next_is_new F) ?_ (by show IsRangeIter _ _ _ _ _; rw [hn]; simpa using Heap.get?_push_size _ rfl) (.head _) ?_ (fun i h st => ⟨_, st⟩) hx hp (F.push _) (fun p hp => ⟨Heap.get?_push_of_some _ (N p hp).1, (N p hp).2⟩) hb hj ?_ done hE
  · intro hm
    exact absurd F.ns.lt ((List.mem_singleton.mp hm) ▸ Nat.lt_irrefl _)
  · intro p hp hq
    exact absurd (Heap.lt_size (N p hp).1) (hq ▸ Nat.lt_irrefl _)
  · intro b hb' hq
    exact absurd (List.mem_singleton.mp hb') hq
  · rintro i v m₁ nx h tk g own hin ⟨_, t, rfl⟩ hoff hJ hgb F₁ N₁
    have e1 : a₀ + (i : Int) * 1 = a₀ + (i : Int) := by omega
    rw [e1] at F₁
    exact turn i t m₁ nx h tk g own hin hoff hJ hgb F₁ N₁
end
end
-- text Lw
section
open PySem PySem.W PyProof.Rows PySem.Calls PySem.Spec
/-- the law's statements and its names, as the row holds them -/
noncomputable def lawFd : { f : List Stmt × Scope // ∃ n a d r t ts b po, PySem.Challenge.pw_st0029_01.main.body.getLast? = some (Stmt.FunctionDef n a f.1 d r t f.2 ts b po) } := ⟨(_, _), _, _, _, _, _, _, _, _, rfl⟩
noncomputable def secA : List Stmt := lawFd.1.1.take 2
noncomputable def secB : List Stmt := (lawFd.1.1.drop 2).take 2
noncomputable def secB2 : List Stmt := (lawFd.1.1.drop 4).take 2
noncomputable def secB3 : List Stmt := (lawFd.1.1.drop 6).take 2
noncomputable def secC : List Stmt := (lawFd.1.1.drop 8).take 3
noncomputable def secD : List Stmt := (lawFd.1.1.drop 11).take 3
noncomputable def secE : List Stmt := lawFd.1.1.drop 14
theorem law_secs : lawFd.1.1 = secA ++ (secB ++ (secB2 ++ (secB3 ++ (secC ++ (secD ++ secE))))) := rfl
noncomputable def plFd : { b : List Stmt // ∃ t i o p, lawFd.1.1[10]? = some (Stmt.For t i b o p) } := ⟨_, _, _, _, _, rfl⟩
noncomputable def pl1 : List Stmt := plFd.1.take 3
noncomputable def pl2 : List Stmt := (plFd.1.drop 3).take 1
noncomputable def pl3 : List Stmt := (plFd.1.drop 4).take 4
noncomputable def pl4 : List Stmt := (plFd.1.drop 8).take 1
noncomputable def pl5 : List Stmt := (plFd.1.drop 9).take 1
noncomputable def pl6 : List Stmt := (plFd.1.drop 10).take 2
noncomputable def pl7 : List Stmt := plFd.1.drop 12
theorem pl_secs : plFd.1 = pl1 ++ (pl2 ++ (pl3 ++ (pl4 ++ (pl5 ++ (pl6 ++ pl7))))) := rfl
end
-- text CellC
section
open PySem PySem.W PyProof.Rows PySem.Calls PySem.Spec
noncomputable abbrev cellO (v : Option Value) : Obj := { cls := .type "cell", data := .cell v }
noncomputable abbrev dct0 : Obj := { cls := .type "dict", data := .dict #[] }
noncomputable abbrev itO (ax : Addr) (i : Nat) : Obj := { cls := .type "list_iterator", data := .fields #[.ref ax, .int i 0] }
noncomputable def Off4 (I C c D : Addr) (l : List (Addr × Obj)) : Prop := ∀ p ∈ l, p.1 ≠ I ∧ p.1 ≠ C ∧ p.1 ≠ c ∧ p.1 ≠ D
section
variable (prog : Program) (w : World) (A : Around) (h₀ : Heap) (L : Addr) (m : Str → Option Value) (env : Env) (elt : PySem.Expr) (scope : Scope) (x : Str) (s : Shared) (src : Addr × Obj)
noncomputable def CcEnd (I : Addr) (oI : Obj) (C c : Addr) (oc : Obj) (D : Addr) (ys : List Value) (Nx : List Value → List (Addr × Obj) → Prop) (y : Value) (s' : Shared) : Prop :=
  ∃ h' tk' news', s' = { s with heap := h', toks := tk' } ∧ Fr h₀ L h' m ∧ News h₀ L h' ((I, oI) :: (C, dct0) :: (c, oc) :: (D, LCg.lst ys) :: news') ∧ Off4 I C c D news' ∧ src ∈ news' ∧ Nx (ys ++ [y]) news'
/-- a turn of a block whose name is a cell -/
noncomputable def CcTurn (ys : List Value) (v : Value) (news : List (Addr × Obj)) (Nx : List Value → List (Addr × Obj) → Prop) : Prop :=
  ∀ I oI C c oc D h tk (E' : Value → Shared → Prop), oc.data = .cell (some v) → Fr h₀ L h m → News h₀ L h ((I, oI) :: (C, dct0) :: (c, oc) :: (D, LCg.lst ys) :: news) → Off4 I C c D news → I ≠ C ∧ I ≠ c ∧ I ≠ D ∧ C ≠ c ∧ C ≠ D ∧ c ≠ D →
    wpAny (model prog w) A (eval elt (compEnvC scope [(x, c)] C env)) (CcEnd h₀ L m s src I oI C c oc D ys Nx) E' { s with heap := h, toks := tk }
noncomputable def CcRest (Fin : List Value → List (Addr × Obj) → Prop) : List Value → List Value → List (Addr × Obj) → Prop
  | [], ys, news => Fin ys news
  | v :: r, ys, news => CcTurn prog w A h₀ L m env elt scope x s src ys v news (CcRest Fin r)
end
section
variable {prog : Program} {w : World} {A : Around} {E : Value → Shared → Prop} {s : Shared} {h₀ : Heap} {m : Str → Option Value} {env : Env} {elt : PySem.Expr} {scope : Scope} {x : Str}
theorem newEnv_cell {n0 n2 : Str} {globals : Addr} {qual : Str} {Q : Env → Shared → Prop} (hsc : scope.names = [(n0, .local), (x, .cell), (n2, .globalImplicit)])
    (h : Q { scope, locals := s.heap.objs.size, globals, cells := [(x, s.heap.objs.size + 1)], qual, func := none, code := env.code, frame := env.frame, builtins := env.builtins } { s with heap := (s.heap.push dct0).push (cellO none) }) :
    wpAny (model prog w) A (newFunctionEnv scope globals [] [] qual none .none (some env)) Q E s := by
  simp only [newFunctionEnv, Option.isSome_some, if_true]
  refine wpAny_bind (wpAny_alloc ?_)
  rw [hsc]
  refine wpAny_bind (wpAny_layCells _ (fun name kind cells => by cases hkc : kind == NameKind.cell <;> simp) _ _ _ _ ?_)
  rw [List.forIn_nil]
  refine wpAny_bind (wpAny_pure (wpAny_pure ?_))
  have e1 : pushCells (s.heap.push dct0) [(n0, NameKind.local), (x, NameKind.cell), (n2, NameKind.globalImplicit)] = (s.heap.push dct0).push (cellO none) := rfl
  have e2 : cellsFrom (s.heap.push dct0).objs.size [(n0, NameKind.local), (x, NameKind.cell), (n2, NameKind.globalImplicit)] [] = [(x, s.heap.objs.size + 1)] := by
    rw [Heap.size_push]; rfl
  show Q { scope, locals := s.heap.objs.size, globals, cells := cellsFrom (s.heap.push dct0).objs.size [(n0, NameKind.local), (x, NameKind.cell), (n2, NameKind.globalImplicit)] [], qual, func := none, code := env.code, frame := env.frame, builtins := env.builtins } { s with heap := pushCells (s.heap.push dct0) [(n0, NameKind.local), (x, NameKind.cell), (n2, NameKind.globalImplicit)] }
  rw [e1, e2]
  exact h
theorem news_same {h h' : Heap} {L b : Addr} {l : List (Addr × Obj)} (N : News h₀ L h l) (hs : Heap.ExtBut b h h') (off : ∀ p ∈ l, p.1 ≠ b) : News h₀ L h' l :=
  fun p hp => ⟨hs _ _ (off p hp) (N p hp).1, (N p hp).2⟩
theorem off4_led {I C c D : Addr} {o1 o2 o3 : Obj} {news : List (Addr × Obj)} (off : Off4 I C c D news) (d : I ≠ C ∧ I ≠ c ∧ I ≠ D ∧ C ≠ c ∧ C ≠ D ∧ c ≠ D) : (∀ p ∈ (C, o1) :: (c, o2) :: (D, o3) :: news, p.1 ≠ I) ∧ (∀ p ∈ (C, o1) :: (D, o3) :: news, p.1 ≠ c) ∧ (∀ p ∈ (C, o1) :: (c, o2) :: news, p.1 ≠ D) := by
  obtain ⟨d1, d2, d3, d4, d5, d6⟩ := d
  refine ⟨?_, ?_, ?_⟩ <;> simp only [List.forall_mem_cons]
  · exact ⟨d1.symm, d2.symm, d3.symm, fun p hp => (off p hp).1⟩
  · exact ⟨d4, d6.symm, fun p hp => (off p hp).2.2.1⟩
  · exact ⟨d5, d6, fun p hp => (off p hp).2.2.2⟩
theorem cc_loop {I C c D ax : Addr} {its : List Value} {ep : Nat} {L : Addr} {px : Pos} {iter : PySem.Expr} {pos : Pos} {RR : Result → Shared → Prop} {Fin : List Value → List (Addr × Obj) → Prop}
    (hh : A.handled = none) (hsz : its.length ≤ 1000) (hxc : (compEnvC scope [(x, c)] C env).kindOf x = some .cell) (hkc : (compEnvC scope [(x, c)] C env).scope.kind = .function) (hI0 : h₀.get? I = none) (hIL : L ≠ I) (hD : D ≠ L ∧ h₀.get? D = none) (hc : c ≠ L ∧ h₀.get? c = none) (hIax : ax ≠ I)
    (d : I ≠ C ∧ I ≠ c ∧ I ≠ D ∧ C ≠ c ∧ C ≠ D ∧ c ≠ D)
    (fin : ∀ h tk ys news' oc, Fr h₀ L h m → News h₀ L h ((C, dct0) :: (c, oc) :: (D, LCg.lst ys) :: news') → Off4 I C c D news' → Fin ys news' → RR (.ok .next) { s with heap := h, toks := tk })
    {h : Heap} {tk : Nat} {news : List (Addr × Obj)} {oc : Obj} {cv : Option Value} (hoc : oc.data = .cell cv) (F : Fr h₀ L h m) (N : News h₀ L h ((C, dct0) :: (c, oc) :: (D, LCg.lst []) :: news)) (off : Off4 I C c D news) (hm : (ax, listOf its.toArray ep) ∈ news) (hit : h.IsListIter I ax 0)
    (R : CcRest prog w A h₀ L m env elt scope x s (ax, listOf its.toArray ep) Fin its [] news) :
    codeAny (model prog w) A (.compLoop (.ListComp elt [⟨.Name x px, iter, [], 0⟩] scope pos) 0 (.ref I) (.ref D) (compEnvC scope [(x, c)] C env)) RR { s with heap := h, toks := tk } := by
  have W := Walks.list (prog := prog) (w := w) hh I ax hIax its.toArray
  refine codeAny_compLoop_tests
    (fun k s' => ∃ h' tk i ys oc cv news', s' = { s with heap := h', toks := tk } ∧ i ≤ its.length ∧ k = its.length + 1 - i ∧ ys.length = i ∧ h'.IsListIter I ax i ∧ Fr h₀ L h' m ∧ oc.data = .cell cv ∧ News h₀ L h' ((C, dct0) :: (c, oc) :: (D, LCg.lst ys) :: news') ∧ Off4 I C c D news' ∧ (ax, listOf its.toArray ep) ∈ news' ∧
      CcRest prog w A h₀ L m env elt scope x s (ax, listOf its.toArray ep) Fin (its.drop i) ys news') ?_ (its.length + 1) ⟨h, tk, 0, [], oc, cv, news, rfl, Nat.zero_le _, rfl, rfl, hit, F, hoc, N, off, hm, R⟩
  rintro k s' ⟨h', tk', i, ys, oc', cv', news', rfl, hi, rfl, hyl, hit', F', hoc', N', off', hm', R'⟩
  have hl : h'.IsList ax its.toArray := ⟨_, (N' _ (.tail _ (.tail _ (.tail _ hm')))).1, rfl, _, rfl⟩
  obtain ⟨offI, offc, offD⟩ := off4_led (o1 := dct0) (o2 := oc') (o3 := LCg.lst ys) off' d
  by_cases hlt : i < its.length
  · have hdr : its.drop i = its[i] :: its.drop (i + 1) := List.drop_eq_getElem_cons hlt
    rw [hdr] at R'
    refine W.item i _ _ _ (by rw [List.size_toArray]; exact hlt) ⟨hit', hl⟩ fun v h₂ tk₂ hPv hst₂ hk₂ => ?_
    have hv : v = its[i] := by
      have : its[i]? = some v := by simpa using hPv
      rw [List.getElem?_eq_getElem hlt] at this
      exact (Option.some.inj this).symm
    subst hv
    have F₂ : Fr h₀ L h₂ m := LCg.fr_but F' hk₂ hIL hI0
    have N₂ := LCg.news_but N' hk₂ offI
    refine wpAny_assign_Name (wpAny_storeName_cell hkc hxc (c := c) (by simp [compEnvC]) ⟨oc', (N₂ _ (.tail _ (.head _))).1, hoc'⟩ fun h₃ hcl hs₃ => ?_)
    obtain ⟨oc₃, eC, dC⟩ := hcl
    have hL3 : c ≠ L := hc.1
    have F₃ : Fr h₀ L h₃ m := F₂.change hs₃ hc.1 hc.2
    refine wpAny_tests_nil ?_
    simp only [if_true]
    obtain ⟨oI, heI, hI3⟩ : ∃ oI, h₃.get? I = some oI ∧ oI.data = .fields #[.ref ax, .int ((i + 1 : Nat) : Int) 0] := by
      obtain ⟨oI, e, hr⟩ := hst₂.1
      exact ⟨oI, hs₃.extBut _ _ d.2.1 e, hr.2⟩
    have N₃ : News h₀ L h₃ ((I, oI) :: (C, dct0) :: (c, oc₃) :: (D, LCg.lst ys) :: news') := by
      have N' : News h₀ L h₃ ((C, dct0) :: (D, LCg.lst ys) :: news') := news_same (b := c) (fun p hp => N₂ p (by
        rcases List.mem_cons.mp hp with rfl | hp
        · exact .head _
        · exact .tail _ (.tail _ hp))) hs₃.extBut offc
      intro p hp
      rcases List.mem_cons.mp hp with rfl | hp
      · exact ⟨heI, hIL.symm, hI0⟩
      · rcases List.mem_cons.mp hp with rfl | hp
        · exact N' _ (.head _)
        · rcases List.mem_cons.mp hp with rfl | hp
          · exact ⟨eC, hc⟩
          · exact N' _ (.tail _ hp)
    refine wpAny_mono (R' I oI C c oc₃ D h₃ _ _ dC F₃ N₃ off' d) (fun y s₄ h₄ => ?_) fun _ _ e => e
    obtain ⟨h₄, tk₄, news₄, rfl, F₄, N₄, off₄, hm₄, R₄⟩ := h₄
    obtain ⟨_, _, offD₄⟩ := off4_led (o1 := dct0) (o2 := oc₃) (o3 := LCg.lst ys) off₄ d
    have zI := (N₄ (I, oI) (.head _)).1
    have zD := (N₄ (D, LCg.lst ys) (.tail _ (.tail _ (.tail _ (.head _))))).1
    refine append_at (hsz := by show ys.toArray.size ≤ sizeLine; rw [List.size_toArray, hyl, sizeLine_eq]; omega) zD fun h₅ hs₅ hD₅ => ?_
    refine ⟨its.length + 1 - (i + 1), by omega, h₅, tk₄, i + 1, ys ++ [y], oc₃, _, news₄, rfl, hlt, rfl, by rw [List.length_append, List.length_singleton, hyl], ⟨oI, hs₅.extBut _ _ d.2.2.1 zI, ?_, hI3⟩, F₄.change hs₅ hD.1 hD.2, dC, ?_, off₄, hm₄, R₄⟩
    · obtain ⟨oI', e, hr⟩ := hst₂.1
      have := hs₃.extBut _ _ d.2.1 e
      rw [heI] at this
      rw [Option.some.inj this]; exact hr.1
    · have N₅ : News h₀ L h₅ ((C, dct0) :: (c, oc₃) :: news₄) := news_same (b := D) (fun p hp => N₄ p (by
        rcases List.mem_cons.mp hp with rfl | hp
        · exact .tail _ (.head _)
        · rcases List.mem_cons.mp hp with rfl | hp
          · exact .tail _ (.tail _ (.head _))
          · exact .tail _ (.tail _ (.tail _ (.tail _ hp))))) hs₅.extBut offD₄
      intro p hp
      rcases List.mem_cons.mp hp with rfl | hp
      · exact N₅ _ (.head _)
      · rcases List.mem_cons.mp hp with rfl | hp
        · exact N₅ _ (.tail _ (.head _))
        · rcases List.mem_cons.mp hp with rfl | hp
          · exact ⟨hD₅.trans (congrArg some (LCg.lst_snoc ys y)), hD⟩
          · exact N₅ _ (.tail _ (.tail _ hp))
  · have hin : i = its.length := Nat.le_antisymm hi (Nat.not_lt.mp hlt)
    subst hin
    rw [List.drop_length] at R'
    refine W.done _ _ _ ⟨by rw [List.size_toArray]; exact hit', hl⟩ fun h₂ tk₂ hk₂ => ?_
    exact fin h₂ tk₂ ys news' oc' (LCg.fr_but F' hk₂ hIL hI0) (LCg.news_but N' hk₂ offI) off' R'
/-- y = [elt for x in z], x a cell -/
theorem own_compCell {y z : Str} {px py pz pos spos : Pos} {n0 n2 : Str} {ax : Addr} {its : List Value} {ep : Nat} {news : List (Addr × Obj)} {Q : Flow → Shared → Prop}
    (hh : A.handled = none) (F : Fr h₀ env.locals s.heap m) (N : News h₀ env.locals s.heap news) (hm : (ax, listOf its.toArray ep) ∈ news) (hz : m z = some (.ref ax)) (hsz : its.length ≤ 1000)
    (hk : env.scope.kind = .function) (hlz : env.kindOf z = some .local) (hdz : (z == ("__debug__" : Str)) = false)
    (hsw : swapsWith (.ListComp elt [⟨.Name x px, .Name z pz, [], 0⟩] scope pos) (some (.Name y py)) spos.line env = pure true)
    (hclos : closureFor scope env = pure []) (hkind : scope.kind = .function) (hsc : scope.names = [(n0, .local), (x, .cell), (n2, .globalImplicit)])
    (hnames : ∀ z ∈ scope.names, z.2 = .local → scope.names.lookup z.1 = some .local) (hxc : (relabel scope env).names.lookup x = some .cell) (hkc : (relabel scope env).kind = .function)
    (hy : env.kindOf y = some .local) (hp : (env.scope.kind == .class || (env.scope.kind == .module && env.locals != env.globals)) = false)
    (turns : ∀ s₁ : Shared, s₁.gens = s.gens → s₁.drawn = s.drawn → s₁.os = s.os → CcRest prog w A h₀ env.locals m env elt scope x s₁ (ax, listOf its.toArray ep) (fun ys news' => ∀ D h tk, Fr h₀ env.locals h (fun u => if u = y then some (.ref D) else m u) → News h₀ env.locals h ((D, LCg.lst ys) :: news') → (∀ p ∈ news', p.1 ≠ D) → Q .next { s₁ with heap := h, toks := tk }) its [] news)
    (hs : ∀ x, foldedSetIterable (.Name z pz) env x = pure x := by intro _; rfl) :
    wpAny (model prog w) A (exec (.Assign [.Name y py] (.ListComp elt [⟨.Name x px, .Name z pz, [], 0⟩] scope pos) spos) env) Q E s := by
  rw [exec_Assign_Name_used _ _ _ _ hsw]
  refine wpAny_bind (wpAny_standAt (wpAny_bind ?_))
  show wpAny _ A (do let _ ← comprehension (.ListComp elt [⟨.Name x px, .Name z pz, [], 0⟩] scope pos) scope env _ (newList []) false (eval (.Name z pz) env) (some (assign (.Name y py) env))) _ _ s
  refine wpAny_bind (wpAny_mono (wpAny_comprehension_free (use := some (assign (.Name y py) env)) (Q := fun _ s' => Q .next s') rfl hs hclos hkind hnames
    (wpAny_Name (wpAny_loadName_local hk hlz F.ns hz ?_) hdz)) (fun _ s' hq => wpAny_pure (wpAny_pure hq)) fun _ _ e => e)
  have hl : s.heap.IsList ax its.toArray := ⟨_, (N _ hm).1, rfl, _, rfl⟩
  have hlt : ax < s.heap.objs.size := Heap.lt_size (N _ hm).1
  refine wpAny_pyIter_list hl ?_
  generalize hH1 : s.heap.push { cls := .type "list_iterator", data := .fields #[.ref ax, .int 0 0] } = H1
  have s1 : H1.objs.size = s.heap.objs.size + 1 := by rw [← hH1, Heap.size_push]
  refine wpAny_newObj_type ?_
  dsimp only
  generalize hH2 : H1.push { cls := .type "list", dict := none, data := .seq ([] : List Value).toArray } = H2
  have s2 : H2.objs.size = s.heap.objs.size + 2 := by rw [← hH2, Heap.size_push, s1]
  refine newEnv_cell hsc ?_
  dsimp only
  generalize hH3 : H2.push dct0 = H3
  have s3 : H3.objs.size = s.heap.objs.size + 3 := by rw [← hH3, Heap.size_push, s2]
  generalize hH4 : H3.push (cellO none) = H4
  have up1 : ∀ b o, s.heap.get? b = some o → H1.get? b = some o := fun b o e => hH1 ▸ Heap.get?_push_of_some _ e
  have up2 : ∀ b o, H1.get? b = some o → H2.get? b = some o := fun b o e => hH2 ▸ Heap.get?_push_of_some _ e
  have up3 : ∀ b o, H2.get? b = some o → H3.get? b = some o := fun b o e => hH3 ▸ Heap.get?_push_of_some _ e
  have up4 : ∀ b o, H3.get? b = some o → H4.get? b = some o := fun b o e => hH4 ▸ Heap.get?_push_of_some _ e
  have up : ∀ b o, s.heap.get? b = some o → H4.get? b = some o := fun b o e => up4 _ _ (up3 _ _ (up2 _ _ (up1 _ _ e)))
  have eI : H4.get? s.heap.objs.size = some { cls := .type "list_iterator", data := .fields #[.ref ax, .int 0 0] } := up4 _ _ (up3 _ _ (up2 _ _ (hH1 ▸ Heap.get?_push_size _ rfl)))
  have eD : H4.get? H1.objs.size = some (LCg.lst []) := up4 _ _ (up3 _ _ (hH2 ▸ Heap.get?_push_size _ rfl))
  have eC : H4.get? H2.objs.size = some dct0 := up4 _ _ (hH3 ▸ Heap.get?_push_size _ rfl)
  have ec : H4.get? H3.objs.size = some (cellO none) := hH4 ▸ Heap.get?_push_size _ rfl
  have e3 : (Shared.heap { s with heap := H2 }).objs.size + 1 = H3.objs.size := by rw [s3]; show H2.objs.size + 1 = _; rw [s2]
  rw [e3]
  have hLlt : env.locals < s.heap.objs.size := F.ns.lt
  have above : ∀ a, s.heap.objs.size ≤ a → a ≠ env.locals ∧ h₀.get? a = none := fun a ha =>
    ⟨Nat.ne_of_gt (Nat.lt_of_lt_of_le hLlt ha), Heap.get?_none_of_le (Nat.le_trans F.above (Nat.le_trans (Nat.le_of_lt hLlt) ha))⟩
  have d : s.heap.objs.size ≠ H2.objs.size ∧ s.heap.objs.size ≠ H3.objs.size ∧ s.heap.objs.size ≠ H1.objs.size ∧ H2.objs.size ≠ H3.objs.size ∧ H2.objs.size ≠ H1.objs.size ∧ H3.objs.size ≠ H1.objs.size := by
    rw [s1, s2, s3]; refine ⟨?_, ?_, ?_, ?_, ?_, ?_⟩ <;> omega
  have N4 : News h₀ env.locals H4 ((H2.objs.size, dct0) :: (H3.objs.size, cellO none) :: (H1.objs.size, LCg.lst []) :: news) := by
    intro p hp
    rcases List.mem_cons.mp hp with rfl | hp
    · exact ⟨eC, above _ (by rw [s2]; omega)⟩
    · rcases List.mem_cons.mp hp with rfl | hp
      · exact ⟨ec, above _ (by rw [s3]; omega)⟩
      · rcases List.mem_cons.mp hp with rfl | hp
        · exact ⟨eD, above _ (by rw [s1]; omega)⟩
        · exact ⟨up _ _ (N p hp).1, (N p hp).2⟩
  have off4 : Off4 s.heap.objs.size H2.objs.size H3.objs.size H1.objs.size news := fun p hp => by
    have := Heap.lt_size (N p hp).1
    rw [s1, s2, s3]
    exact ⟨Nat.ne_of_lt this, Nat.ne_of_lt (Nat.lt_of_lt_of_le this (Nat.le_add_right ..)), Nat.ne_of_lt (Nat.lt_of_lt_of_le this (Nat.le_add_right ..)), Nat.ne_of_lt (Nat.lt_of_lt_of_le this (Nat.le_add_right ..))⟩
  have loop := cc_loop (prog := prog) (w := w) (A := A) (elt := elt) (s := { s with heap := H4 }) (px := px) (pos := pos) (iter := .Name z pz) (I := s.heap.objs.size) (C := H2.objs.size) (c := H3.objs.size) (D := H1.objs.size)
    (RR := compPost (model prog w) A E (some (assign (.Name y py) env)) (fun _ s' => Q .next s') (.ref H1.objs.size) H2.objs.size) (h := H4) (tk := s.toks)
    hh hsz hxc hkc (above _ (Nat.le_refl _)).2 (above _ (Nat.le_refl _)).1.symm (above _ (by rw [s1]; omega)) (above _ (by rw [s3]; omega)) (Nat.ne_of_lt hlt) d ?_ rfl (F.keeps up) N4 off4 hm ⟨_, eI, rfl, rfl⟩ (turns _ rfl rfl rfl)
  · exact codeAny_compStart_list loop (wpAny_pyIter_listiter (l := ax) (i := 0) ⟨_, eI, rfl, rfl⟩ loop)
  · intro h tk ys news' cv F' N' off' fin
    show wpAny _ A (assign (.Name y py) env (.ref H1.objs.size)) _ _ _
    refine wpAny_assign_Name (wpAny_storeName_local hy F'.ns (fun h₂ hn₂ hs₂ => ?_) hp)
    have F₂ : Fr h₀ env.locals h₂ (fun z => if z = y then some (.ref H1.objs.size) else m z) := F'.set hn₂ hs₂
    have N₂ := N'.set hs₂
    refine ⟨fun _ => none, ?_, fun h'' hs'' => fin _ h'' _ (F₂.change hs'' (above _ (by rw [s2]; omega)).1 (above _ (by rw [s2]; omega)).2) ?_ fun p hp => (off' p hp).2.2.2⟩
    · exact ⟨_, _, _, (N₂ _ (.head _)).1, rfl, fun _ he => by simp at he, fun _ => rfl⟩
    · refine news_same (b := H2.objs.size) (fun p hp => N₂ p (.tail _ (.tail _ hp))) hs''.extBut ?_
      intro p hp
      rcases List.mem_cons.mp hp with rfl | hp
      · exact d.2.2.2.2.1.symm
      · exact (off' p hp).2.1
end
end
-- text TwoC
section
open PySem PySem.W PyProof.Rows PySem.Calls PySem.Spec
noncomputable abbrev two (elt t0 i0 t1 i1 : PySem.Expr) (scope : Scope) (pos : Pos) : PySem.Expr := .ListComp elt [⟨t0, i0, [], 0⟩, ⟨t1, i1, [], 0⟩] scope pos
theorem compTurn_two0 (elt t0 i0 t1 i1 : PySem.Expr) (scope : Scope) (pos : Pos) (it acc : Value) (env : Env) :
    compTurn (two elt t0 i0 t1 i1 scope pos) 0 it acc env = (do
      standAt i0.pos
      match ← pyNext it with
      | none => pure (.done .next)
      | some v =>
        letOwnedTupleGo t0 it v
        assign t0 env v
        let mut ok := true
        for c in ([] : List PySem.Expr) do
          if ok then ok ← isTrue c env (eval c env)
        if ok then
          let x ← eval i1 env
          standAt i1.pos
          let x ← foldedSetIterable i1 env x
          let _ ← runOwn (.compStart (two elt t0 i0 t1 i1 scope pos) 1 (← holding [x] (pyIter x)) acc env) env
        again (.compLoop (two elt t0 i0 t1 i1 scope pos) 0 it acc env)) := by rfl
theorem compTurn_two1 (elt t0 i0 t1 i1 : PySem.Expr) (scope : Scope) (pos : Pos) (it acc : Value) (env : Env) :
    compTurn (two elt t0 i0 t1 i1 scope pos) 1 it acc env = (do
      standAt i1.pos
      match ← pyNext it with
      | none => pure (.done .next)
      | some v =>
        letOwnedTupleGo t1 it v
        assign t1 env v
        let mut ok := true
        for c in ([] : List PySem.Expr) do
          if ok then ok ← isTrue c env (eval c env)
        if ok then
          (do let _ ← call (.builtin "list.append") [acc, ← eval elt env])
        again (.compLoop (two elt t0 i0 t1 i1 scope pos) 1 it acc env)) := by rfl
section
variable {prog : Program} {w : World} {A : Around} {R : Result → Shared → Prop} {s : Shared}
noncomputable def KeptBut (C D I : Addr) (h h' : Heap) : Prop := ∀ b o, b ≠ C → b ≠ D → b ≠ I → h.get? b = some o → h'.get? b = some o
theorem two_inner {C D I ax : Addr} {cenv : Env} {elt t0 i0 i1 : PySem.Expr} {scope : Scope} {pos py : Pos} {y : Str} {mC : Str → Option Value} {ns : List Int} {dv ys : List Value}
    (hC : cenv.locals = C) (hh : A.handled = none) (hsz : ys.length + ns.length ≤ 1000) (hy : cenv.kindOf y = some .local) (hp : (cenv.scope.kind == .class || (cenv.scope.kind == .module && cenv.locals != cenv.globals)) = false)
    (d1 : ax ≠ I) (d2 : ax ≠ C) (d3 : ax ≠ D) (d4 : I ≠ C) (d5 : I ≠ D) (d6 : C ≠ D) (hit : s.heap.IsListIter I ax 0) (hl : s.heap.IsList ax dv.toArray) (hD : s.heap.get? D = some (LCg.lst ys)) (hn : s.heap.Ns C mC) (hi : IntsAre dv ns)
    (helt : ∀ n t (s₂ : Shared) m₁ (Q' E' : Value → Shared → Prop), n ∈ ns → s₂.heap.Ns C m₁ → m₁ y = some (.int n t) → (∀ t' tk', Q' (.int (n - 1) t') { s₂ with toks := tk' }) → wpAny (model prog w) A (eval elt cenv) Q' E' s₂)
    (fin : ∀ h' tk' ws m', IntsAre ws (ns.map (· - 1)) → h'.Ns C m' → h'.get? D = some (LCg.lst (ys ++ ws)) → KeptBut C D I s.heap h' → R (.ok .next) { s with heap := h', toks := tk' }) :
    codeAny (model prog w) A (.compLoop (two elt t0 i0 (.Name y py) i1 scope pos) 1 (.ref I) (.ref D) cenv) R s := by
  have W := Walks.list (prog := prog) (w := w) hh I ax d1 dv.toArray
  have hlen : dv.toArray.size = ns.length := by simp [hi.length]
  rw [hlen] at W
  refine codeAny_loop rfl (fun k s' => ∃ i h' tk' ws m', s' = { s with heap := h', toks := tk' } ∧ i ≤ ns.length ∧ k = ns.length + 1 - i ∧ h'.IsListIter I ax i ∧ IntsAre ws ((ns.take i).map (· - 1)) ∧ h'.Ns C m' ∧ h'.get? D = some (LCg.lst (ys ++ ws)) ∧ KeptBut C D I s.heap h') ?_ (ns.length + 1)
    ⟨0, s.heap, s.toks, [], mC, rfl, Nat.zero_le _, rfl, hit, by simpa using IntsAre.nil, hn, by rw [List.append_nil]; exact hD, fun _ _ _ _ _ e => e⟩
  rintro k s' ⟨i, h', tk', ws, m', rfl, hin, rfl, hit', hw, hn', hD', hk'⟩
  have hl' : h'.IsList ax dv.toArray := hl.at fun o e => hk' _ _ d2 d3 d1 e
  show wpAny _ A ((compTurn (two elt t0 i0 (.Name y py) i1 scope pos) 1 (.ref I) (.ref D) cenv).onRaise (fun x => do noteFrame x cenv; theTreesLotGoes x)) _ _ _
  refine wpAny_noted ?_
  rw [compTurn_two1]
  refine wpAny_bind (wpAny_standAt (wpAny_bind ?_))
  by_cases hlt : i < ns.length
  · refine W.item i _ _ _ hlt ⟨hit', hl'⟩ fun v h₂ tk₂ hPv hst₂ hk₂ => ?_
    obtain ⟨t, hx9⟩ := hi.get i ns[i] (by simp [hlt])
    have hv : v = .int ns[i] t := by
      have hP' : dv[i]? = some v := by simpa using hPv
      rw [hx9] at hP'; exact (Option.some.inj hP').symm
    subst hv
    have hn₂ : h₂.Ns C m' := hn'.at' fun o e => hk₂ _ o (by simpa using d4.symm) e
    have hD₂ : h₂.get? D = some (LCg.lst (ys ++ ws)) := hk₂ _ _ (by simpa using d5.symm) hD'
    refine wpAny_bind (wpAny_pure (wpAny_bind (wpAny_assign_Name (wpAny_storeName_local hy (hC ▸ hn₂) (fun h₃ hn₃ hs₃ => ?_) hp))))
    rw [hC] at hn₃ hs₃
    refine wpAny_bind (wpAny_tests_nil ?_)
    simp only [if_true]
    refine wpAny_bind (wpAny_bind (helt ns[i] t _ _ _ _ (List.getElem_mem hlt) hn₃ (by simp) fun t' tk₃ => wpAny_bind ?_))
    have hD₃ : h₃.get? D = some (LCg.lst (ys ++ ws)) := hs₃.extBut _ _ d6.symm hD₂
    have hwl : ws.length = i := by rw [hw.length, List.length_map, List.length_take]; omega
    refine append_at (hsz := by show (ys ++ ws).toArray.size ≤ sizeLine; rw [List.size_toArray, List.length_append, hwl, sizeLine_eq]; omega) hD₃ fun h₅ hs₅ hD₅ => wpAny_pure (wpAny_pure ⟨rfl, ns.length + 1 - (i + 1), by omega, i + 1, h₅, tk₃, ws ++ [.int (ns[i] - 1) t'], _, rfl, hlt, rfl, ?_, ?_, hn₃.at' fun o e => hs₅.extBut _ o d6 e, ?_, ?_⟩)
    · exact (hst₂.1.at fun o e => hs₃.extBut _ o d4 e).at fun o e => hs₅.extBut _ o d5 e
    · rw [List.take_add_one, List.getElem?_eq_getElem hlt, Option.toList_some, List.map_append]
      exact hw.append (.cons _ _ .nil)
    · rw [← List.append_assoc]; exact hD₅.trans (congrArg some (LCg.lst_snoc _ _))
    · intro b o b1 b2 b3 e
      exact hs₅.extBut _ _ b2 (hs₃.extBut _ _ b1 (hk₂ _ _ (by simpa using b3) (hk' b o b1 b2 b3 e)))
  · have e : i = ns.length := by omega
    subst e
    refine W.done _ _ _ ⟨hit', hl'⟩ fun h₂ tk₂ hk₂ => wpAny_pure ?_
    rw [List.take_length] at hw
    exact fin _ _ ws m' hw (hn'.at' fun o e => hk₂ _ o (by simpa using d4.symm) e) (hk₂ _ _ (by simpa using d5.symm) hD') fun b o b1 b2 b3 e => hk₂ _ _ (by simpa using b3) (hk' b o b1 b2 b3 e)
theorem two_start {elt t0 i0 t1 i1 : PySem.Expr} {scope : Scope} {pos : Pos} {it acc : Value} {env : Env} {d : Nat} (hd : d = 0 ∨ d = 1)
    (h0 : codeAny (model prog w) A (.compLoop (two elt t0 i0 t1 i1 scope pos) d it acc env) R s)
    (h : ∀ E', wpAny (model prog w) A (pyIter it) (fun it' s' => codeAny (model prog w) A (.compLoop (two elt t0 i0 t1 i1 scope pos) d it' acc env) R s') E' s) :
    codeAny (model prog w) A (.compStart (two elt t0 i0 t1 i1 scope pos) d it acc env) R s := by
  refine codeAny_of_tree ?_
  show wpAny _ _ ((compStart (two elt t0 i0 t1 i1 scope pos) d it acc env).onRaise (fun x => do noteFrame x env; standAt theWindowsPlace)) _ _ s
  refine wpAny_notedAt ?_
  unfold compStart
  rcases hd with rfl | rfl
  · show wpAny _ _ (ask >>= _) _ _ s
    refine wpAny_bind (wpAny_askSetting (wpAny_ite ?_))
    split
    · first
        | exact wpAny_bind (wpAny_pure (wpAny_pure (And.intro rfl h0)))
        | exact wpAny_pure (And.intro rfl h0)
    · first
        | exact wpAny_bind (wpAny_rule (wpAny_bind (wpAny_standAt (wpAny_bind (wpAny_mono (h _) (fun it' s' h' => wpAny_pure (And.intro rfl h')) fun _ _ x => x)))))
        | (refine wpAny_bind (wpAny_rule ?_); show wpAny _ _ (standAt i0.pos >>= _) _ _ s; exact wpAny_bind (wpAny_standAt (wpAny_bind (wpAny_mono (h _) (fun it' s' h' => wpAny_pure (And.intro rfl h')) fun _ _ x => x))))
  · show wpAny _ _ (ask >>= _) _ _ s
    refine wpAny_bind (wpAny_askSetting (wpAny_ite ?_))
    split
    · first
        | exact wpAny_bind (wpAny_pure (wpAny_pure (And.intro rfl h0)))
        | exact wpAny_pure (And.intro rfl h0)
    · first
        | exact wpAny_bind (wpAny_rule (wpAny_bind (wpAny_standAt (wpAny_bind (wpAny_mono (h _) (fun it' s' h' => wpAny_pure (And.intro rfl h')) fun _ _ x => x)))))
        | (refine wpAny_bind (wpAny_rule ?_); show wpAny _ _ (standAt i1.pos >>= _) _ _ s; exact wpAny_bind (wpAny_standAt (wpAny_bind (wpAny_mono (h _) (fun it' s' h' => wpAny_pure (And.intro rfl h')) fun _ _ x => x))))

theorem two_outer {C D I ax : Addr} {cenv : Env} {elt i0 : PySem.Expr} {scope : Scope} {pos px py pi : Pos} {x y : Str} {mC : Str → Option Value} {ls : List (Addr × List Value × List Int)}
    (hC : cenv.locals = C) (hh : A.handled = none) (hsz : (ls.flatMap (·.2.2)).length ≤ 1000) (hk : cenv.scope.kind = .function) (hx : cenv.kindOf x = some .local) (hxd : (x == ("__debug__" : Str)) = false) (hy : cenv.kindOf y = some .local) (hp : (cenv.scope.kind == .class || (cenv.scope.kind == .module && cenv.locals != cenv.globals)) = false)
    (d1 : ax ≠ I) (d2 : ax ≠ C) (d3 : ax ≠ D) (d4 : I ≠ C) (d5 : I ≠ D) (d6 : C ≠ D) (hit : s.heap.IsListIter I ax 0) (hl : s.heap.IsList ax (ls.map fun p => Value.ref p.1).toArray) (hD : s.heap.get? D = some (LCg.lst [])) (hn : s.heap.Ns C mC)
    (hls : ∀ p ∈ ls, s.heap.IsList p.1 p.2.1.toArray ∧ IntsAre p.2.1 p.2.2 ∧ p.1 ≠ C ∧ p.1 ≠ D ∧ p.1 ≠ I)
    (helt : ∀ n t (s₂ : Shared) m₁ (Q' E' : Value → Shared → Prop), s₂.heap.Ns C m₁ → m₁ y = some (.int n t) → (∀ t' tk', Q' (.int (n - 1) t') { s₂ with toks := tk' }) → wpAny (model prog w) A (eval elt cenv) Q' E' s₂)
    (fin : ∀ h' tk' ws m', IntsAre ws ((ls.flatMap (·.2.2)).map (· - 1)) → h'.Ns C m' → h'.get? D = some (LCg.lst ws) → KeptBut C D I s.heap h' → R (.ok .next) { s with heap := h', toks := tk' }) :
    codeAny (model prog w) A (.compLoop (two elt (.Name x px) i0 (.Name y py) (.Name x pi) scope pos) 0 (.ref I) (.ref D) cenv) R s := by
  have W := Walks.list (prog := prog) (w := w) hh I ax d1 (ls.map fun p => Value.ref p.1).toArray
  have hlen : (ls.map fun p => Value.ref p.1).toArray.size = ls.length := by simp
  rw [hlen] at W
  refine codeAny_loop rfl (fun k s' => ∃ i h' tk' ws m', s' = { s with heap := h', toks := tk' } ∧ i ≤ ls.length ∧ k = ls.length + 1 - i ∧ h'.IsListIter I ax i ∧ IntsAre ws (((ls.take i).flatMap (·.2.2)).map (· - 1)) ∧ h'.Ns C m' ∧ h'.get? D = some (LCg.lst ws) ∧ KeptBut C D I s.heap h') ?_ (ls.length + 1)
    ⟨0, s.heap, s.toks, [], mC, rfl, Nat.zero_le _, rfl, hit, by simpa using IntsAre.nil, hn, hD, fun _ _ _ _ _ e => e⟩
  rintro k s' ⟨i, h', tk', ws, m', rfl, hin, rfl, hit', hw, hn', hD', hk'⟩
  have hl' : h'.IsList ax (ls.map fun p => Value.ref p.1).toArray := hl.at fun o e => hk' _ _ d2 d3 d1 e
  show wpAny _ A ((compTurn (two elt (.Name x px) i0 (.Name y py) (.Name x pi) scope pos) 0 (.ref I) (.ref D) cenv).onRaise (fun x => do noteFrame x cenv; theTreesLotGoes x)) _ _ _
  refine wpAny_noted ?_
  rw [compTurn_two0]
  refine wpAny_bind (wpAny_standAt (wpAny_bind ?_))
  by_cases hlt : i < ls.length
  · refine W.item i _ _ _ hlt ⟨hit', hl'⟩ fun v h₂ tk₂ hPv hst₂ hk₂ => ?_
    have hv : v = .ref ls[i].1 := by
      have hP' : (ls.map fun p => Value.ref p.1)[i]? = some v := by simpa using hPv
      rw [List.getElem?_map, List.getElem?_eq_getElem hlt] at hP'
      exact (Option.some.inj hP').symm
    subst hv
    obtain ⟨z1, z2, z3, z4, z5⟩ := hls ls[i] (List.getElem_mem hlt)
    have hn₂ : h₂.Ns C m' := hn'.at' fun o e => hk₂ _ o (by simpa using d4.symm) e
    have hD₂ : h₂.get? D = some (LCg.lst ws) := hk₂ _ _ (by simpa using d5.symm) hD'
    refine wpAny_bind (wpAny_pure (wpAny_bind (wpAny_assign_Name (wpAny_storeName_local hx (hC ▸ hn₂) (fun h₃ hn₃ hs₃ => ?_) hp))))
    rw [hC] at hn₃ hs₃
    have hk₃ : KeptBut C D I s.heap h₃ := fun b o b1 b2 b3 e => hs₃.extBut _ _ b1 (hk₂ _ _ (by simpa using b3) (hk' b o b1 b2 b3 e))
    have hD₃ : h₃.get? D = some (LCg.lst ws) := hs₃.extBut _ _ d6.symm hD₂
    have hI₃ : h₃.IsListIter I ax (i + 1) := hst₂.1.at fun o e => hs₃.extBut _ o d4 e
    have hwl : ws.length = ((ls.take i).flatMap (·.2.2)).length := by rw [hw.length, List.length_map]
    have hfl : (ls.flatMap (·.2.2)).length = ((ls.take i).flatMap (·.2.2)).length + (ls[i].2.2.length + ((ls.drop (i + 1)).flatMap (·.2.2)).length) := by
      conv => lhs; rw [← List.take_append_drop i ls, List.drop_eq_getElem_cons hlt]
      rw [List.flatMap_append, List.flatMap_cons, List.length_append, List.length_append]
    refine wpAny_bind (wpAny_tests_nil ?_)
    simp only [if_true]
    refine wpAny_bind (wpAny_Name (wpAny_loadName_local (v := .ref ls[i].1) (m := fun z => if z = x then some (.ref ls[i].1) else m' z) hk hx (hC ▸ hn₃) (by simp) ?_) hxd)
    refine wpAny_bind (wpAny_standAt (wpAny_bind (wpAny_pure (wpAny_bind (wpAny_holding (wpAny_pyIter_list (z1.at fun o e => hk₃ _ o z3 z4 z5 e) ?_))))))
    have hlt3 : ∀ {b o}, h₃.get? b = some o → b ≠ h₃.objs.size := fun e => Nat.ne_of_lt (Heap.lt_size e)
    obtain ⟨oC, esC, epC, heC, hrC⟩ := id hn₃
    obtain ⟨oI, heI, hrI⟩ := id hI₃
    obtain ⟨oA, heA, hrA⟩ := id (z1.at fun o e => hk₃ _ o z3 z4 z5 e)
    have fin9 := fun (h' : Heap) (tk' : Nat) (ws' : List Value) (m9 : Str → Option Value) (a1 : IntsAre ws' (ls[i].2.2.map (· - 1))) (a2 : h'.Ns C m9) (a3 : h'.get? D = some (LCg.lst (ws ++ ws'))) (a4 : KeptBut C D h₃.objs.size (h₃.push { cls := .type "list_iterator", data := .fields #[.ref ls[i].1, .int 0 0] }) h') =>
      (show ∃ i' h'' tk'' ws'' m'', ({ s with heap := h', toks := tk' } : Shared) = { s with heap := h'', toks := tk'' } ∧ i' ≤ ls.length ∧ ls.length + 1 - (i + 1) = ls.length + 1 - i' ∧ h''.IsListIter I ax i' ∧ IntsAre ws'' (((ls.take i').flatMap (·.2.2)).map (· - 1)) ∧ h''.Ns C m'' ∧ h''.get? D = some (LCg.lst ws'') ∧ KeptBut C D I s.heap h'' from
        ⟨i + 1, h', tk', ws ++ ws', m9, rfl, hlt, rfl, hI₃.at fun o e => a4 _ o d4 d5 (hlt3 e) (Heap.get?_push_of_some _ e), by
          rw [List.take_add_one, List.getElem?_eq_getElem hlt, Option.toList_some, List.flatMap_append, List.map_append, List.flatMap_cons, List.flatMap_nil, List.append_nil]
          exact hw.append a1, a2, a3, fun b o b1 b2 b3 e => a4 _ _ b1 b2 (hlt3 (hk₃ b o b1 b2 b3 e)) (Heap.get?_push_of_some _ (hk₃ b o b1 b2 b3 e))⟩)
    have eI2 : (h₃.push { cls := .type "list_iterator", data := .fields #[.ref ls[i].1, .int 0 0] }).get? h₃.objs.size = some { cls := .type "list_iterator", data := .fields #[.ref ls[i].1, .int 0 0] } := Heap.get?_push_size _ rfl
    have inner : codeAny (model prog w) A (.compLoop (two elt (.Name x px) i0 (.Name y py) (.Name x pi) scope pos) 1 (.ref h₃.objs.size) (.ref D) cenv) (fun r s' => match r with | .ok _ => ∃ k, k < ls.length + 1 - i ∧ (∃ i' h'' tk'' ws'' m'', s' = { s with heap := h'', toks := tk'' } ∧ i' ≤ ls.length ∧ k = ls.length + 1 - i' ∧ h''.IsListIter I ax i' ∧ IntsAre ws'' (((ls.take i').flatMap (·.2.2)).map (· - 1)) ∧ h''.Ns C m'' ∧ h''.get? D = some (LCg.lst ws'') ∧ KeptBut C D I s.heap h'') | .error _ => False) { s with heap := h₃.push { cls := .type "list_iterator", data := .fields #[.ref ls[i].1, .int 0 0] }, toks := tk₂ + 1 } := by
      refine two_inner (s := { s with heap := h₃.push { cls := .type "list_iterator", data := .fields #[.ref ls[i].1, .int 0 0] }, toks := tk₂ + 1 }) (ax := ls[i].1) (dv := ls[i].2.1) (ns := ls[i].2.2) (ys := ws) hC hh (by omega) hy hp (hlt3 heA) z3 z4 (hlt3 heC).symm (hlt3 hD₃).symm d6 ⟨_, eI2, rfl, rfl⟩ ((z1.at fun o e => hk₃ _ o z3 z4 z5 e).at fun o e => Heap.get?_push_of_some _ e) (Heap.get?_push_of_some _ hD₃) (hn₃.at' fun o e => Heap.get?_push_of_some _ e) z2 (fun n t s₂ m₁ Q' E' _ a b c => helt n t s₂ m₁ Q' E' a b c) fun h' tk' ws' m9 a1 a2 a3 a4 => ⟨_, ?_, fin9 h' tk' ws' m9 a1 a2 a3 a4⟩
      omega
    refine wpAny_bind (wpAny_runOwn (h := none) (codeAny_mono (two_start (.inr rfl) inner fun E' => wpAny_pyIter_listiter ⟨_, eI2, rfl, rfl⟩ inner) fun r s' hr => ?_))
    cases r with
    | ok f => exact wpAny_pure ⟨rfl, hr⟩
    | error e => exact hr.elim
  · have e : i = ls.length := by omega
    subst e
    refine W.done _ _ _ ⟨hit', hl'⟩ fun h₂ tk₂ hk₂ => wpAny_pure ?_
    rw [List.take_length] at hw
    exact fin _ _ ws m' hw (hn'.at' fun o e => hk₂ _ o (by simpa using d4.symm) e) (hk₂ _ _ (by simpa using d5.symm) hD') fun b o b1 b2 b3 e => hk₂ _ _ (by simpa using b3) (hk' b o b1 b2 b3 e)
/-- [elt for x in z for y in x], in place: the lists of the list z, each item lessened by one -/
theorem own_two {E : Value → Shared → Prop} {env : Env} {elt : PySem.Expr} {scope : Scope} {pos px py pi pz : Pos} {x y z : Str} {h₀ : Heap} {m : Str → Option Value} {ax : Addr} {ep : Nat} {ls : List (Addr × List Value × List Int)} {news : List (Addr × Obj)} {Q : Value → Shared → Prop}
    (hh : A.handled = none) (F : Fr h₀ env.locals s.heap m) (N : News h₀ env.locals s.heap news) (hm : (ax, listOf (ls.map fun p => Value.ref p.1).toArray ep) ∈ news) (hz : m z = some (.ref ax)) (hls : ∀ p ∈ ls, IntsAre p.2.1 p.2.2 ∧ ∃ k, (p.1, listOf p.2.1.toArray k) ∈ news) (hsz : (ls.flatMap (·.2.2)).length ≤ 1000)
    (hk : env.scope.kind = .function) (hlz : env.kindOf z = some .local) (hdz : (z == ("__debug__" : Str)) = false) (hxd : (x == ("__debug__" : Str)) = false)
    (hclos : closureFor scope env = pure []) (hkind : scope.kind = .function) (hnc : ∀ x ∈ scope.names, x.2 ≠ .cell) (hnames : ∀ z ∈ scope.names, z.2 = .local → scope.names.lookup z.1 = some .local)
    (hx : (relabel scope env).names.lookup x = some .local) (hy : (relabel scope env).names.lookup y = some .local)
    (helt : ∀ (C : Addr) n t (s₂ : Shared) m₁ (Q' E' : Value → Shared → Prop), s₂.heap.Ns C m₁ → m₁ y = some (.int n t) → (∀ t' tk', Q' (.int (n - 1) t') { s₂ with toks := tk' }) → wpAny (model prog w) A (eval elt (compEnvC scope [] C env)) Q' E' s₂)
    (h : ∀ D ys h' tk', s.heap.StaysIn h' → s.heap.get? D = none → h'.get? D = some (LCg.lst ys) → IntsAre ys ((ls.flatMap (·.2.2)).map (· - 1)) → Q (.ref D) { s with heap := h', toks := tk' })
    (hs : ∀ x, foldedSetIterable (.Name z pz) env x = pure x := by intro _; rfl) :
    wpAny (model prog w) A (eval (two elt (.Name x px) (.Name z pz) (.Name y py) (.Name x pi) scope pos) env) Q E s := by
  show wpAny _ A (comprehension (two elt (.Name x px) (.Name z pz) (.Name y py) (.Name x pi) scope pos) scope env _ (newList []) false (eval (.Name z pz) env)) _ _ s
  refine wpAny_comprehension_free rfl hs hclos hkind hnames (wpAny_Name (wpAny_loadName_local hk hlz F.ns hz ?_) hdz)
  have hl : s.heap.IsList ax (ls.map fun p => Value.ref p.1).toArray := ⟨_, (N _ hm).1, rfl, _, rfl⟩
  refine wpAny_pyIter_list hl ?_
  generalize hH1 : s.heap.push { cls := .type "list_iterator", data := .fields #[.ref ax, .int 0 0] } = H1
  have s1 : H1.objs.size = s.heap.objs.size + 1 := by rw [← hH1, Heap.size_push]
  refine wpAny_newObj_type ?_
  dsimp only
  generalize hH2 : H1.push { cls := .type "list", dict := none, data := .seq ([] : List Value).toArray } = H2
  have s2 : H2.objs.size = s.heap.objs.size + 2 := by rw [← hH2, Heap.size_push, s1]
  refine wpAny_newFunctionEnv hnc (fun _ hx => absurd hx (List.not_mem_nil)) (fun h4 hn4 hs4 => ?_) hkind
  have up1 : ∀ b o, s.heap.get? b = some o → H1.get? b = some o := fun b o e => hH1 ▸ Heap.get?_push_of_some _ e
  have up2 : ∀ b o, H1.get? b = some o → H2.get? b = some o := fun b o e => hH2 ▸ Heap.get?_push_of_some _ e
  have up4 : ∀ b o, H2.get? b = some o → h4.get? b = some o := fun b o e => hs4.extBut _ _ (Nat.ne_of_lt (Heap.lt_size e)) (Heap.get?_push_of_some _ e)
  have up : ∀ b o, s.heap.get? b = some o → h4.get? b = some o := fun b o e => up4 _ _ (up2 _ _ (up1 _ _ e))
  have eI : h4.get? s.heap.objs.size = some { cls := .type "list_iterator", data := .fields #[.ref ax, .int 0 0] } := up4 _ _ (up2 _ _ (hH1 ▸ Heap.get?_push_size _ rfl))
  have eD : h4.get? H1.objs.size = some (LCg.lst []) := up4 _ _ (hH2 ▸ Heap.get?_push_size _ rfl)
  have old : ∀ {b o}, s.heap.get? b = some o → b ≠ s.heap.objs.size ∧ b ≠ H1.objs.size ∧ b ≠ H2.objs.size := fun e => by
    have := Heap.lt_size e
    rw [s1, s2]
    exact ⟨Nat.ne_of_lt this, Nat.ne_of_lt (Nat.lt_of_lt_of_le this (Nat.le_add_right ..)), Nat.ne_of_lt (Nat.lt_of_lt_of_le this (Nat.le_add_right ..))⟩
  have d4 : @Ne Nat s.heap.objs.size H2.objs.size := by rw [s2]; omega
  have d5 : @Ne Nat s.heap.objs.size H1.objs.size := by rw [s1]; omega
  have d6 : @Ne Nat H2.objs.size H1.objs.size := by rw [s1, s2]; omega
  have loop : codeAny (model prog w) A (.compLoop (two elt (.Name x px) (.Name z pz) (.Name y py) (.Name x pi) scope pos) 0 (.ref s.heap.objs.size) (.ref H1.objs.size) (compEnvC scope [] H2.objs.size env)) (compPost (model prog w) A E none Q (.ref H1.objs.size) H2.objs.size) { s with heap := h4, toks := s.toks } := by
    refine two_outer (s := { s with heap := h4, toks := s.toks }) (C := H2.objs.size) (ax := ax) (ls := ls) rfl hh hsz hkind hx hxd hy (by show (scope.kind == .class || (scope.kind == .module && _)) = false; rw [hkind]; rfl) (old (N _ hm).1).1 (old (N _ hm).1).2.2 (old (N _ hm).1).2.1 d4 d5 d6 ⟨_, eI, rfl, rfl⟩ (hl.at fun o e => up _ o e) eD hn4 (fun p hp => ?_) (helt _) fun h' tk' ws m' a1 a2 a3 a4 => ?_
    · obtain ⟨b1, k, b2⟩ := hls p hp
      exact ⟨⟨_, up _ _ (N _ b2).1, rfl, _, rfl⟩, b1, (old (N _ b2).1).2.2, (old (N _ b2).1).2.1, (old (N _ b2).1).1⟩
    · refine ⟨m', a2, fun h'' hs'' => h _ ws h'' _ (fun b o e => ?_) (Heap.get?_none_of_le (by rw [s1]; exact Nat.le_succ _)) (hs''.extBut _ _ d6.symm a3) a1⟩
      have := old e
      exact hs''.extBut _ _ this.2.2 (a4 b o this.2.2 this.2.1 this.1 (up _ _ e))
  exact two_start (.inl rfl) loop fun E' => wpAny_pyIter_listiter ⟨_, eI, rfl, rfl⟩ loop
end
end
-- text TriC
section
open PySem PySem.W PyProof.Rows PySem.Calls PySem.Spec
theorem TriAll.get {led : List (Addr × Obj)} {vs : List Value} {rs : List (Int × Int × Int)} (h : TriAll led vs rs) : ∀ {i : Nat} {r}, rs[i]? = some r → ∃ v, vs[i]? = some v ∧ TriIn led v r := by
  induction h with
  | nil => intro i r e; simp at e
  | @cons v vs r₀ rs a _ ih =>
    intro i r e
    cases i with
    | zero => simp at e; exact ⟨v, rfl, e ▸ a⟩
    | succ i => simp at e; obtain ⟨v', e', t'⟩ := ih e; exact ⟨v', by simpa using e', t'⟩
noncomputable abbrev three (elt test iter : PySem.Expr) (x1 x2 x3 : Str) (p1 p2 p3 pt : Pos) (k : Nat) (scope : Scope) (pos : Pos) : PySem.Expr := .ListComp elt [⟨.Tuple [.Name x1 p1, .Name x2 p2, .Name x3 p3] k pt, iter, [test], 0⟩] scope pos
section
variable {prog : Program} {w : World} {A : Around} {R : Result → Shared → Prop} {s : Shared}
theorem compLoop_testsU {elt target iter : PySem.Expr} {ifs : List PySem.Expr} {scope : Scope} {pos : Pos} {it acc : Value} {env : Env} (I : Nat → Shared → Prop)
    (turn : ∀ n s (E' : Value → Shared → Prop), I n s → wpAny (model prog w) A (pyNext it) (fun r s₁ => match r with
      | none => R (.ok .next) s₁
      | some v => wpAny (model prog w) A (letOwnedTupleGo target it v) (fun _ s₀ => wpAny (model prog w) A (assign target env v) (fun _ s₂ =>
          wpAny (model prog w) A (forIn ifs true fun c r => if r = true then do let ok ← isTrue c env (eval c env); pure (ForInStep.yield ok) else pure (ForInStep.yield r)) (fun ok s₃ =>
            if ok = true then wpAny (model prog w) A (eval elt env) (fun x s₄ =>
              wpAny (model prog w) A (call (.builtin "list.append") [acc, x]) (fun _ s₅ => ∃ m, m < n ∧ I m s₅) E' s₄) E' s₃
            else ∃ m, m < n ∧ I m s₃) E' s₂) E' s₀) E' s₁) E' s)
    (n : Nat) (h : I n s) :
    codeAny (model prog w) A (.compLoop (.ListComp elt [⟨target, iter, ifs, 0⟩] scope pos) 0 it acc env) R s := by
  refine codeAny_loop rfl I (fun n s hI => ?_) n h
  show wpAny _ A ((compTurn (.ListComp elt [⟨target, iter, ifs, 0⟩] scope pos) 0 it acc env).onRaise (fun x => do noteFrame x env; theTreesLotGoes x)) _ _ s
  refine wpAny_noted ?_
  rw [compTurn_list]
  refine wpAny_bind (wpAny_standAt (wpAny_bind (wpAny_mono (turn n s _ hI) (fun r s₁ h₁ => ?_) fun _ _ h' => h')))
  cases r with
  | none => exact wpAny_pure h₁
  | some v =>
    refine wpAny_bind (wpAny_mono h₁ (fun _ s₀ h₀ => wpAny_bind (wpAny_mono h₀ (fun _ s₂ h₂ => wpAny_bind (wpAny_mono h₂ (fun ok s₃ h₃ => ?_) fun _ _ h' => h')) fun _ _ h' => h')) fun _ _ h' => h')
    cases ok with
    | false => exact wpAny_pure ⟨rfl, h₃⟩
    | true =>
      exact wpAny_bind (wpAny_bind (wpAny_mono h₃ (fun x s₄ h₄ => wpAny_bind (wpAny_mono h₄ (fun _ s₅ h₅ => wpAny_pure (wpAny_pure ⟨rfl, h₅⟩)) fun _ _ h' => h')) fun _ _ h' => h'))
/-- the state of the comprehension over a list of triples, behind i turns -/
noncomputable def TriS (s : Shared) (C D I : Addr) (rs : List (Int × Int × Int)) (p : Int × Int × Int → Bool) (f : Int × Int × Int → Int × Int × Int) (i : Nat) (h : Heap) : Prop :=
  ∃ ws tl m, TriAll tl ws (((rs.take i).filter p).map f) ∧ h.Ns C m ∧ h.get? D = some (LCg.lst ws) ∧ KeptBut C D I s.heap h ∧ (∀ q ∈ tl, h.get? q.1 = some q.2 ∧ s.heap.get? q.1 = none ∧ q.1 ≠ C ∧ q.1 ≠ D ∧ q.1 ≠ I)
theorem tri_loop {C D I ax : Addr} {cenv : Env} {elt test iter : PySem.Expr} {scope : Scope} {pos p1 p2 p3 pt : Pos} {x1 x2 x3 : Str} {k : Nat} {mC : Str → Option Value} {vs : List Value} {tl0 : List (Addr × Obj)} {rs : List (Int × Int × Int)} (p : Int × Int × Int → Bool) (f : Int × Int × Int → Int × Int × Int)
    (hC : cenv.locals = C) (hh : A.handled = none) (hsz : rs.length ≤ 1000) (hx1 : cenv.kindOf x1 = some .local) (hx2 : cenv.kindOf x2 = some .local) (hx3 : cenv.kindOf x3 = some .local) (h12 : x1 ≠ x2) (h13 : x1 ≠ x3) (h23 : x2 ≠ x3) (hp : (cenv.scope.kind == .class || (cenv.scope.kind == .module && cenv.locals != cenv.globals)) = false)
    (d1 : ax ≠ I) (d2 : ax ≠ C) (d3 : ax ≠ D) (d4 : I ≠ C) (d5 : I ≠ D) (d6 : C ≠ D) (hit : s.heap.IsListIter I ax 0) (hl : s.heap.IsList ax vs.toArray) (hD : s.heap.get? D = some (LCg.lst [])) (hn : s.heap.Ns C mC)
    (hT : TriAll tl0 vs rs) (htl : ∀ q ∈ tl0, s.heap.get? q.1 = some q.2 ∧ q.1 ≠ C ∧ q.1 ≠ D ∧ q.1 ≠ I)
    (htest : ∀ a b c t1 t2 t3 (s₂ : Shared) m₁ (Q' : Bool → Shared → Prop) (E' : Value → Shared → Prop), s₂.heap.Ns C m₁ → m₁ x1 = some (.int a t1) → m₁ x2 = some (.int b t2) → m₁ x3 = some (.int c t3) → (∀ tk', Q' (p (a, b, c)) { s₂ with toks := tk' }) → wpAny (model prog w) A (isTrue test cenv (eval test cenv)) Q' E' s₂)
    (helt : ∀ a b c t1 t2 t3 (s₂ : Shared) m₁ (Q' E' : Value → Shared → Prop), s₂.heap.Ns C m₁ → m₁ x1 = some (.int a t1) → m₁ x2 = some (.int b t2) → m₁ x3 = some (.int c t3) → (∀ u1 u2 u3 tk', Q' (.ref s₂.heap.objs.size) { s₂ with heap := s₂.heap.push (tupO [.int (f (a, b, c)).1 u1, .int (f (a, b, c)).2.1 u2, .int (f (a, b, c)).2.2 u3]), toks := tk' }) → wpAny (model prog w) A (eval elt cenv) Q' E' s₂)
    (fin : ∀ h' tk', TriS s C D I rs p f rs.length h' → R (.ok .next) { s with heap := h', toks := tk' }) :
    codeAny (model prog w) A (.compLoop (three elt test iter x1 x2 x3 p1 p2 p3 pt k scope pos) 0 (.ref I) (.ref D) cenv) R s := by
  have W := Walks.list (prog := prog) (w := w) hh I ax d1 vs.toArray
  have hlen : vs.toArray.size = rs.length := by simp [hT.length]
  rw [hlen] at W
  refine compLoop_testsU (fun k s' => ∃ i h' tk', s' = { s with heap := h', toks := tk' } ∧ i ≤ rs.length ∧ k = rs.length + 1 - i ∧ h'.IsListIter I ax i ∧ TriS s C D I rs p f i h') ?_ (rs.length + 1)
    ⟨0, s.heap, s.toks, rfl, Nat.zero_le _, rfl, hit, [], [], mC, .nil, hn, hD, fun _ _ _ _ _ e => e, fun q hq => (nomatch hq)⟩
  rintro k s' E' ⟨i, h', tk', rfl, hin, rfl, hit', ws, tl, m', hw, hn', hD', hk', htl'⟩
  have hl' : h'.IsList ax vs.toArray := hl.at fun o e => hk' _ _ d2 d3 d1 e
  by_cases hlt : i < rs.length
  · obtain ⟨v₀, hv₀, a, t1, t2, t3, rfl, ha⟩ := hT.get (List.getElem?_eq_getElem hlt)
    obtain ⟨ha1, ha2, ha3, ha4⟩ := htl _ ha
    refine W.item i _ _ _ hlt ⟨hit', hl'⟩ fun v h₂ tk₂ hPv hst₂ hk₂ => ?_
    have hv : v = .ref a := by
      have hP' : vs[i]? = some v := by simpa using hPv
      rw [hv₀] at hP'; exact (Option.some.inj hP').symm
    subst hv
    have K₂ : KeptBut C D I s.heap h₂ := fun b o b1 b2 b3 e => hk₂ _ _ (by simpa using b3) (hk' b o b1 b2 b3 e)
    have hn₂ : h₂.Ns C m' := hn'.at' fun o e => hk₂ _ o (by simpa using d4.symm) e
    have hD₂ : h₂.get? D = some (LCg.lst ws) := hk₂ _ _ (by simpa using d5.symm) hD'
    have hT₂ : ∀ q ∈ tl, h₂.get? q.1 = some q.2 := fun q hq => hk₂ _ _ (by simpa using (htl' q hq).2.2.2.2) (htl' q hq).1
    refine wpAny_letOwnedTupleGo_listiter hst₂.1 ?_
    have eT : h₂.IsTuple a #[.int rs[i].1 t1, .int rs[i].2.1 t2, .int rs[i].2.2 t3] := ⟨_, K₂ _ _ ha2 ha3 ha4 ha1, rfl, _, rfl⟩
    refine wpAny_assign_Tuple hh eT rfl rfl fun h₃ hs₃ => ?_
    have up₃ : ∀ b o, h₂.get? b = some o → h₃.get? b = some o := fun b o e => hs₃ _ _ (Nat.ne_of_lt (Heap.lt_size e)) e
    have hn₃ : h₃.Ns C m' := hn₂.at' fun o e => up₃ _ o e
    refine wpAny_assignInOrder_more (wpAny_assign_Name (wpAny_storeName_local hx1 (hC ▸ hn₃) (fun h₄ hn₄ hs₄ => wpAny_assignInOrder_more (wpAny_assign_Name (wpAny_storeName_local hx2 hn₄ (fun h₅ hn₅ hs₅ => wpAny_assignInOrder_more (wpAny_assign_Name (wpAny_storeName_local hx3 hn₅ (fun h₆ hn₆ hs₆ => wpAny_assignInOrder_none ?_) hp))) hp))) hp))
    rw [hC] at hn₄ hn₅ hn₆ hs₄ hs₅ hs₆
    have up₆ : ∀ b o, b ≠ C → h₂.get? b = some o → h₆.get? b = some o := fun b o hb e => hs₆.extBut _ _ hb (hs₅.extBut _ _ hb (hs₄.extBut _ _ hb (up₃ _ _ e)))
    have K₆ : KeptBut C D I s.heap h₆ := fun b o b1 b2 b3 e => up₆ _ _ b1 (K₂ b o b1 b2 b3 e)
    have hI₆ : h₆.IsListIter I ax (i + 1) := hst₂.1.at fun o e => up₆ _ o d4 e
    have hD₆ : h₆.get? D = some (LCg.lst ws) := up₆ _ _ d6.symm hD₂
    have hT₆ : ∀ q ∈ tl, h₆.get? q.1 = some q.2 := fun q hq => up₆ _ _ (htl' q hq).2.2.1 (hT₂ q hq)
    have hwl : ws.length ≤ i := by
      rw [hw.length, List.length_map]
      exact Nat.le_trans (List.length_filter_le ..) (by rw [List.length_take]; omega)
    have hdt : rs.take (i + 1) = rs.take i ++ [rs[i]] := by rw [List.take_add_one, List.getElem?_eq_getElem hlt, Option.toList_some]
    refine wpAny_tests_one ?_
    refine htest rs[i].1 rs[i].2.1 rs[i].2.2 t1 t2 t3 _ _ _ _ hn₆ (by simp [h12, h13]) (by simp [h23]) (by simp) fun tk₇ => ?_
    cases hpp : p (rs[i].1, rs[i].2.1, rs[i].2.2) with
    | false =>
      rw [if_neg (by decide)]
      refine ⟨rs.length + 1 - (i + 1), by omega, i + 1, h₆, tk₇, rfl, hlt, rfl, hI₆, ws, tl, _, ?_, hn₆, hD₆, K₆, fun q hq => ⟨hT₆ q hq, (htl' q hq).2⟩⟩
      rw [hdt, List.filter_append, List.filter_cons_of_neg (by rw [hpp]; decide)]
      simpa using hw
    | true =>
      rw [if_pos rfl]
      refine helt rs[i].1 rs[i].2.1 rs[i].2.2 t1 t2 t3 _ _ _ _ hn₆ (by simp [h12, h13]) (by simp [h23]) (by simp) fun u1 u2 u3 tk₈ => ?_
      dsimp only
      generalize hOT : tupO [.int (f (rs[i].1, rs[i].2.1, rs[i].2.2)).1 u1, .int (f (rs[i].1, rs[i].2.1, rs[i].2.2)).2.1 u2, .int (f (rs[i].1, rs[i].2.1, rs[i].2.2)).2.2 u3] = oT
      have up₇ : ∀ b o, h₆.get? b = some o → (h₆.push oT).get? b = some o := fun b o e => Heap.get?_push_of_some _ e
      have lt₆ : ∀ {b o}, h₆.get? b = some o → h₆.objs.size ≠ b := fun e => (Nat.ne_of_lt (Heap.lt_size e)).symm
      obtain ⟨oC, esC, epC, heC, hrC⟩ := id hn₆
      obtain ⟨oI, heI, hrI⟩ := id hI₆
      refine append_at (hsz := by show ws.toArray.size ≤ sizeLine; rw [List.size_toArray, sizeLine_eq]; omega) (up₇ _ _ hD₆) fun h₉ hs₉ hD₉ => ?_
      refine ⟨rs.length + 1 - (i + 1), by omega, i + 1, h₉, tk₈, rfl, hlt, rfl, (hI₆.at fun o e => up₇ _ o e).at fun o e => hs₉.extBut _ o d5 e, ws ++ [.ref h₆.objs.size], (h₆.objs.size, oT) :: tl, _, ?_, (hn₆.at' fun o e => up₇ _ o e).at' fun o e => hs₉.extBut _ o d6 e, hD₉.trans (congrArg some (LCg.lst_snoc _ _)), fun b o b1 b2 b3 e => hs₉.extBut _ _ b2 (up₇ _ _ (K₆ b o b1 b2 b3 e)), ?_⟩
      · rw [hdt, List.filter_append, List.filter_cons_of_pos (by exact hpp), List.map_append]
        exact (hw.mono fun q hq => .tail _ hq).snoc ⟨h₆.objs.size, u1, u2, u3, rfl, by rw [← hOT]; exact .head _⟩
      · intro q hq
        rcases List.mem_cons.mp hq with rfl | hq
        · refine ⟨hs₉.extBut _ _ (lt₆ hD₆) (Heap.get?_push_size _ (by rw [← hOT]; rfl)), ?_, lt₆ heC, lt₆ hD₆, lt₆ heI⟩
          cases e : s.heap.get? h₆.objs.size with
          | none => rfl
          | some o => exact absurd rfl (lt₆ (K₆ _ _ (lt₆ heC) (lt₆ hD₆) (lt₆ heI) e))
        · exact ⟨hs₉.extBut _ _ (htl' q hq).2.2.2.1 (up₇ _ _ (hT₆ q hq)), (htl' q hq).2⟩
  · have e : i = rs.length := by omega
    subst e
    refine W.done _ _ _ ⟨hit', hl'⟩ fun h₂ tk₂ hk₂ => ?_
    exact fin _ _ ⟨ws, tl, m', hw, hn'.at' fun o e => hk₂ _ o (by simpa using d4.symm) e, hk₂ _ _ (by simpa using d5.symm) hD', fun b o b1 b2 b3 e => hk₂ _ _ (by simpa using b3) (hk' b o b1 b2 b3 e), fun q hq => ⟨hk₂ _ _ (by simpa using (htl' q hq).2.2.2.2) (htl' q hq).1, (htl' q hq).2⟩⟩
/-- y = [elt for (x1, x2, x3) in z if test], z a list of triples of the ledger -/
theorem own_tri {E : Value → Shared → Prop} {env : Env} {elt test : PySem.Expr} {scope : Scope} {pos spos p1 p2 p3 pt pz py : Pos} {x1 x2 x3 y z : Str} {k : Nat} {h₀ : Heap} {m : Str → Option Value} {ax : Addr} {ep : Nat} {vs : List Value} {rs : List (Int × Int × Int)} {news : List (Addr × Obj)} {Q : Flow → Shared → Prop} (p : Int × Int × Int → Bool) (f : Int × Int × Int → Int × Int × Int)
    (hh : A.handled = none) (F : Fr h₀ env.locals s.heap m) (N : News h₀ env.locals s.heap news) (hm : (ax, listOf vs.toArray ep) ∈ news) (hz : m z = some (.ref ax)) (hT : TriAll news vs rs) (hsz : rs.length ≤ 1000)
    (hk : env.scope.kind = .function) (hlz : env.kindOf z = some .local) (hdz : (z == ("__debug__" : Str)) = false)
    (hsw : swapsWith (three elt test (.Name z pz) x1 x2 x3 p1 p2 p3 pt k scope pos) (some (.Name y py)) spos.line env = pure true)
    (hclos : closureFor scope env = pure []) (hkind : scope.kind = .function) (hnc : ∀ x ∈ scope.names, x.2 ≠ .cell) (hnames : ∀ z ∈ scope.names, z.2 = .local → scope.names.lookup z.1 = some .local)
    (hx1 : (relabel scope env).names.lookup x1 = some .local) (hx2 : (relabel scope env).names.lookup x2 = some .local) (hx3 : (relabel scope env).names.lookup x3 = some .local) (h12 : x1 ≠ x2) (h13 : x1 ≠ x3) (h23 : x2 ≠ x3)
    (hy : env.kindOf y = some .local) (hp : (env.scope.kind == .class || (env.scope.kind == .module && env.locals != env.globals)) = false)
    (htest : ∀ (C : Addr) a b c t1 t2 t3 (s₂ : Shared) m₁ (Q' : Bool → Shared → Prop) (E' : Value → Shared → Prop), s₂.heap.Ns C m₁ → m₁ x1 = some (.int a t1) → m₁ x2 = some (.int b t2) → m₁ x3 = some (.int c t3) → (∀ tk', Q' (p (a, b, c)) { s₂ with toks := tk' }) → wpAny (model prog w) A (isTrue test (compEnvC scope [] C env) (eval test (compEnvC scope [] C env))) Q' E' s₂)
    (helt : ∀ (C : Addr) a b c t1 t2 t3 (s₂ : Shared) m₁ (Q' E' : Value → Shared → Prop), s₂.heap.Ns C m₁ → m₁ x1 = some (.int a t1) → m₁ x2 = some (.int b t2) → m₁ x3 = some (.int c t3) → (∀ u1 u2 u3 tk', Q' (.ref s₂.heap.objs.size) { s₂ with heap := s₂.heap.push (tupO [.int (f (a, b, c)).1 u1, .int (f (a, b, c)).2.1 u2, .int (f (a, b, c)).2.2 u3]), toks := tk' }) → wpAny (model prog w) A (eval elt (compEnvC scope [] C env)) Q' E' s₂)
    (h : ∀ D ws tl' h' tk', Fr h₀ env.locals h' (fun u => if u = y then some (.ref D) else m u) → News h₀ env.locals h' ((D, LCg.lst ws) :: (tl' ++ news)) → TriAll tl' ws ((rs.filter p).map f) → Q .next { s with heap := h', toks := tk' })
    (hs : ∀ x, foldedSetIterable (.Name z pz) env x = pure x := by intro _; rfl) :
    wpAny (model prog w) A (exec (.Assign [.Name y py] (three elt test (.Name z pz) x1 x2 x3 p1 p2 p3 pt k scope pos) spos) env) Q E s := by
  rw [exec_Assign_Name_used _ _ _ _ hsw]
  refine wpAny_bind (wpAny_standAt (wpAny_bind ?_))
  show wpAny _ A (do let _ ← comprehension (three elt test (.Name z pz) x1 x2 x3 p1 p2 p3 pt k scope pos) scope env _ (newList []) false (eval (.Name z pz) env) (some (assign (.Name y py) env))) _ _ s
  refine wpAny_bind (wpAny_mono (wpAny_comprehension_free (use := some (assign (.Name y py) env)) (Q := fun _ s' => Q .next s') rfl hs hclos hkind hnames
    (wpAny_Name (wpAny_loadName_local hk hlz F.ns hz ?_) hdz)) (fun _ s' hq => wpAny_pure (wpAny_pure hq)) fun _ _ e => e)
  have hl : s.heap.IsList ax vs.toArray := ⟨_, (N _ hm).1, rfl, _, rfl⟩
  refine wpAny_pyIter_list hl ?_
  generalize hH1 : s.heap.push { cls := .type "list_iterator", data := .fields #[.ref ax, .int 0 0] } = H1
  have s1 : H1.objs.size = s.heap.objs.size + 1 := by rw [← hH1, Heap.size_push]
  refine wpAny_newObj_type ?_
  dsimp only
  generalize hH2 : H1.push { cls := .type "list", dict := none, data := .seq ([] : List Value).toArray } = H2
  have s2 : H2.objs.size = s.heap.objs.size + 2 := by rw [← hH2, Heap.size_push, s1]
  refine wpAny_newFunctionEnv hnc (fun _ hx => absurd hx (List.not_mem_nil)) (fun h4 hn4 hs4 => ?_) hkind
  have up1 : ∀ b o, s.heap.get? b = some o → H1.get? b = some o := fun b o e => hH1 ▸ Heap.get?_push_of_some _ e
  have up2 : ∀ b o, H1.get? b = some o → H2.get? b = some o := fun b o e => hH2 ▸ Heap.get?_push_of_some _ e
  have up4 : ∀ b o, H2.get? b = some o → h4.get? b = some o := fun b o e => hs4.extBut _ _ (Nat.ne_of_lt (Heap.lt_size e)) (Heap.get?_push_of_some _ e)
  have up : ∀ b o, s.heap.get? b = some o → h4.get? b = some o := fun b o e => up4 _ _ (up2 _ _ (up1 _ _ e))
  have eI : h4.get? s.heap.objs.size = some { cls := .type "list_iterator", data := .fields #[.ref ax, .int 0 0] } := up4 _ _ (up2 _ _ (hH1 ▸ Heap.get?_push_size _ rfl))
  have eD : h4.get? H1.objs.size = some (LCg.lst []) := up4 _ _ (hH2 ▸ Heap.get?_push_size _ rfl)
  have old : ∀ {b o}, s.heap.get? b = some o → b ≠ s.heap.objs.size ∧ b ≠ H1.objs.size ∧ b ≠ H2.objs.size := fun e => by
    have := Heap.lt_size e
    rw [s1, s2]
    exact ⟨Nat.ne_of_lt this, Nat.ne_of_lt (Nat.lt_of_lt_of_le this (Nat.le_add_right ..)), Nat.ne_of_lt (Nat.lt_of_lt_of_le this (Nat.le_add_right ..))⟩
  have d4 : @Ne Nat s.heap.objs.size H2.objs.size := by rw [s2]; omega
  have d5 : @Ne Nat s.heap.objs.size H1.objs.size := by rw [s1]; omega
  have d6 : @Ne Nat H2.objs.size H1.objs.size := by rw [s1, s2]; omega
  have hLlt : env.locals < s.heap.objs.size := F.ns.lt
  have above : ∀ a, s.heap.objs.size ≤ a → a ≠ env.locals ∧ h₀.get? a = none := fun a ha =>
    ⟨Nat.ne_of_gt (Nat.lt_of_lt_of_le hLlt ha), Heap.get?_none_of_le (Nat.le_trans F.above (Nat.le_trans (Nat.le_of_lt hLlt) ha))⟩
  have loop : codeAny (model prog w) A (.compLoop (three elt test (.Name z pz) x1 x2 x3 p1 p2 p3 pt k scope pos) 0 (.ref s.heap.objs.size) (.ref H1.objs.size) (compEnvC scope [] H2.objs.size env)) (compPost (model prog w) A E (some (assign (.Name y py) env)) (fun _ s' => Q .next s') (.ref H1.objs.size) H2.objs.size) { s with heap := h4, toks := s.toks } := by
    refine tri_loop (s := { s with heap := h4, toks := s.toks }) (C := H2.objs.size) (ax := ax) (vs := vs) (tl0 := news) p f rfl hh hsz hx1 hx2 hx3 h12 h13 h23 (by show (scope.kind == .class || (scope.kind == .module && _)) = false; rw [hkind]; rfl) (old (N _ hm).1).1 (old (N _ hm).1).2.2 (old (N _ hm).1).2.1 d4 d5 d6 ⟨_, eI, rfl, rfl⟩ (hl.at fun o e => up _ o e) eD hn4 hT (fun q hq => ⟨up _ _ (N q hq).1, (old (N q hq).1).2.2, (old (N q hq).1).2.1, (old (N q hq).1).1⟩) (htest _) (helt _) fun h' tk' hS => ?_
    obtain ⟨ws, tl, m', hw, hn', hD', hK, htl⟩ := hS
    rw [List.take_length] at hw
    have up' : ∀ b o, s.heap.get? b = some o → h'.get? b = some o := fun b o e => by
      have := old e
      exact hK b o this.2.2 this.2.1 this.1 (up _ _ e)
    have F' : Fr h₀ env.locals h' m := F.keeps up'
    have sz : s.heap.objs.size < h4.objs.size := Heap.lt_size eI
    have N' : News h₀ env.locals h' ((H1.objs.size, LCg.lst ws) :: (tl ++ news)) := by
      intro q hq
      rcases List.mem_cons.mp hq with rfl | hq
      · exact ⟨hD', above _ (by rw [s1]; omega)⟩
      · rcases List.mem_append.mp hq with hq | hq
        · refine ⟨(htl q hq).1, ?_⟩
          have := (htl q hq).2.1
          refine ⟨fun e => ?_, ?_⟩
          · obtain ⟨oL, _, _, hL, _⟩ := F.ns
            rw [e, up _ _ hL] at this; cases this
          · cases e : h₀.get? q.1 with
            | none => rfl
            | some o => rw [up _ _ (F.keep _ _ e)] at this; cases this
        · exact ⟨up' _ _ (N q hq).1, (N q hq).2⟩
    show wpAny _ A (assign (.Name y py) env (.ref H1.objs.size)) _ _ _
    refine wpAny_assign_Name (wpAny_storeName_local hy F'.ns (fun h₂ hn₂ hs₂ => ?_) hp)
    have F₂ : Fr h₀ env.locals h₂ (fun z => if z = y then some (.ref H1.objs.size) else m z) := F'.set hn₂ hs₂
    have N₂ := N'.set hs₂
    have hC2 := above H2.objs.size (by rw [s2]; omega)
    refine ⟨m', hn'.at' fun o e => hs₂.extBut _ o hC2.1 e, fun h'' hs'' => h _ ws tl h'' _ (F₂.change hs'' hC2.1 hC2.2) (news_same (b := H2.objs.size) N₂ hs''.extBut ?_) hw⟩
    intro q hq
    rcases List.mem_cons.mp hq with rfl | hq
    · exact d6.symm
    · rcases List.mem_append.mp hq with hq | hq
      · exact (htl q hq).2.2.1
      · exact (old (N q hq).1).2.2
  exact codeAny_compStart_list loop (wpAny_pyIter_listiter ⟨_, eI, rfl, rfl⟩ loop)
end
end
-- text GenX
section
open PySem PySem.W PyProof.Rows PySem.Calls PySem.Spec
theorem over_func (A : Around) (body : List Stmt) (env : Env) : A.over (.func body env) [] = A.deeper env := rfl
theorem over_for (A : Around) {target : PySem.Expr} {it : Value} {lb body : List Stmt} {env : Env} {k : Result → Sem Fin} {g : Bool} {l kp : List Value} {p : Pos} :
    A.over (.forLoop target it lb [] env) [.ret k none g l (.func body env) p kp] = A.deeper env := by
  first | rfl | (cases A; rfl)

section
variable {prog : Program} {w : World} {A : Around} {R : GenEnd} {Y : Protocol} {n : Nat} {s₀ : Shared} {s : Shared} {env : Env}
/-- a raise out of a loop of a generator, and out of its frame -/
theorem seg_raises {target : PySem.Expr} {it : Value} {lb body : List Stmt} {K : Flow → Sem Fin} {gd : Bool → Bool} {lv : List Value → List Value} {g : Bool} {l : List Value} {p : Pos} {e : Value} {E₁ : Value → Shared → Prop}
    (h : wpAny (model prog w) (A.deeper env) (leaving env e) (fun _ s₃ => R n s₀ (.error e) s₃) E₁ s)
    (hE : ∀ x s', E₁ x s' → R n s₀ (.error x) s') :
    Seg (model prog w) A R Y n s₀ (.forLoop target it lb [] env) (sgH env e)
      [.ret (fun r => ((match r with | .ok f => (.pure f : Sem Flow) | .error e => .raise e).onRaise fun (x : Value) => do
        if (← field x 1) == Value.none then unsupported "frame.own-activation:exception-without-traceback"
        setFlight x env.frame).wrap K (fun e => (leaving env e).wrap (fun _ => .raise e) .raise id id) gd lv) none g l (.func body env) p []] s := by
  have again := wpAny_leaving_again (M := model prog w) (A := A.deeper env) (A' := A.deeper env) (A'' := A.deeper env) (SameStack.refl _) (what := "frame.own-activation:exception-without-traceback") (E₂ := fun _ _ => False) (E₃ := fun _ _ => False) h
  unfold sgH
  refine seg_wrap ?_
  rw [over_for]
  refine wpAny_bind (wpAny_mono again (fun _ s₁ h₁ => wpAny_theTreesLotGoes ?_) fun _ _ x => x.elim)
  refine seg_leaf (.error e) ?_
  show Seg _ A R Y n s₀ _ (((Sem.raise e).onRaise fun (x : Value) => do
        if (← field x 1) == Value.none then unsupported "frame.own-activation:exception-without-traceback"
        setFlight x env.frame).wrap K (fun e => (leaving env e).wrap (fun _ => .raise e) .raise id id) gd lv) [] s₁
  rw [Sem.onRaise_eq_wrap, Sem.wrap_wrap]
  show Seg _ A R Y n s₀ _ (((do
        if (← field e 1) == Value.none then unsupported "frame.own-activation:exception-without-traceback"
        setFlight e env.frame : Sem Unit).bind fun _ => .raise e).wrap _ _ _ _) [] s₁
  rw [Sem.bind_eq_wrap, Sem.wrap_wrap]
  refine seg_wrap ?_
  rw [over_func]
  refine wpAny_mono h₁ (fun _ s₂ h₂ => ?_) fun _ _ x => x.elim
  show Seg _ A R Y n s₀ _ ((leaving env e).wrap (fun _ => .raise e) .raise id id) [] s₂
  refine seg_wrap ?_
  rw [over_func]
  exact wpAny_mono h₂ (fun _ s₃ h₃ => seg_end (.error e) h₃) fun x s₃ h₃ => seg_end (.error x) (hE x s₃ h₃)
end
section
variable {prog : Program} {w : World} {A : Around} {E : Value → Shared → Prop} {s : Shared}
/-- next(g) of a generator that raises at once -/
theorem own_nextX {a : Addr} {g n : Nat} {gs : GenState} {P : Nat → Shared → Addr → Shared → Prop} {X : String} {Q : Option Value → Shared → Prop}
    (hl : s.heap.NoLimit) (hroom : A.depth < recursionLimit) (hg : s.heap.IsGen a g) (hgs : s.gens[g]? = some gs) (hX : isSubtype (.type X) (.type "StopIteration") = pure false)
    (hgo : gs.Goes (model prog w) A.in1 (fun n s₀ r s₁ => ∃ e, r = .error (.ref e) ∧ P n s₀ e s₁) (fun _ _ _ _ _ => False) n (.send .none) (s.setGen g .running))
    (hP : ∀ e s₁, P n (s.setGen g .running) e s₁ → s₁.heap.IsGen a g ∧ (∃ o, s₁.heap.get? e = some o ∧ o.cls = .type X) ∧ E (.ref e) (s₁.setGen g .finished)) :
    wpAny (model prog w) A (pyNext (.ref a)) Q E s := by
  unfold pyNext
  refine wpAny_bind (wpAny_attempt (wpAny_callSpecial?_slot (name := Str.ofString "__next__") hg.typeIs slot_gen_next
    (wpAny_call_entry slot_gen_next hg.typeIs entry_gen_next ?_ (args_gen_next _))))
  show wpAny _ _ (Builtin.Generator.genWake (.ref a) (.send .none)) _ _ s
  unfold Builtin.Generator.genWake
  refine wpAny_bind (wpAny_holding (wpAny_genNumber hg (wpAny_bind (wpAny_genState hgs ?_))))
  cases gs with
  | running => exact hgo.elim
  | finished => exact hgo.elim
  | _ =>
    refine wpAny_bind (wpAny_roomToWake hl hroom ?_)
    refine wpAny_resumeQ (l := []) hgs hgo (fun x s₁ hx => ?_) fun v s₁ gs' hb hv => hv.elim
    obtain ⟨e, rfl, hp⟩ := hx
    obtain ⟨hg', ⟨o, ho, hc⟩, hE⟩ := hP e s₁ hp
    show wpAny _ _ (Builtin.Generator.genLeft (.ref a) (.ref e)) _ _ _
    obtain ⟨og, nm, qn, hog, hogc, hogd, hogs⟩ := hg'
    unfold Builtin.Generator.genLeft Builtin.Generator.madeByALambda
    refine wpAny_bind (wpAny_bind (wpAny_load hog (wpAny_pure ?_)))
    refine wpAny_bind (wpAny_isInstance (T := X) (b := false) ⟨o, ho, hc⟩ hX ?_)
    rw [Bool.and_false, if_neg (by decide)]
    unfold Builtin.Generator.genEscaped
    refine wpAny_bind (wpAny_isInstance (T := X) (b := false) ⟨o, ho, hc⟩ hX ?_)
    simp only [Bool.not_false, if_true]
    exact wpAny_throw (wpAny_bind (wpAny_isInstance (T := X) (b := false) ⟨o, ho, hc⟩ hX (wpAny_throw hE)))
end
end
section
open PySem PySem.W PyProof.Rows PySem.Calls PySem.Spec
local macro_rules | `(tactic| no_dict) => `(tactic| exact Heap.NoDictAt.keeps (Fr.keep (by assumption)) (by assumption))
local macro_rules | `(tactic| tb_start) => `(tactic| first | omega | ((simp only [List.length_cons, List.length_nil] at *); omega))
local macro_rules | `(tactic| cell_enter) => `(tactic| k_extra "cell_enter")
local macro_rules | `(tactic| units_room) => `(tactic| k_extra "units_room")
local macro_rules | `(tactic| tb_rel) => `(tactic| k_extra "tb_rel")
local macro_rules | `(tactic| kst_same) => `(tactic| k_extra "kst_same")
local macro_rules | `(tactic| k_mem) => `(tactic| first | assumption | exact List.Mem.head _ | exact List.mem_append.mpr (.inl (by assumption)) | (refine' List.Mem.tail _ ?_; k_mem))
local macro_rules | `(tactic| k_ne) => `(tactic| (refine neN ?_; (try dsimp only); first | assumption | exact Ne.symm (by assumption) | omega))
local macro_rules | `(tactic| walk_at $s:str) => `(tactic| first | k_extra $s | k_dflt (k_extra $s))
-- text due
section
noncomputable def dueA (ns : List Int) : List Int := if (ns.any fun x => x == 127) = true then cutI ns none (some (List.idxOf (127 : Int) ns : Nat)) else ns
noncomputable def dueB (d : List Int) : List Int := if cutI d none (some 1) = [0] then [6] else if (d.any fun x => x == 0) = true then
    cutI d none (some (List.idxOf (0 : Int) d : Nat)) ++ repI (4 - ((cutI d none (some (List.idxOf (0 : Int) d : Nat))).length : Nat)) (cutI (cutI d none (some (List.idxOf (0 : Int) d : Nat))) (some (-1)) none) else d
noncomputable def dueL (ns : List Int) : List Int := dueB (dueA ns)

theorem reg_due_1 : True := by
  k_with_none
  k_with "cell_enter" => (refine' own_def0 ?cek1 ?cek2 ?cek3 ?cek5 ?cekA ?cekF ?cekK ?cek6 ?cek7 ?cek8 ?cek9 ?cekB ?_ ?cec2 ?cec3 ?cec4 ?cec5; (case cekA => exact rfl); (case cekF => exact rfl); (case cekK => assumption); (case cek1 => k_asm); (case cek2 => k_asm); (case cek3 => k_asm); (case cek5 => k_asm); (case cek6 => k_is); (case cek7 => k_is); (case cek8 => ktr_room); (case cek9 => exact BindsTo.of_eq rfl); (case cec5 => decide); (case cekB => exact locs rfl); (case cec2 => exact rfl); (case cec3 => exact rfl); (case cec4 => exact rfl); k_whole; intro _ _ _ Bq9 _ _; (try dsimp only); (try k_lift Bq9); (try k_fold))
  k_with "units_room" => (have hcL9 := cLine_is; (try dsimp only [ktrTop]); simp only [units_in1, units_deeper, Around.mark_units, units_caller]; omega)
  k_with "call builtin:list.index" => (k_here; (with_reducible show wpAny _ _ (call (Value.builtin _) [Value.ref _, Value.int _ _]) _ _ _); k_dflt (refine' own_index (by is_list) (by l_ints) (by tb_start) (by first | assumption | exact any_mem (by assumption)) ?_; k_whole))
  k_with "getMethod ref" => ((with_reducible show wpAny _ _ (getMethod (Value.ref _) (Str.ofString "index") _) _ _ _); k_dflt (refine getMethod_list_of PySem.F.slot_list_index PySem.F.type_list_index (by is_list) (by no_dict) ?_))
  k_with "call builtin:len" => (k_here; (with_reducible show wpAny _ _ (call (Value.builtin "len") [Value.ref _]) _ _ _); k_dflt (refine' own_len (by is_list) (by l_ints) (by tb_start) ?_; k_whole))
  k_with "subscriptTail Name Slice ref ref" => (k_here; (with_reducible show wpAny _ _ (subscriptTail _ (PySem.Expr.Slice _ _ none _) (Value.ref _) (Value.ref _)) _ _ _); k_dflt (refine' own_slice (by k_asm) (by k_asm) (by kmk_list) (by l_ints) (by tb_start) (by kmk_part) (by kmk_part) ?_ (by with_unfolding_all rfl) (by kmk_pure); k_whole); intro _ _ _ _ _ l1q _ _; (try k_lt l1q); (try k_sweep))
  k_with "binaryOp Mult ref int" => (k_here; (with_reducible show wpAny _ _ (binaryOp Operator.Mult (Value.ref _) (Value.int _ _)) _ _ _); k_dflt (refine' own_mul (by k_asm) (by k_asm) (by is_list) (by first | l_ints | l_intsW) (by tb_start) (by tb_start) (by exact mul_small (by tb_start) (by tb_start)) ?_; k_whole); intro _ _ _ _ _ l1q _ _; (try k_lt l1q); (try k_sweep))
  k_with "binaryOp Add ref ref" => (k_here; (with_reducible show wpAny _ _ (binaryOp Operator.Add (Value.ref _) (Value.ref _)) _ _ _); k_dflt (refine' own_add (by k_asm) (by k_asm) (by is_list) (by is_list) (by first | l_ints | l_intsW) (by first | l_ints | l_intsW) (by tb_start) ?_; k_whole); intro _ _ _ _ _ l1q _ _; (try k_lt l1q); (try k_sweep))
  k_with "subscriptTail Name Slice str ref" => ((with_reducible show wpAny _ _ (subscriptTail _ (Expr.Slice none (some _) none _) _ _) _ _ _); (with_reducible rename Fr _ _ _ _ => F'q); (with_reducible rename News _ _ _ _ => N'q); refine slice_strN_ns_len (hsz := (by first | exact Short.fits (by assumption) | (rw [sizeLine_eq]; omega))) (s := ⟨_, _, _, _, _⟩) F'q N'q ?_; intro _ _ _ F'q N'q _; (try k_sweep))
  k_with "subscriptTail Name Slice str ref" => ((with_reducible show wpAny _ _ (subscriptTail _ (Expr.Slice (some _) none none _) _ _) _ _ _); (with_reducible rename Fr _ _ _ _ => F'q); (with_reducible rename News _ _ _ _ => N'q); refine slice_strN_sn_len (hsz := (by first | exact Short.fits (by assumption) | (rw [sizeLine_eq]; omega))) (s := ⟨_, _, _, _, _⟩) F'q N'q ?_; intro _ _ _ F'q N'q _; (try k_sweep))
  k_with "tb_rel" => (intro _ h9q k9q; (simp only [List.forall_mem_cons, List.not_mem_nil, false_implies, implies_true, and_true, ne_eq] at h9q); (try simp only [List.contains_cons, List.contains_nil, Bool.or_false, Bool.or_eq_false_iff, beq_eq_false_iff_ne, ne_eq] at k9q); simp [kstB, h9q, k9q])
  trivial
set_option maxHeartbeats 8000000 in
theorem due_c {w : World} {p : Program} {loose : List Str} {mean : ExcName → Option Value} {mg mb : Str → Option Value} {dp un : Nat} {gd : Option (List Code)} {cn : Str} {cs : Scope} {a : Addr} {ccd : Value} {cl : List (Str × Addr)} {outer : List Env} {A₀ : Around} {base h₀ : Heap} {L : Addr} {m : Str → Option Value} {s : Shared} {Q E : Value → Shared → Prop}
    {r : Addr} {ns : List Int} {vr : List Value} {rn : Nat}
    (B : Below A₀ base outer h₀) (F : Fr h₀ L s.heap m) (X : (hd.heap_1 w.params).In h₀) (T : Top p loose mean mg mb h₀) (hk : cs.kind = .function)
    (ho : s.heap.get? r = some (listOf vr.toArray rn)) (hi : IntsAre vr ns) (hz : ns.length ≤ 3) (hd : dp + 10 < recursionLimit) (hu : un + 200 < cLine)
    (hret : ∀ l n vs h' tk', s.heap.StaysIn h' → h'.get? l = some (listOf (List.toArray vs) n) → (l = r ∨ s.heap.get? l = none) → IntsAre vs (dueL ns) → Q (.ref l) { s with heap := h', toks := tk' }) :
    wpAny (model PySem.Challenge.rw_st0029_01.row.prog w) (ktrTop dp un gd cn cs L a ccd cl outer) (call (.ref 111) [.ref r]) Q E s := by
  w_top off
  revert X
  k_fill
  intro X
  have hr : s.heap.IsList r vr.toArray := ⟨_, ho, rfl, _, rfl⟩
  have hnd : s.heap.NoDictAt (.ref r) := ⟨_, ho, rfl⟩
  refine wpAny_call ?_
  k_dflt cell_enter
  k_steps
  all_goals dsimp only [qk, Ret]
  · refine hret _ _ _ _ _ (Fr.keep (by assumption)) (News.get (by assumption) (by k_mem)) (.inr (News.fresh (by assumption) (by k_mem))) ?_
    unfold dueL dueA; rw [if_pos (by assumption)]; unfold dueB; rw [if_pos (by assumption)]; l_intsW
  · refine hret _ _ _ _ _ (Fr.keep (by assumption)) (News.get (by assumption) (by k_mem)) (.inr (News.fresh (by assumption) (by k_mem))) ?_
    unfold dueL dueA; rw [if_pos (by assumption)]; unfold dueB; rw [if_neg (by assumption), if_pos (by assumption)]; assumption
  · refine hret _ _ _ _ _ (Fr.keep (by assumption)) (News.get (by assumption) (by k_mem)) (.inr (News.fresh (by assumption) (by k_mem))) ?_
    unfold dueL dueA; rw [if_pos (by assumption)]; unfold dueB; rw [if_neg (by assumption), if_neg (by rw [Bool.not_eq_true]; assumption)]; assumption
  · refine hret _ _ _ _ _ (Fr.keep (by assumption)) (News.get (by assumption) (by k_mem)) (.inr (News.fresh (by assumption) (by k_mem))) ?_
    unfold dueL dueA; rw [if_neg (by rw [Bool.not_eq_true]; assumption)]; unfold dueB; rw [if_pos (by assumption)]; l_intsW
  · refine hret _ _ _ _ _ (Fr.keep (by assumption)) (News.get (by assumption) (by k_mem)) (.inr (News.fresh (by assumption) (by k_mem))) ?_
    unfold dueL dueA; rw [if_neg (by rw [Bool.not_eq_true]; assumption)]; unfold dueB; rw [if_neg (by assumption), if_pos (by assumption)]; assumption
  · refine hret r rn vr _ _ (Fr.keep (by assumption)) (Fr.keep (by assumption) _ _ ho) (.inl rfl) ?_
    unfold dueL dueA; rw [if_neg (by rw [Bool.not_eq_true]; assumption)]; unfold dueB; rw [if_neg (by assumption), if_neg (by rw [Bool.not_eq_true]; assumption)]; assumption
end
-- text lead
section
noncomputable def leadStep (l : Str) (n : Int) : Str :=
  if ([33, 34, 35, 47].any fun x => x == n) = true then l ++ Str.ofString "  " else if ([44, 45, 46, 48].any fun x => x == n) = true then l ++ Str.ofString " \t"
  else if ([29, 30, 38, 39].any fun x => x == n) = true then l ++ Str.ofString "\t" else if n = 31 then l ++ Str.ofString " " else l
noncomputable def leadF (ns : List Int) : Str := ns.foldl leadStep Str.empty
theorem leadF_snoc (pre : List Int) (n : Int) : leadF (pre ++ [n]) = leadStep (leadF pre) n := by unfold leadF; rw [List.foldl_append]; rfl
theorem lead_1 {l : Str} {pre : List Int} {n : Int} (h : l = leadF pre) (hl : l.length ≤ 2 * pre.length) (a : ([33, 34, 35, 47].any fun x => x == n) = true) :
    l ++ Str.ofString "  " = leadF (pre ++ [n]) ∧ (l ++ Str.ofString "  ").length ≤ 2 * (pre ++ [n]).length := by
  refine ⟨?_, ?_⟩
  · rw [leadF_snoc, leadStep, if_pos a, h]
  · rw [Str.length_append, List.length_append, show (Str.ofString "  ").length = 2 by decide]; simp only [List.length_cons, List.length_nil]; omega
theorem lead_2 {l : Str} {pre : List Int} {n : Int} (h : l = leadF pre) (hl : l.length ≤ 2 * pre.length) (a : ([33, 34, 35, 47].any fun x => x == n) = false) (b : ([44, 45, 46, 48].any fun x => x == n) = true) :
    l ++ Str.ofString " \t" = leadF (pre ++ [n]) ∧ (l ++ Str.ofString " \t").length ≤ 2 * (pre ++ [n]).length := by
  refine ⟨?_, ?_⟩
  · rw [leadF_snoc, leadStep, if_neg (by rw [a]; decide), if_pos b, h]
  · rw [Str.length_append, List.length_append, show (Str.ofString " \t").length = 2 by decide]; simp only [List.length_cons, List.length_nil]; omega
theorem lead_3 {l : Str} {pre : List Int} {n : Int} (h : l = leadF pre) (hl : l.length ≤ 2 * pre.length) (a : ([33, 34, 35, 47].any fun x => x == n) = false) (b : ([44, 45, 46, 48].any fun x => x == n) = false) (c : ([29, 30, 38, 39].any fun x => x == n) = true) :
    l ++ Str.ofString "\t" = leadF (pre ++ [n]) ∧ (l ++ Str.ofString "\t").length ≤ 2 * (pre ++ [n]).length := by
  refine ⟨?_, ?_⟩
  · rw [leadF_snoc, leadStep, if_neg (by rw [a]; decide), if_neg (by rw [b]; decide), if_pos c, h]
  · rw [Str.length_append, List.length_append, show (Str.ofString "\t").length = 1 by decide]; simp only [List.length_cons, List.length_nil]; omega
theorem lead_4 {l : Str} {pre : List Int} {n : Int} (h : l = leadF pre) (hl : l.length ≤ 2 * pre.length) (a : ([33, 34, 35, 47].any fun x => x == n) = false) (b : ([44, 45, 46, 48].any fun x => x == n) = false) (c : ([29, 30, 38, 39].any fun x => x == n) = false) (d : n = 31) :
    l ++ Str.ofString " " = leadF (pre ++ [n]) ∧ (l ++ Str.ofString " ").length ≤ 2 * (pre ++ [n]).length := by
  refine ⟨?_, ?_⟩
  · rw [leadF_snoc, leadStep, if_neg (by rw [a]; decide), if_neg (by rw [b]; decide), if_neg (by rw [c]; decide), if_pos d, h]
  · rw [Str.length_append, List.length_append, show (Str.ofString " ").length = 1 by decide]; simp only [List.length_cons, List.length_nil]; omega
theorem lead_5 {l : Str} {pre : List Int} {n : Int} (h : l = leadF pre) (hl : l.length ≤ 2 * pre.length) (a : ([33, 34, 35, 47].any fun x => x == n) = false) (b : ([44, 45, 46, 48].any fun x => x == n) = false) (c : ([29, 30, 38, 39].any fun x => x == n) = false) (d : n ≠ 31) :
    l = leadF (pre ++ [n]) ∧ l.length ≤ 2 * (pre ++ [n]).length := by
  refine ⟨?_, ?_⟩
  · rw [leadF_snoc, leadStep, if_neg (by rw [a]; decide), if_neg (by rw [b]; decide), if_neg (by rw [c]; decide), if_neg d, h]
  · rw [List.length_append]; simp only [List.length_cons, List.length_nil]; omega

theorem reg_lead_1 : True := by
  k_with_none
  k_with "cell_enter" => (refine' own_def0 ?cek1 ?cek2 ?cek3 ?cek5 ?cekA ?cekF ?cekK ?cek6 ?cek7 ?cek8 ?cek9 ?cekB ?_ ?cec2 ?cec3 ?cec4 ?cec5; (case cekA => exact rfl); (case cekF => exact rfl); (case cekK => assumption); (case cek1 => k_asm); (case cek2 => k_asm); (case cek3 => k_asm); (case cek5 => k_asm); (case cek6 => k_is); (case cek7 => k_is); (case cek8 => ktr_room); (case cek9 => exact BindsTo.of_eq rfl); (case cec5 => decide); (case cekB => exact locs rfl); (case cec2 => exact rfl); (case cec3 => exact rfl); (case cec4 => exact rfl); k_whole; intro _ _ _ Bq9 _ _; (try dsimp only); (try k_lift Bq9); (try k_fold))
  k_with "units_room" => (have hcL9 := cLine_is; (try dsimp only [ktrTop]); simp only [units_in1, units_deeper, Around.mark_units, units_caller]; omega)
  k_with "call builtin:list.index" => (k_here; (with_reducible show wpAny _ _ (call (Value.builtin _) [Value.ref _, Value.int _ _]) _ _ _); k_dflt (refine' own_index (by is_list) (by l_ints) (by tb_start) (by first | assumption | exact any_mem (by assumption)) ?_; k_whole))
  k_with "getMethod ref" => ((with_reducible show wpAny _ _ (getMethod (Value.ref _) (Str.ofString "index") _) _ _ _); k_dflt (refine getMethod_list_of PySem.F.slot_list_index PySem.F.type_list_index (by is_list) (by no_dict) ?_))
  k_with "call builtin:len" => (k_here; (with_reducible show wpAny _ _ (call (Value.builtin "len") [Value.ref _]) _ _ _); k_dflt (refine' own_len (by is_list) (by l_ints) (by tb_start) ?_; k_whole))
  k_with "subscriptTail Name Slice ref ref" => (k_here; (with_reducible show wpAny _ _ (subscriptTail _ (PySem.Expr.Slice _ _ none _) (Value.ref _) (Value.ref _)) _ _ _); k_dflt (refine' own_slice (by k_asm) (by k_asm) (by kmk_list) (by l_ints) (by tb_start) (by kmk_part) (by kmk_part) ?_ (by with_unfolding_all rfl) (by kmk_pure); k_whole); intro _ _ _ _ _ l1q _ _; (try k_lt l1q); (try k_sweep))
  k_with "binaryOp Mult ref int" => (k_here; (with_reducible show wpAny _ _ (binaryOp Operator.Mult (Value.ref _) (Value.int _ _)) _ _ _); k_dflt (refine' own_mul (by k_asm) (by k_asm) (by is_list) (by first | l_ints | l_intsW) (by tb_start) (by tb_start) (by exact mul_small (by tb_start) (by tb_start)) ?_; k_whole); intro _ _ _ _ _ l1q _ _; (try k_lt l1q); (try k_sweep))
  k_with "binaryOp Add ref ref" => (k_here; (with_reducible show wpAny _ _ (binaryOp Operator.Add (Value.ref _) (Value.ref _)) _ _ _); k_dflt (refine' own_add (by k_asm) (by k_asm) (by is_list) (by is_list) (by first | l_ints | l_intsW) (by first | l_ints | l_intsW) (by tb_start) ?_; k_whole); intro _ _ _ _ _ l1q _ _; (try k_lt l1q); (try k_sweep))
  k_with "subscriptTail Name Slice str ref" => ((with_reducible show wpAny _ _ (subscriptTail _ (Expr.Slice none (some _) none _) _ _) _ _ _); (with_reducible rename Fr _ _ _ _ => F'q); (with_reducible rename News _ _ _ _ => N'q); refine slice_strN_ns_len (hsz := (by first | exact Short.fits (by assumption) | (rw [sizeLine_eq]; omega))) (s := ⟨_, _, _, _, _⟩) F'q N'q ?_; intro _ _ _ F'q N'q _; (try k_sweep))
  k_with "subscriptTail Name Slice str ref" => ((with_reducible show wpAny _ _ (subscriptTail _ (Expr.Slice (some _) none none _) _ _) _ _ _); (with_reducible rename Fr _ _ _ _ => F'q); (with_reducible rename News _ _ _ _ => N'q); refine slice_strN_sn_len (hsz := (by first | exact Short.fits (by assumption) | (rw [sizeLine_eq]; omega))) (s := ⟨_, _, _, _, _⟩) F'q N'q ?_; intro _ _ _ F'q N'q _; (try k_sweep))
  k_with "tb_rel" => (intro _ h9q k9q; (simp only [List.forall_mem_cons, List.not_mem_nil, false_implies, implies_true, and_true, ne_eq] at h9q); (try simp only [List.contains_cons, List.contains_nil, Bool.or_false, Bool.or_eq_false_iff, beq_eq_false_iff_ne, ne_eq] at k9q); simp [kstB, h9q, k9q])
  trivial
set_option maxHeartbeats 8000000 in
theorem lead_c {w : World} {p : Program} {loose : List Str} {mean : ExcName → Option Value} {mg mb : Str → Option Value} {dp un : Nat} {gd : Option (List Code)} {cn : Str} {cs : Scope} {a : Addr} {ccd : Value} {cl : List (Str × Addr)} {outer : List Env} {A₀ : Around} {base h₀ : Heap} {L : Addr} {m : Str → Option Value} {s : Shared} {Q E : Value → Shared → Prop}
    {r : Addr} {ns : List Int} {vr : List Value} {rn : Nat}
    (B : Below A₀ base outer h₀) (F : Fr h₀ L s.heap m) (X : (hd.heap_1 w.params).In h₀) (T : Top p loose mean mg mb h₀) (hk : cs.kind = .function)
    (ho : s.heap.get? r = some (listOf vr.toArray rn)) (hi : IntsAre vr ns) (hz : ns.length ≤ 1000) (hd : dp + 10 < recursionLimit) (hu : un + 200 < cLine)
    (hret : ∀ t h' tk', s.heap.StaysIn h' → Q (.str (leadF ns) t) { s with heap := h', toks := tk' }) :
    wpAny (model PySem.Challenge.rw_st0029_01.row.prog w) (ktrTop dp un gd cn cs L a ccd cl outer) (call (.ref 125) [.ref r]) Q E s := by
  w_top off
  k_with "pyIter ref" => k_state (fun pre lead => lead = leadF pre ∧ lead.length ≤ 2 * pre.length) "lead"
  k_with "state" => first | exact lead_1 (by assumption) (by assumption) (by assumption) | exact lead_2 (by assumption) (by assumption) (by assumption) (by assumption) | exact lead_3 (by assumption) (by assumption) (by assumption) (by assumption) (by assumption) | exact lead_4 (by assumption) (by assumption) (by assumption) (by assumption) (by assumption) (by assumption) | exact lead_5 (by assumption) (by assumption) (by assumption) (by assumption) (by assumption) (by assumption)
  revert X
  k_fill
  intro X
  have hr : s.heap.IsList r vr.toArray := ⟨_, ho, rfl, _, rfl⟩
  have hnd : s.heap.NoDictAt (.ref r) := ⟨_, ho, rfl⟩
  refine wpAny_call ?_
  k_dflt cell_enter
  k_steps
  all_goals dsimp only [qk, Ret]
  (rename (_ = leadF ns) => e1)
  rw [e1]
  exact hret _ _ _ (Fr.keep (by assumption))
end
-- text names
section
noncomputable def NAMES : List Str := (["(", ")", "[", "]", ":", ",", ";", "+", "-", "*", "/", "|", "&", "<", ">", "=", ".", "%", "{", "}", "==", "!=", "<=", ">=", "~", "^", "<<", ">>", "**", "+=", "-=", "*=", "/=", "%=", "&=", "|=", "^=", "<<=", ">>=", "**=", "//", "//=", "@", "@=", "->", "...", ":=", "!"] : List String).map Str.ofString
theorem names_are : Txt.words (Str.ofString "( ) [ ] : , ; + - * / | & < > = . % { } == != <= >= ~ ^ << >> ** += -= *= /= %= &= |= ^= <<= >>= **= // //= @ @= -> ... := !") = NAMES := by decide +kernel

theorem reg_names_1 : True := by
  k_with_none
  k_with "cell_enter" => (refine' own_def0 ?cek1 ?cek2 ?cek3 ?cek5 ?cekA ?cekF ?cekK ?cek6 ?cek7 ?cek8 ?cek9 ?cekB ?_ ?cec2 ?cec3 ?cec4 ?cec5; (case cekA => exact rfl); (case cekF => exact rfl); (case cekK => assumption); (case cek1 => k_asm); (case cek2 => k_asm); (case cek3 => k_asm); (case cek5 => k_asm); (case cek6 => k_is); (case cek7 => k_is); (case cek8 => ktr_room); (case cek9 => exact BindsTo.of_eq rfl); (case cec5 => decide); (case cekB => exact locs rfl); (case cec2 => exact rfl); (case cec3 => exact rfl); (case cec4 => exact rfl); k_whole; intro _ _ _ Bq9 _ _; (try dsimp only); (try k_lift Bq9); (try k_fold))
  k_with "units_room" => (have hcL9 := cLine_is; (try dsimp only [ktrTop]); simp only [units_in1, units_deeper, Around.mark_units, units_caller]; omega)
  k_with "call builtin:list.index" => (k_here; (with_reducible show wpAny _ _ (call (Value.builtin _) [Value.ref _, Value.int _ _]) _ _ _); k_dflt (refine' own_index (by is_list) (by l_ints) (by tb_start) (by first | assumption | exact any_mem (by assumption)) ?_; k_whole))
  k_with "getMethod ref" => ((with_reducible show wpAny _ _ (getMethod (Value.ref _) (Str.ofString "index") _) _ _ _); k_dflt (refine getMethod_list_of PySem.F.slot_list_index PySem.F.type_list_index (by is_list) (by no_dict) ?_))
  k_with "call builtin:len" => (k_here; (with_reducible show wpAny _ _ (call (Value.builtin "len") [Value.ref _]) _ _ _); k_dflt (refine' own_len (by is_list) (by l_ints) (by tb_start) ?_; k_whole))
  k_with "subscriptTail Name Slice ref ref" => (k_here; (with_reducible show wpAny _ _ (subscriptTail _ (PySem.Expr.Slice _ _ none _) (Value.ref _) (Value.ref _)) _ _ _); k_dflt (refine' own_slice (by k_asm) (by k_asm) (by kmk_list) (by l_ints) (by tb_start) (by kmk_part) (by kmk_part) ?_ (by with_unfolding_all rfl) (by kmk_pure); k_whole); intro _ _ _ _ _ l1q _ _; (try k_lt l1q); (try k_sweep))
  k_with "binaryOp Mult ref int" => (k_here; (with_reducible show wpAny _ _ (binaryOp Operator.Mult (Value.ref _) (Value.int _ _)) _ _ _); k_dflt (refine' own_mul (by k_asm) (by k_asm) (by is_list) (by first | l_ints | l_intsW) (by tb_start) (by tb_start) (by exact mul_small (by tb_start) (by tb_start)) ?_; k_whole); intro _ _ _ _ _ l1q _ _; (try k_lt l1q); (try k_sweep))
  k_with "binaryOp Add ref ref" => (k_here; (with_reducible show wpAny _ _ (binaryOp Operator.Add (Value.ref _) (Value.ref _)) _ _ _); k_dflt (refine' own_add (by k_asm) (by k_asm) (by is_list) (by is_list) (by first | l_ints | l_intsW) (by first | l_ints | l_intsW) (by tb_start) ?_; k_whole); intro _ _ _ _ _ l1q _ _; (try k_lt l1q); (try k_sweep))
  k_with "subscriptTail Name Slice str ref" => ((with_reducible show wpAny _ _ (subscriptTail _ (Expr.Slice none (some _) none _) _ _) _ _ _); (with_reducible rename Fr _ _ _ _ => F'q); (with_reducible rename News _ _ _ _ => N'q); refine slice_strN_ns_len (hsz := (by first | exact Short.fits (by assumption) | (rw [sizeLine_eq]; omega))) (s := ⟨_, _, _, _, _⟩) F'q N'q ?_; intro _ _ _ F'q N'q _; (try k_sweep))
  k_with "subscriptTail Name Slice str ref" => ((with_reducible show wpAny _ _ (subscriptTail _ (Expr.Slice (some _) none none _) _ _) _ _ _); (with_reducible rename Fr _ _ _ _ => F'q); (with_reducible rename News _ _ _ _ => N'q); refine slice_strN_sn_len (hsz := (by first | exact Short.fits (by assumption) | (rw [sizeLine_eq]; omega))) (s := ⟨_, _, _, _, _⟩) F'q N'q ?_; intro _ _ _ F'q N'q _; (try k_sweep))
  k_with "tb_rel" => (intro _ h9q k9q; (simp only [List.forall_mem_cons, List.not_mem_nil, false_implies, implies_true, and_true, ne_eq] at h9q); (try simp only [List.contains_cons, List.contains_nil, Bool.or_false, Bool.or_eq_false_iff, beq_eq_false_iff_ne, ne_eq] at k9q); simp [kstB, h9q, k9q])
  trivial
set_option maxHeartbeats 8000000 in
theorem names_c {w : World} {p : Program} {loose : List Str} {mean : ExcName → Option Value} {mg mb : Str → Option Value} {dp un : Nat} {gd : Option (List Code)} {cn : Str} {cs : Scope} {a : Addr} {ccd : Value} {cl : List (Str × Addr)} {outer : List Env} {A₀ : Around} {base h₀ : Heap} {L : Addr} {m : Str → Option Value} {s : Shared} {Q E : Value → Shared → Prop}
    (B : Below A₀ base outer h₀) (F : Fr h₀ L s.heap m) (X : (hd.heap_1 w.params).In h₀) (T : Top p loose mean mg mb h₀) (hk : cs.kind = .function)
    (hd : dp + 10 < recursionLimit) (hu : un + 200 < cLine)
    (hret : ∀ l n vs h' tk', s.heap.StaysIn h' → h'.get? l = some (listOf (List.toArray vs) n) → s.heap.get? l = none → StrsAre vs NAMES → Q (.ref l) { s with heap := h', toks := tk' }) :
    wpAny (model PySem.Challenge.rw_st0029_01.row.prog w) (ktrTop dp un gd cn cs L a ccd cl outer) (call (.ref 97) []) Q E s := by
  w_top off
  revert X
  k_fill
  intro X
  refine wpAny_call ?_
  k_dflt cell_enter
  k_steps
  all_goals dsimp only [qk, Ret]
  (rename (List.map _ _ = _) => e1)
  (rename StrsAre _ _ => e2)
  rw [e1, names_are] at e2
  exact hret _ _ _ _ _ (Fr.keep (by assumption)) (News.get (by assumption) (by k_mem)) (News.fresh (by assumption) (by k_mem)) e2
end
-- text read
section
noncomputable def TBL : List (Str × Int) := [(⟨#[33]⟩, 54), (⟨#[33, 61]⟩, 28), (⟨#[37]⟩, 24), (⟨#[37, 61]⟩, 40), (⟨#[38]⟩, 19), (⟨#[38, 61]⟩, 41), (⟨#[40]⟩, 7), (⟨#[41]⟩, 8), (⟨#[42]⟩, 16), (⟨#[42, 42]⟩, 35), (⟨#[42, 42, 61]⟩, 46), (⟨#[42, 61]⟩, 38), (⟨#[43]⟩, 14), (⟨#[43, 61]⟩, 36), (⟨#[44]⟩, 12), (⟨#[45]⟩, 15), (⟨#[45, 61]⟩, 37), (⟨#[45, 62]⟩, 51), (⟨#[46]⟩, 23), (⟨#[46, 46, 46]⟩, 52), (⟨#[47]⟩, 17), (⟨#[47, 47]⟩, 47), (⟨#[47, 47, 61]⟩, 48), (⟨#[47, 61]⟩, 39), (⟨#[58]⟩, 11), (⟨#[58, 61]⟩, 53), (⟨#[59]⟩, 13), (⟨#[60]⟩, 20), (⟨#[60, 60]⟩, 33), (⟨#[60, 60, 61]⟩, 44), (⟨#[60, 61]⟩, 29), (⟨#[61]⟩, 22), (⟨#[61, 61]⟩, 27), (⟨#[62]⟩, 21), (⟨#[62, 61]⟩, 30), (⟨#[62, 62]⟩, 34), (⟨#[62, 62, 61]⟩, 45), (⟨#[64]⟩, 49), (⟨#[64, 61]⟩, 50), (⟨#[91]⟩, 9), (⟨#[93]⟩, 10), (⟨#[94]⟩, 32), (⟨#[94, 61]⟩, 43), (⟨#[123]⟩, 25), (⟨#[124]⟩, 18), (⟨#[124, 61]⟩, 42), (⟨#[125]⟩, 26), (⟨#[126]⟩, 31)]
/-- is the text one of the table's operators -/
noncomputable def inT (t : Str) : Bool := KTD.inKeys t TBL
noncomputable def tokVal (t : Str) : Int := (KTD.datumAt t TBL).getD 0
noncomputable def tokSize (t : Str) : Int := if inT (Txt.slice t none (some 3)) = true then 3 else if inT (Txt.slice t none (some 2)) = true then 2 else 1
/-- what the reading of a text tells -/
inductive Reads' : Str → List Int → Prop where
  | nil : Reads' (Str.ofString "") []
  | cons {t : Str} {ns : List Int} : (t != Str.ofString "") = true → Reads' (Txt.slice t (some (tokSize t)) none) ns → Reads' t (tokVal (Txt.slice t none (some (tokSize t))) :: ns)
structure Rd (ns : List Int) (text : Str) (numbers : List Int) : Prop where
  ex : ∃ rest, Reads' text rest ∧ numbers ++ rest = ns
structure Tried (t : Str) (k : Int) : Prop where
  three : k < 3 → inT (Txt.slice t none (some 3)) = false
  two : k < 2 → inT (Txt.slice t none (some 2)) = false
theorem Rd.start {ns : List Int} {t : Str} (h : Reads' t ns) : Rd ns t [] := ⟨ns, h, rfl⟩
theorem Rd.step {ns nums : List Int} {t : Str} {i : Int} (h : Rd ns t nums) (hne : (t != Str.ofString "") = true) (hi : i = tokSize t) : Rd ns (Txt.slice t (some i) none) (nums ++ [tokVal (Txt.slice t none (some i))]) := by
  subst hi
  obtain ⟨rest, hr, e⟩ := h
  cases hr with
  | nil => exact absurd hne (by decide)
  | cons _ hr' => exact ⟨_, hr', by rw [List.append_assoc]; exact e⟩
theorem Rd.less {ns nums : List Int} {t : Str} {v : Int} (h : Rd ns t nums) (hne : (t != Str.ofString "") = true) : ns.length - (nums ++ [v]).length < ns.length - nums.length := by
  obtain ⟨rest, hr, e⟩ := h
  cases hr with
  | nil => exact absurd hne (by decide)
  | cons _ hr' => subst e; simp only [List.length_append, List.length_cons, List.length_nil]; omega
theorem Rd.done {ns nums : List Int} {t : Str} (h : Rd ns t nums) (he : (t != Str.ofString "") = false) : nums = ns := by
  obtain ⟨rest, hr, e⟩ := h
  cases hr with
  | nil => rw [← e, List.append_nil]
  | cons hne _ => rw [he] at hne; cases hne
theorem Rd.len {ns nums : List Int} {t : Str} (h : Rd ns t nums) (hz : ns.length ≤ 1000) : nums.length ≤ 1000000 := by
  obtain ⟨rest, _, e⟩ := h
  have := congrArg List.length e
  rw [List.length_append] at this
  omega
theorem Tried.start (t : Str) : Tried t 3 := ⟨fun h => absurd h (by decide), fun h => absurd h (by decide)⟩
theorem Tried.next {t : Str} {i : Int} (h : Tried t i) (h1 : 1 < i) (h3 : i ≤ 3) (a : inT (Txt.slice t none (some i)) = false) : 1 ≤ i - 1 ∧ i - 1 ≤ 3 ∧ Tried t (i - 1) := by
  refine ⟨by omega, by omega, fun _ => ?_, fun h2 => ?_⟩
  · by_cases e : i = 3
    · subst e; exact a
    · exact h.three (by omega)
  · have e : i = 2 := by omega
    subst e; exact a
theorem Tried.isT {t : Str} {i : Int} (h : Tried t i) (h1 : 1 < i) (h3 : i ≤ 3) (a : inT (Txt.slice t none (some i)) = true) : i = tokSize t := by
  unfold tokSize
  by_cases e : i = 3
  · subst e; rw [if_pos a]
  · have e2 : i = 2 := by omega
    subst e2; rw [if_neg (by rw [h.three (by decide)]; decide), if_pos a]
theorem Tried.isF {t : Str} {i : Int} (h : Tried t i) (h1 : ¬ 1 < i) (h2 : 1 ≤ i) : i = tokSize t := by
  have e : i = 1 := by omega
  subst e
  unfold tokSize
  rw [if_neg (by rw [h.three (by decide)]; decide), if_neg (by rw [h.two (by decide)]; decide)]
theorem lookup_tbl (t : Str) : ∀ D : List (Str × Int), PySem.Spec.lookup (.str t) (D.map fun p => (PyData.str p.1, PyData.int p.2)) = (KTD.datumAt t D).map PyData.int
  | [] => rfl
  | (x, d) :: D => by
    rw [List.map_cons, PySem.Spec.lookup, KTD.datumAt, PyProof.V.same_str, lookup_tbl t D]
    by_cases h : t = x
    · subst h; simp
    · simp [h, Ne.symm h]
theorem flat_tok {v : Value} {t : Str} (h : PyProof.V.Flat v ((PySem.Spec.lookup (.str t) (TBL.map fun p => (PyData.str p.1, PyData.int p.2))).getD (.int 0))) : ∃ tk, v = .int (tokVal t) tk := by
  rw [lookup_tbl] at h
  unfold tokVal
  cases e : KTD.datumAt t TBL with
  | none => rw [e] at h; exact h.int_inv
  | some d => rw [e] at h; exact h.int_inv
theorem read_1 {ns nums : List Int} {t : Str} {i : Int} (kR : Rd ns t nums) (kS : Short t) (hne : (t != Str.ofString "") = true) (iT : Tried t i) (h1 : 1 < i) (h3 : i ≤ 3) (a : inT (Txt.slice t none (some i)) = true) (hl : (Txt.slice t (some i) none).length ≤ t.length) :
    Short (Txt.slice t (some i) none) ∧ Rd ns (Txt.slice t (some i) none) (nums ++ [tokVal (Txt.slice t none (some i))]) := ⟨kS.of_le hl, kR.step hne (iT.isT h1 h3 a)⟩
theorem read_2 {ns nums : List Int} {t : Str} {i : Int} (kR : Rd ns t nums) (kS : Short t) (hne : (t != Str.ofString "") = true) (iT : Tried t i) (h1 : ¬ 1 < i) (h2 : 1 ≤ i) (hl : (Txt.slice t (some i) none).length ≤ t.length) :
    Short (Txt.slice t (some i) none) ∧ Rd ns (Txt.slice t (some i) none) (nums ++ [tokVal (Txt.slice t none (some i))]) := ⟨kS.of_le hl, kR.step hne (iT.isF h1 h2)⟩

theorem reg_read_1 : True := by
  k_with_none
  k_with "cell_enter" => (refine' own_def0 ?cek1 ?cek2 ?cek3 ?cek5 ?cekA ?cekF ?cekK ?cek6 ?cek7 ?cek8 ?cek9 ?cekB ?_ ?cec2 ?cec3 ?cec4 ?cec5; (case cekA => exact rfl); (case cekF => exact rfl); (case cekK => assumption); (case cek1 => k_asm); (case cek2 => k_asm); (case cek3 => k_asm); (case cek5 => k_asm); (case cek6 => k_is); (case cek7 => k_is); (case cek8 => ktr_room); (case cek9 => exact BindsTo.of_eq rfl); (case cec5 => decide); (case cekB => exact locs rfl); (case cec2 => exact rfl); (case cec3 => exact rfl); (case cec4 => exact rfl); k_whole; intro _ _ _ Bq9 _ _; (try dsimp only); (try k_lift Bq9); (try k_fold))
  k_with "units_room" => (have hcL9 := cLine_is; (try dsimp only [ktrTop]); simp only [units_in1, units_deeper, Around.mark_units, units_caller]; omega)
  k_with "call builtin:list.index" => (k_here; (with_reducible show wpAny _ _ (call (Value.builtin _) [Value.ref _, Value.int _ _]) _ _ _); k_dflt (refine' own_index (by is_list) (by l_ints) (by tb_start) (by first | assumption | exact any_mem (by assumption)) ?_; k_whole))
  k_with "getMethod ref" => ((with_reducible show wpAny _ _ (getMethod (Value.ref _) (Str.ofString "index") _) _ _ _); k_dflt (refine getMethod_list_of PySem.F.slot_list_index PySem.F.type_list_index (by is_list) (by no_dict) ?_))
  k_with "call builtin:len" => (k_here; (with_reducible show wpAny _ _ (call (Value.builtin "len") [Value.ref _]) _ _ _); k_dflt (refine' own_len (by is_list) (by l_ints) (by tb_start) ?_; k_whole))
  k_with "subscriptTail Name Slice ref ref" => (k_here; (with_reducible show wpAny _ _ (subscriptTail _ (PySem.Expr.Slice _ _ none _) (Value.ref _) (Value.ref _)) _ _ _); k_dflt (refine' own_slice (by k_asm) (by k_asm) (by kmk_list) (by l_ints) (by tb_start) (by kmk_part) (by kmk_part) ?_ (by with_unfolding_all rfl) (by kmk_pure); k_whole); intro _ _ _ _ _ l1q _ _; (try k_lt l1q); (try k_sweep))
  k_with "binaryOp Mult ref int" => (k_here; (with_reducible show wpAny _ _ (binaryOp Operator.Mult (Value.ref _) (Value.int _ _)) _ _ _); k_dflt (refine' own_mul (by k_asm) (by k_asm) (by is_list) (by first | l_ints | l_intsW) (by tb_start) (by tb_start) (by exact mul_small (by tb_start) (by tb_start)) ?_; k_whole); intro _ _ _ _ _ l1q _ _; (try k_lt l1q); (try k_sweep))
  k_with "binaryOp Add ref ref" => (k_here; (with_reducible show wpAny _ _ (binaryOp Operator.Add (Value.ref _) (Value.ref _)) _ _ _); k_dflt (refine' own_add (by k_asm) (by k_asm) (by is_list) (by is_list) (by first | l_ints | l_intsW) (by first | l_ints | l_intsW) (by tb_start) ?_; k_whole); intro _ _ _ _ _ l1q _ _; (try k_lt l1q); (try k_sweep))
  k_with "subscriptTail Name Slice str ref" => ((with_reducible show wpAny _ _ (subscriptTail _ (Expr.Slice none (some _) none _) _ _) _ _ _); (with_reducible rename Fr _ _ _ _ => F'q); (with_reducible rename News _ _ _ _ => N'q); refine slice_strN_ns_len (hsz := (by first | exact Short.fits (by assumption) | (rw [sizeLine_eq]; omega))) (s := ⟨_, _, _, _, _⟩) F'q N'q ?_; intro _ _ _ F'q N'q _; (try k_sweep))
  k_with "subscriptTail Name Slice str ref" => ((with_reducible show wpAny _ _ (subscriptTail _ (Expr.Slice (some _) none none _) _ _) _ _ _); (with_reducible rename Fr _ _ _ _ => F'q); (with_reducible rename News _ _ _ _ => N'q); refine slice_strN_sn_len (hsz := (by first | exact Short.fits (by assumption) | (rw [sizeLine_eq]; omega))) (s := ⟨_, _, _, _, _⟩) F'q N'q ?_; intro _ _ _ F'q N'q _; (try k_sweep))
  k_with "tb_rel" => (intro _ h9q k9q; (simp only [List.forall_mem_cons, List.not_mem_nil, false_implies, implies_true, and_true, ne_eq] at h9q); (try simp only [List.contains_cons, List.contains_nil, Bool.or_false, Bool.or_eq_false_iff, beq_eq_false_iff_ne, ne_eq] at k9q); simp [kstB, h9q, k9q])
  trivial
set_option maxHeartbeats 8000000 in
theorem read_c {w : World} {p : Program} {loose : List Str} {mean : ExcName → Option Value} {mg mb : Str → Option Value} {dp un : Nat} {gd : Option (List Code)} {cn : Str} {cs : Scope} {a : Addr} {ccd : Value} {cl : List (Str × Addr)} {outer : List Env} {A₀ : Around} {base h₀ : Heap} {L : Addr} {m : Str → Option Value} {s : Shared} {Q E : Value → Shared → Prop}
    {x : Str} {tx : Tok} {ns : List Int}
    (B : Below A₀ base outer h₀) (F : Fr h₀ L s.heap m) (X : (hd.heap_1 w.params).In h₀) (T : Top p loose mean mg mb h₀) (hk : cs.kind = .function)
    (hz : Short x) (hx : Reads' x ns) (hn : ns.length ≤ 1000) (hd : dp + 10 < recursionLimit) (hu : un + 200 < cLine)
    (hret : ∀ l n vs h' tk', s.heap.StaysIn h' → h'.get? l = some (listOf (List.toArray vs) n) → s.heap.get? l = none → IntsAre vs ns → Q (.ref l) { s with heap := h', toks := tk' }) :
    wpAny (model PySem.Challenge.rw_st0029_01.row.prog w) (ktrTop dp un gd cn cs L a ccd cl outer) (call (.ref 118) [.str x tx]) Q E s := by
  w_top off
  k_with "exec While BoolOp" => (
    (with_reducible rename Fr _ _ _ _ => lF9)
    (with_reducible rename News _ _ _ _ => lN9)
    refine' ksw_while (σ := Int × Nat) (fun _ => [(lA, listOf c3.toArray c5)]) (fun c => [(Str.ofString "size", Value.int c.1 c.2)]) (fun _ => True) [] (fun c => 1 ≤ c.1 ∧ c.1 ≤ 3 ∧ Tried c1 c.1) (fun c => c.1.toNat) (3, ?jv) lF9 ?jn ?jf ?jk ?jp ?jt ?jE
    case jn => exact lN9
    case jf => exact trivial
    case jk => kst_all
    case jp => exact ⟨(by decide : (1 : Int) ≤ 3), (by decide : (3 : Int) ≤ 3), Tried.start c1⟩
    case jE => passes_own
    clear lF9 lN9
    rintro ⟨i1, i2⟩ iU iH iTk - ⟨iP, iQ, iT⟩ iFr iNews
    dsimp only at iP iQ iT iFr
    try k_fold)
  k_with "KswEnd" => first
    | (with_reducible show KswEnd (σ := Int × Nat) _ _ _ _ _ _ _ _ _ _ _ _); refine ksw_end (σ := Int × Nat) (i1 - 1, _) (by k_asm) (by k_asm) (fun p hp => hp) trivial (by kst_all) (by tb_rel) (Tried.next iT (by assumption) iQ (by assumption)) (by dsimp only; omega)
    | refine ksw_end (σ := Str × Nat × List Value × List Int × Nat) (Txt.slice c1 (some i1) none, _, c3 ++ [Value.int (tokVal (Txt.slice c1 none (some i1))) t9], c4 ++ [tokVal (Txt.slice c1 none (some i1))], c5 + 1) (by k_asm) (by k_asm) (fun p hp => hp) (kI.append (.cons _ _ .nil)) (by kst_all) (by tb_rel) (by first | exact read_1 kR kS (by assumption) iT (by assumption) iQ (by assumption) (by assumption) | exact read_2 kR kS (by assumption) iT (by assumption) iP (by assumption)) (Rd.less kR (by assumption))
  k_with "call builtin:list.append" => first
    | ((rename PyProof.V.Flat _ _ => hf9); obtain ⟨t9, e9⟩ := flat_tok hf9; clear hf9; subst e9)
    | (refine' own_append ?oF ?oN kI ?oz ?oU ?_; (case oF => k_asm); (case oN => k_asm); (case oz => exact Rd.len kR hn); (case oU => k_upd); intro h' F' N'; (try k_sweep))
  revert X
  k_fill
  intro X
  refine wpAny_call ?_
  k_dflt cell_enter
  iterate 9 (first | (k_unfold; (try dsimp only)) | walk1 | (dsimp only; walk1))
  (with_reducible rename Fr _ _ _ _ => lF')
  (with_reducible rename News _ _ _ _ => lN')
  rename_i lA _ _ _
  refine ksw_while (σ := Str × Nat × List Value × List Int × Nat) (fun c => [(lA, listOf c.2.2.1.toArray c.2.2.2.2)]) (fun c => [(Str.ofString "text", Value.str c.1 c.2.1)]) (fun c => IntsAre c.2.2.1 c.2.2.2.1) [Str.ofString "size"] (fun c => Short c.1 ∧ Rd ns c.1 c.2.2.2.1) (fun c => ns.length - c.2.2.2.1.length) (x, tx, [], [], 0) lF' ?kn ?kf ?kk ?kp ?kt ?kE
  case kn => exact lN'
  case kf => exact .nil
  case kk => kst_all
  case kp => exact ⟨hz, Rd.start hx⟩
  case kE => passes_own
  clear lF' lN'
  rintro ⟨c1, c2, c3, c4, c5⟩ kU kH kTk kI ⟨kS, kR⟩ kFr kNews
  dsimp only at kI kS kR kFr kNews
  try k_fold
  k_steps
  · (dsimp only [qk, Ret])
    have e1 : c4 = ns := Rd.done kR (by assumption)
    subst e1
    exact hret _ _ _ _ _ (Fr.keep (by assumption)) (News.get (by assumption) (by k_mem)) (News.fresh (by assumption) (by k_mem)) kI
end
-- text ws
section
open PySem.W.KStt
structure Tiny (x : Str) : Prop where
  le : x.length ≤ 200
noncomputable def bump1 (cnt : List Int) (b : Int) : List Int := if (cnt.length : Nat) ≤ b then cnt ++ repI (b - (cnt.length : Nat) + 1) [0] else cnt
noncomputable def bump (cnt : List Int) (b : Int) : List Int := (bump1 cnt b).set b.toNat ((bump1 cnt b).getD b.toNat 0 + 1)
noncomputable def wsRun : List Int → List Int → Int → Int → Int → List Int × Int × Int × Int
  | [], cnt, b, n, nt => (cnt, b, n, nt)
  | c :: r, cnt, b, n, nt => if c = 32 then wsRun r cnt (b + 1) (n + 1) nt else if c = 9 then wsRun r (bump cnt b) 0 (n + 1) (nt + 1) else (cnt, b, n, nt)
theorem length_bump1 (cnt : List Int) (b : Int) (h0 : 0 ≤ b) : ((bump1 cnt b).length : Int) = if (cnt.length : Nat) ≤ b then b + 1 else cnt.length := by
  unfold bump1
  split
  · rw [List.length_append, length_repI]; simp only [List.length_cons, List.length_nil]; omega
  · rfl
theorem length_bump (cnt : List Int) (b : Int) : (bump cnt b).length = (bump1 cnt b).length := by unfold bump; exact List.length_set ..
/-- the words of a turn: what was read, and how far it went -/
structure Wp (pre cnt : List Int) (b n nt : Int) : Prop where
  run : ∀ post, wsRun (pre ++ post) [] 0 0 0 = wsRun post cnt b n nt
  b0 : 0 ≤ b
  bn : b ≤ n
  cn : (cnt.length : Nat) ≤ n
  np : n ≤ (pre.length : Nat)
theorem Wp.start : Wp [] [] 0 0 0 := ⟨fun _ => rfl, by decide, by decide, by decide, by decide⟩
theorem Wp.blank {pre cnt : List Int} {b n nt c : Int} (h : Wp pre cnt b n nt) (hc : c = 32) : Wp (pre ++ [c]) cnt (b + 1) (n + 1) nt := by
  obtain ⟨h1, h2, h3, h4, h5⟩ := h
  refine ⟨fun post => ?_, by omega, by omega, by omega, by rw [List.length_append, List.length_singleton]; omega⟩
  rw [List.append_assoc, h1, List.singleton_append, wsRun, if_pos hc]
theorem Wp.tab {pre cnt : List Int} {b n nt c : Int} (h : Wp pre cnt b n nt) (hc : c = 9) : Wp (pre ++ [c]) (bump cnt b) 0 (n + 1) (nt + 1) := by
  obtain ⟨h1, h2, h3, h4, h5⟩ := h
  refine ⟨fun post => ?_, by omega, by omega, ?_, by rw [List.length_append, List.length_singleton]; omega⟩
  · rw [List.append_assoc, h1, List.singleton_append, wsRun, if_neg (by omega), if_pos hc]
  · rw [length_bump, length_bump1 _ _ h2]
    split <;> omega
theorem Wp.stop {pre post cnt : List Int} {b n nt c : Int} (h : Wp pre cnt b n nt) (hc : c ≠ 32) (hd : c ≠ 9) : wsRun (pre ++ c :: post) [] 0 0 0 = (cnt, b, n, nt) := by
  rw [h.run, wsRun, if_neg hc, if_neg hd]
theorem Wp.all {pre cnt : List Int} {b n nt : Int} (h : Wp pre cnt b n nt) : wsRun pre [] 0 0 0 = (cnt, b, n, nt) := by
  have := h.run []
  rw [List.append_nil] at this
  exact this
theorem ws_lt {cnt : List Int} {b : Int} (h : (cnt.length : Nat) ≤ b) (h0 : 0 ≤ b) : b < ((cnt ++ repI (b - (cnt.length : Nat) + 1) [0]).length : Nat) := by
  have := length_bump1 cnt b h0
  unfold bump1 at this
  rw [if_pos h, if_pos h] at this
  omega
theorem ws_lt2 {cnt : List Int} {b : Int} (h : (cnt.length : Nat) ≤ b) (h0 : 0 ≤ b) (hb : b ≤ 1000) : (cnt ++ repI (b - (cnt.length : Nat) + 1) [0]).length ≤ 1000000 := by
  have := length_bump1 cnt b h0
  unfold bump1 at this
  rw [if_pos h, if_pos h] at this
  omega
noncomputable abbrev wsEnt (P : Params) (k : Str) (t : Tok) (v : Value) : DictEntry := { hash := PyData.keyHash P k, key := .str k t, val := v }

/-- a made Whitespace -/
noncomputable def WsAt (w : World) (h : Heap) (l : Addr) (q : List Int × Int × Int × Int) : Prop :=
  ∃ dx nT cT cvs x tx t1 t2 t3 t4 t5 u1 u2 u3, h.get? l = some (instObj 76 dx) ∧
    h.get? dx = some (dictOf [wsEnt w.params (Str.ofString "raw") t1 (.str x tx), wsEnt w.params (Str.ofString "n") t2 (.int q.2.2.1 u1), wsEnt w.params (Str.ofString "nt") t3 (.int q.2.2.2 u2), wsEnt w.params (Str.ofString "norm") t4 (.ref nT),
      wsEnt w.params (Str.ofString "is_simple") t5 (.bool (decide (((q.1.length : Nat) : Int) ≤ 1)))] 5) ∧
    h.get? nT = some (tupO [.ref cT, .int q.2.1 u3]) ∧ h.get? cT = some (tupO cvs) ∧ IntsAre cvs q.1
theorem WsAt.keeps {w : World} {h h' : Heap} {l : Addr} {q : List Int × Int × Int × Int} (x : WsAt w h l q) (k : h.StaysIn h') : WsAt w h' l q := by
  obtain ⟨dx, nT, cT, cvs, x, tx, t1, t2, t3, t4, t5, u1, u2, u3, h1, h2, h3, h4, h5⟩ := x
  exact ⟨dx, nT, cT, cvs, x, tx, t1, t2, t3, t4, t5, u1, u2, u3, k _ _ h1, k _ _ h2, k _ _ h3, k _ _ h4, h5⟩
/-- a made Whitespace, with the objects that are its own -/
noncomputable def WsNew (w : World) (h h' : Heap) (l : Addr) (q : List Int × Int × Int × Int) : Prop :=
  ∃ dx nT cT od on oc, (∀ p ∈ [(l, instObj 76 dx), (dx, od), (nT, on), (cT, oc)], h'.get? p.1 = some p.2 ∧ h.get? p.1 = none) ∧ ∀ h'' : Heap, (∀ p ∈ [(l, instObj 76 dx), (dx, od), (nT, on), (cT, oc)], h''.get? p.1 = some p.2) → WsAt w h'' l q
theorem wsNew_of {w : World} {g h h' : Heap} {L l dx nT cT : Addr} {news : List (Addr × Obj)} {q : List Int × Int × Int × Int} {cvs : List Value} {x : Str} {tx t1 t2 t3 t4 t5 u1 u2 u3 : Tok} (N : News g L h' news) (sS : h.StaysIn g) (e1 : (l, instObj 76 dx) ∈ news)
    (e2 : (dx, dictOf [wsEnt w.params (Str.ofString "raw") t1 (.str x tx), wsEnt w.params (Str.ofString "n") t2 (.int q.2.2.1 u1), wsEnt w.params (Str.ofString "nt") t3 (.int q.2.2.2 u2), wsEnt w.params (Str.ofString "norm") t4 (.ref nT),
      wsEnt w.params (Str.ofString "is_simple") t5 (.bool (decide (((q.1.length : Nat) : Int) ≤ 1)))] 5) ∈ news)
    (e3 : (nT, tupO [.ref cT, .int q.2.1 u3]) ∈ news) (e4 : (cT, tupO cvs) ∈ news) (hi : IntsAre cvs q.1) : WsNew w h h' l q := by
  have old : ∀ p ∈ news, h.get? p.1 = none := fun p hp => by
    cases e : h.get? p.1 with
    | none => rfl
    | some o => have := (N p hp).2.2; rw [sS _ _ e] at this; cases this
  refine ⟨dx, nT, cT, _, _, _, ?_, fun h'' hh => ⟨dx, nT, cT, cvs, x, tx, t1, t2, t3, t4, t5, u1, u2, u3, hh _ (.head _), hh _ (.tail _ (.head _)), hh _ (.tail _ (.tail _ (.head _))), hh _ (.tail _ (.tail _ (.tail _ (.head _)))), hi⟩⟩
  simp only [List.forall_mem_cons, List.not_mem_nil, false_implies, implies_true, and_true]
  exact ⟨⟨(N _ e1).1, old _ e1⟩, ⟨(N _ e2).1, old _ e2⟩, ⟨(N _ e3).1, old _ e3⟩, (N _ e4).1, old _ e4⟩
structure WS where
  D : Addr
  vs : List Value
  cnt : List Int
  ep : Nat
  b : Int
  tb : Nat
  n : Int
  tn : Nat
  nt : Int
  tnt : Nat
theorem reg_ws_1 : True := by
  k_with_none
  k_with "cell_enter" => (refine' own_def0 ?cek1 ?cek2 ?cek3 ?cek5 ?cekA ?cekF ?cekK ?cek6 ?cek7 ?cek8 ?cek9 ?cekB ?_ ?cec2 ?cec3 ?cec4 ?cec5; (case cekA => exact rfl); (case cekF => exact rfl); (case cekK => assumption); (case cek1 => k_asm); (case cek2 => k_asm); (case cek3 => k_asm); (case cek5 => k_asm); (case cek6 => k_is); (case cek7 => k_is); (case cek8 => ktr_room); (case cek9 => exact BindsTo.of_eq rfl); (case cec5 => decide); (case cekB => exact locs rfl); (case cec2 => exact rfl); (case cec3 => exact rfl); (case cec4 => exact rfl); k_whole; intro _ _ _ Bq9 _ _; (try dsimp only); (try k_lift Bq9); (try k_fold))
  k_with "units_room" => (have hcL9 := cLine_is; (try dsimp only [ktrTop]); simp only [units_in1, units_deeper, Around.mark_units, units_caller]; omega)
  k_with "call builtin:list.index" => (k_here; (with_reducible show wpAny _ _ (call (Value.builtin _) [Value.ref _, Value.int _ _]) _ _ _); k_dflt (refine' own_index (by is_list) (by l_ints) (by tb_start) (by first | assumption | exact any_mem (by assumption)) ?_; k_whole))
  k_with "getMethod ref" => ((with_reducible show wpAny _ _ (getMethod (Value.ref _) (Str.ofString "index") _) _ _ _); k_dflt (refine getMethod_list_of PySem.F.slot_list_index PySem.F.type_list_index (by is_list) (by no_dict) ?_))
  k_with "call builtin:len" => (k_here; (with_reducible show wpAny _ _ (call (Value.builtin "len") [Value.ref _]) _ _ _); k_dflt (refine' own_len (by is_list) (by l_ints) (by tb_start) ?_; k_whole))
  k_with "subscriptTail Name Slice ref ref" => (k_here; (with_reducible show wpAny _ _ (subscriptTail _ (PySem.Expr.Slice _ _ none _) (Value.ref _) (Value.ref _)) _ _ _); k_dflt (refine' own_slice (by k_asm) (by k_asm) (by kmk_list) (by l_ints) (by tb_start) (by kmk_part) (by kmk_part) ?_ (by with_unfolding_all rfl) (by kmk_pure); k_whole); intro _ _ _ _ _ l1q _ _; (try k_lt l1q); (try k_sweep))
  k_with "binaryOp Mult ref int" => (k_here; (with_reducible show wpAny _ _ (binaryOp Operator.Mult (Value.ref _) (Value.int _ _)) _ _ _); k_dflt (refine' own_mul (by k_asm) (by k_asm) (by is_list) (by first | l_ints | l_intsW) (by tb_start) (by tb_start) (by exact mul_small (by tb_start) (by tb_start)) ?_; k_whole); intro _ _ _ _ _ l1q _ _; (try k_lt l1q); (try k_sweep))
  k_with "binaryOp Add ref ref" => (k_here; (with_reducible show wpAny _ _ (binaryOp Operator.Add (Value.ref _) (Value.ref _)) _ _ _); k_dflt (refine' own_add (by k_asm) (by k_asm) (by is_list) (by is_list) (by first | l_ints | l_intsW) (by first | l_ints | l_intsW) (by tb_start) ?_; k_whole); intro _ _ _ _ _ l1q _ _; (try k_lt l1q); (try k_sweep))
  k_with "subscriptTail Name Slice str ref" => ((with_reducible show wpAny _ _ (subscriptTail _ (Expr.Slice none (some _) none _) _ _) _ _ _); (with_reducible rename Fr _ _ _ _ => F'q); (with_reducible rename News _ _ _ _ => N'q); refine slice_strN_ns_len (hsz := (by first | exact Short.fits (by assumption) | (rw [sizeLine_eq]; omega))) (s := ⟨_, _, _, _, _⟩) F'q N'q ?_; intro _ _ _ F'q N'q _; (try k_sweep))
  k_with "subscriptTail Name Slice str ref" => ((with_reducible show wpAny _ _ (subscriptTail _ (Expr.Slice (some _) none none _) _ _) _ _ _); (with_reducible rename Fr _ _ _ _ => F'q); (with_reducible rename News _ _ _ _ => N'q); refine slice_strN_sn_len (hsz := (by first | exact Short.fits (by assumption) | (rw [sizeLine_eq]; omega))) (s := ⟨_, _, _, _, _⟩) F'q N'q ?_; intro _ _ _ F'q N'q _; (try k_sweep))
  k_with "tb_rel" => (intro _ h9q k9q; (simp only [List.forall_mem_cons, List.not_mem_nil, false_implies, implies_true, and_true, ne_eq] at h9q); (try simp only [List.contains_cons, List.contains_nil, Bool.or_false, Bool.or_eq_false_iff, beq_eq_false_iff_ne, ne_eq] at k9q); simp [kstB, h9q, k9q])
  k_with "binaryOp Mult ref int" => (k_here; (with_reducible show wpAny _ _ (binaryOp Operator.Mult (Value.ref _) (Value.int _ _)) _ _ _); k_dflt (refine' own_mul (by k_asm) (by k_asm) (by is_list) (by l_intsW) (by omega) (by omega) (by simp only [List.length_cons, List.length_nil]; omega) ?_; k_whole); intro _ _ _ _ _ l1q _ _; (try k_lt l1q); (try k_sweep))
  k_with "subscriptTail Name Name ref int" => (k_here; (with_reducible show wpAny _ _ (subscriptTail _ _ (Value.ref _) (Value.int _ _)) _ _ _); k_dflt (refine' item_list_ints (by is_list) (by l_ints) (by omega) (by first | omega | exact ws_lt (by assumption) (by omega)) (by first | omega | exact ws_lt2 (by assumption) (by omega) (by omega)) ?_; k_whole); intro _)
  k_with "setItem ref int" => (k_here; k_dflt (refine' own_set (by k_asm) (by k_asm) (by k_upd) (by l_ints) (by omega) (by first | omega | exact ws_lt (by assumption) (by omega)) (by first | omega | exact ws_lt2 (by assumption) (by omega) (by omega)) ?_; k_whole); intro _ _ N'q _ _; (try dsimp only at N'q); (try k_sweep))
  k_with "call type:tuple" => (k_here; (with_reducible show wpAny _ _ (call (Value.type _) [Value.ref _]) _ _ _); k_dflt (refine' own_tuple (by k_asm) (by k_asm) (by is_list) (by l_ints) (by omega) ?_; k_whole); intro _ _ _ _ l1q; (try k_lt l1q))
  trivial
set_option maxHeartbeats 8000000 in
theorem ws_c {w : World} {p : Program} {loose : List Str} {mean : ExcName → Option Value} {mg mb : Str → Option Value} {dp un : Nat} {gd : Option (List Code)} {cn : Str} {cs : Scope} {a : Addr} {ccd : Value} {cl : List (Str × Addr)} {outer : List Env} {A₀ : Around} {base h₀ : Heap} {L : Addr} {m : Str → Option Value} {s : Shared} {Q E : Value → Shared → Prop}
    {x : Str} {tx : Tok}
    (B : Below A₀ base outer h₀) (F : Fr h₀ L s.heap m) (X : (hd.heap_1 w.params).In h₀) (T : Top p loose mean mg mb h₀) (hk : cs.kind = .function)
    (hz : Tiny x) (hd : dp + 10 < recursionLimit) (hu : un + 200 < cLine)
    (hret : ∀ l h' tk', s.heap.StaysIn h' → s.heap.get? l = none → WsNew w s.heap h' l (wsRun (codes x) [] 0 0 0) → Q (.ref l) { s with heap := h', toks := tk' }) :
    wpAny (model PySem.Challenge.rw_st0029_01.row.prog w) (ktrTop dp un gd cn cs L a ccd cl outer) (call (.ref 76) [.str x tx]) Q E s := by
  w_top off
  revert X
  k_fill
  intro X
  refine wpAny_call ?_
  k_dflt (refine' own_new (binds := [(Str.ofString "ws", Value.str x tx)]) ?k1 ?k2 ?k3 ?k5 ?kA ?kF ?kK ?km ?ki ?kn ?k6 ?k7 ?k8 ?k9 ?kB ?_ ?c2 ?c3 ?c4 ?c5; (case kA => exact rfl); (case kF => exact rfl); (case kK => assumption); (case k1 => k_asm); (case k2 => k_asm); (case k3 => k_asm); (case k5 => k_asm); (case km => k_is); (case ki => k_is); (case kn => k_is); (case k6 => k_is); (case k7 => k_is); (case k8 => ktr_room); (case k9 => exact fun _ _ => BindsTo.of_eq rfl); (case c5 => decide); (case kB => exact fun _ => locs rfl); (case c2 => exact rfl); (case c3 => exact rfl); (case c4 => exact rfl); k_whole; intro g' h' ix idx SZ sS iN iL iS F' N' B' X' T'; (k_lt2 iL);  (try dsimp only); (try k_lift B'); (try k_fold))
  iterate 48 (first | (k_unfold; (try dsimp only)) | walk1 | (dsimp only; walk1))
  (with_reducible rename Fr _ _ _ _ => lF')
  (with_reducible rename News _ _ _ _ => lN')
  rename_i dT _ wl0 _ _ _ _ lT _ wl1 _ _ _ _
  refine' own_textT (σ := WS) (fun c => (c.D, listOf c.vs.toArray c.ep)) _ (fun c => [(Str.ofString "count", Value.ref c.D), (Str.ofString "b", Value.int c.b c.tb), (Str.ofString "n", Value.int c.n c.tn), (Str.ofString "nt", Value.int c.nt c.tnt)]) (fun c => IntsAre c.vs c.cnt ∧ (@LT.lt Nat instLTNat dT c.D ∧ @LT.lt Nat instLTNat ix c.D ∧ @LT.lt Nat instLTNat idx c.D)) [] (fun pre c => Wp pre c.cnt c.b c.n c.nt)
    ⟨_, [], [], 0, 0, _, 0, _, 0, _⟩ rfl lF' ?kn ?kf ?kk ?kp ?kt ?kd
  case kn => exact lN'
  case kf => exact ⟨.nil, wl1⟩
  case kk => kst_all
  case kp => exact Wp.start
  case kt =>
    clear lF' lN'
    rintro ⟨wD, wvs, wcnt, wep, wb, wtb, wn, wtn, wnt, wtnt⟩ wpre wpost wc wt wu wh wtk wown wcodes woff ⟨wI, wl2⟩ wP wFr wNews
    dsimp only [kstB, List.cons_append, List.nil_append] at wI wl2 wP wFr wNews woff
    have woff2 := ownOff_of woff
    dsimp only [List.map] at woff2
    try k_fold
    have wl := hz.le
    have wl4 := codes_length x
    have wl3 := congrArg List.length wcodes
    rw [List.length_append, List.length_cons] at wl3
    have wb0 := wP.b0
    have wbn := wP.bn
    have wcn := wP.cn
    have wnp := wP.np
    k_steps
    · refine own_end (WS.mk wD wvs wcnt wep (wb + 1) _ (wn + 1) _ wnt wtnt) (by k_asm) (by k_asm) (by ((try dsimp only); (repeat' (first | exact List.forall_mem_nil _ | (refine List.forall_mem_cons.mpr ⟨?_, ?_⟩))); all_goals k_mem)) (by (intro p9 hp9; (repeat (first | exact hp9 | refine List.Mem.tail _ ?_)))) (tbOff_of woff2) ⟨wI, wl2⟩ (by kst_all) (by (intro z9 g9 h9 k9; (simp only [List.forall_mem_cons, List.not_mem_nil, false_implies, implies_true, and_true, ne_eq] at h9 g9); simp [h9, g9])) (wP.blank (one_blank (by assumption)))
    · (rename _ < _ ∧ _ < _ ∧ _ < _ ∧ _ < _ ∧ _ < _ ∧ _ < _ ∧ AllLt _ _ => q9)
      refine own_end (WS.mk _ _ _ _ 0 _ (wn + 1) _ (wnt + 1) _) (by k_asm) (by k_asm) (by ((try dsimp only); (repeat' (first | exact List.forall_mem_nil _ | (refine List.forall_mem_cons.mpr ⟨?_, ?_⟩))); all_goals k_mem)) (by (intro p9 hp9; (repeat (first | exact hp9 | refine List.Mem.tail _ ?_)))) (tbOff_of (ownOff_cons q9.2.2.2.2.2.2 (ownOff_tail woff2))) ⟨by assumption, q9.2.2.2.1, q9.2.2.2.2.1, q9.2.2.2.2.2.1⟩ (by kst_all) (by (intro z9 g9 h9 k9; (simp only [List.forall_mem_cons, List.not_mem_nil, false_implies, implies_true, and_true, ne_eq] at h9 g9); simp [h9, g9])) ?_
      have e9 := wP.tab (one_tab (by assumption))
      unfold bump bump1 at e9
      rw [if_pos (by assumption)] at e9
      exact e9
    · refine own_end (WS.mk wD _ _ _ 0 _ (wn + 1) _ (wnt + 1) _) (by k_asm) (by k_asm) (by ((try dsimp only); (repeat' (first | exact List.forall_mem_nil _ | (refine List.forall_mem_cons.mpr ⟨?_, ?_⟩))); all_goals k_mem)) (by (intro p9 hp9; (repeat (first | exact hp9 | refine List.Mem.tail _ ?_)))) (tbOff_of woff2) ⟨by assumption, wl2⟩ (by kst_all) (by (intro z9 g9 h9 k9; (simp only [List.forall_mem_cons, List.not_mem_nil, false_implies, implies_true, and_true, ne_eq] at h9 g9); simp [h9, g9])) ?_
      have e9 := wP.tab (one_tab (by assumption))
      unfold bump bump1 at e9
      rw [if_neg (by assumption)] at e9
      exact e9
    · dsimp only [Ret, InitBack]
      refine ⟨rfl, hret ix _ _ (fun b o e => Fr.keep (by assumption) b o (sS b o e)) iN ?_⟩
      rw [wcodes, wP.stop (not_blank (by assumption)) (not_tab (by assumption))]
      exact wsNew_of (dx := idx) (cvs := wvs) (x := x) (tx := tx) (by assumption) (fun b o e => sS b o e) (by k_mem) (by k_mem) (by k_mem) (by k_mem) wI
  case kd =>
    clear lF' lN'
    rintro ⟨wD, wvs, wcnt, wep, wb, wtb, wn, wtn, wnt, wtnt⟩ wu wh wtk ⟨wI, wl2⟩ wP wFr wNews
    dsimp only [kstB] at wI wl2 wP wFr wNews
    try k_fold
    have wl := hz.le
    have wl4 := codes_length x
    have wb0 := wP.b0
    have wbn := wP.bn
    have wcn := wP.cn
    have wnp := wP.np
    k_steps
    dsimp only [Ret, InitBack]
    refine ⟨rfl, hret ix _ _ (fun b o e => Fr.keep (by assumption) b o (sS b o e)) iN ?_⟩
    rw [wP.all]
    exact wsNew_of (dx := idx) (cvs := wvs) (x := x) (tx := tx) (by assumption) (fun b o e => sS b o e) (by k_mem) (by k_mem) (by k_mem) (by k_mem) wI
end
-- text meth
section
open PySem.W.KStt
theorem instKeeps {h h' : Heap} {x C : Addr} {ox : Obj} {od : Option Obj} (I : InstAt h x ox C od) (k : h.StaysIn h') : InstAt h' x ox C od := by
  obtain ⟨h1, h2, h3, h4⟩ := I
  refine ⟨k _ _ h1, h2, h3, ?_⟩
  split at h4
  · exact k _ _ h4
  · trivial
  · exact h4.elim
section
variable {prog : Program} {w : World} {A : Around} {E : Value → Shared → Prop} {s : Shared}
theorem own_lenT {l : Addr} {vs : List Value} {ns : List Int} {Q : Value → Shared → Prop} (hl : IsTup s.heap l vs.toArray) (hi : IntsAre vs ns) (hb : ns.length ≤ 1000000)
    (h : Q (.int (ns.length : Nat) (s.toks + 1)) { s with toks := s.toks + 1 + 1 }) : wpAny (model prog w) A (call (.builtin "len") [.ref l]) Q E s := by
  have e : vs.toArray.size = ns.length := by simp [hi.length]
  refine len_tuple hl (by rw [e]; omega) ?_
  rw [e]; exact h
theorem own_itemT {value slice : PySem.Expr} {l : Addr} {vs : List Value} {ns : List Int} {k : Int} {u : Tok} {Q : Value → Shared → Prop} (hl : IsTup s.heap l vs.toArray) (hi : IntsAre vs ns)
    (h0 : 0 ≤ k) (h1 : k < (ns.length : Nat)) (hb : ns.length ≤ 1000000) (h : ∀ t, Q (.int (ns.getD k.toNat 0) t) s)
    (hs : subscripted slice false (.ref l) (.int k u) = operate [.ref l, .int k u] (getItem (.ref l) (.int k u)) := by with_unfolding_all rfl) (hg : ∀ r, letTemporaryGo value (.ref l) r = pure () := by intro _; with_unfolding_all rfl) :
    wpAny (model prog w) A (subscriptTail value slice (.ref l) (.int k u)) Q E s := by
  obtain ⟨t, hx⟩ := hi.get k.toNat _ (ints_getD h0 h1)
  have hlen := hi.length
  refine item_tupleL (j := k.toNat) hl (by omega) (by omega) ?_ hx (h t) hs hg
  rw [hlen]
  exact seqIndex_of h0 h1
end
local macro_rules | `(tactic| k_inst) => `(tactic| exact instKeeps (by assumption) (Fr.keep (by assumption)))
theorem reg_meth_1 : True := by
  k_with_none
  k_with "cell_enter" => (refine' own_def0 ?cek1 ?cek2 ?cek3 ?cek5 ?cekA ?cekF ?cekK ?cek6 ?cek7 ?cek8 ?cek9 ?cekB ?_ ?cec2 ?cec3 ?cec4 ?cec5; (case cekA => exact rfl); (case cekF => exact rfl); (case cekK => assumption); (case cek1 => k_asm); (case cek2 => k_asm); (case cek3 => k_asm); (case cek5 => k_asm); (case cek6 => k_is); (case cek7 => k_is); (case cek8 => ktr_room); (case cek9 => exact BindsTo.of_eq rfl); (case cec5 => decide); (case cekB => exact locs rfl); (case cec2 => exact rfl); (case cec3 => exact rfl); (case cec4 => exact rfl); k_whole; intro _ _ _ Bq9 _ _; (try dsimp only); (try k_lift Bq9); (try k_fold))
  k_with "units_room" => (have hcL9 := cLine_is; (try dsimp only [ktrTop]); simp only [units_in1, units_deeper, Around.mark_units, units_caller]; omega)
  k_with "call builtin:list.index" => (k_here; (with_reducible show wpAny _ _ (call (Value.builtin _) [Value.ref _, Value.int _ _]) _ _ _); k_dflt (refine' own_index (by is_list) (by l_ints) (by tb_start) (by first | assumption | exact any_mem (by assumption)) ?_; k_whole))
  k_with "getMethod ref" => ((with_reducible show wpAny _ _ (getMethod (Value.ref _) (Str.ofString "index") _) _ _ _); k_dflt (refine getMethod_list_of PySem.F.slot_list_index PySem.F.type_list_index (by is_list) (by no_dict) ?_))
  k_with "call builtin:len" => (k_here; (with_reducible show wpAny _ _ (call (Value.builtin "len") [Value.ref _]) _ _ _); k_dflt (refine' own_len (by is_list) (by l_ints) (by tb_start) ?_; k_whole))
  k_with "subscriptTail Name Slice ref ref" => (k_here; (with_reducible show wpAny _ _ (subscriptTail _ (PySem.Expr.Slice _ _ none _) (Value.ref _) (Value.ref _)) _ _ _); k_dflt (refine' own_slice (by k_asm) (by k_asm) (by kmk_list) (by l_ints) (by tb_start) (by kmk_part) (by kmk_part) ?_ (by with_unfolding_all rfl) (by kmk_pure); k_whole); intro _ _ _ _ _ l1q _ _; (try k_lt l1q); (try k_sweep))
  k_with "binaryOp Mult ref int" => (k_here; (with_reducible show wpAny _ _ (binaryOp Operator.Mult (Value.ref _) (Value.int _ _)) _ _ _); k_dflt (refine' own_mul (by k_asm) (by k_asm) (by is_list) (by first | l_ints | l_intsW) (by tb_start) (by tb_start) (by exact mul_small (by tb_start) (by tb_start)) ?_; k_whole); intro _ _ _ _ _ l1q _ _; (try k_lt l1q); (try k_sweep))
  k_with "binaryOp Add ref ref" => (k_here; (with_reducible show wpAny _ _ (binaryOp Operator.Add (Value.ref _) (Value.ref _)) _ _ _); k_dflt (refine' own_add (by k_asm) (by k_asm) (by is_list) (by is_list) (by first | l_ints | l_intsW) (by first | l_ints | l_intsW) (by tb_start) ?_; k_whole); intro _ _ _ _ _ l1q _ _; (try k_lt l1q); (try k_sweep))
  k_with "subscriptTail Name Slice str ref" => ((with_reducible show wpAny _ _ (subscriptTail _ (Expr.Slice none (some _) none _) _ _) _ _ _); (with_reducible rename Fr _ _ _ _ => F'q); (with_reducible rename News _ _ _ _ => N'q); refine slice_strN_ns_len (hsz := (by first | exact Short.fits (by assumption) | (rw [sizeLine_eq]; omega))) (s := ⟨_, _, _, _, _⟩) F'q N'q ?_; intro _ _ _ F'q N'q _; (try k_sweep))
  k_with "subscriptTail Name Slice str ref" => ((with_reducible show wpAny _ _ (subscriptTail _ (Expr.Slice (some _) none none _) _ _) _ _ _); (with_reducible rename Fr _ _ _ _ => F'q); (with_reducible rename News _ _ _ _ => N'q); refine slice_strN_sn_len (hsz := (by first | exact Short.fits (by assumption) | (rw [sizeLine_eq]; omega))) (s := ⟨_, _, _, _, _⟩) F'q N'q ?_; intro _ _ _ F'q N'q _; (try k_sweep))
  k_with "tb_rel" => (intro _ h9q k9q; (simp only [List.forall_mem_cons, List.not_mem_nil, false_implies, implies_true, and_true, ne_eq] at h9q); (try simp only [List.contains_cons, List.contains_nil, Bool.or_false, Bool.or_eq_false_iff, beq_eq_false_iff_ne, ne_eq] at k9q); simp [kstB, h9q, k9q])
  k_with "call builtin:len" => (k_here; (with_reducible show wpAny _ _ (call (Value.builtin "len") [Value.ref _]) _ _ _); k_dflt (refine' own_lenT (by first | exact IsTup.keeps (by assumption) (Fr.keep (by assumption))) (by l_ints) (by omega) ?_; k_whole))
  trivial
set_option maxHeartbeats 8000000 in
theorem longest_c {w : World} {p : Program} {loose : List Str} {mean : ExcName → Option Value} {mg mb : Str → Option Value} {dp un : Nat} {gd : Option (List Code)} {cn : Str} {cs : Scope} {a : Addr} {ccd : Value} {cl : List (Str × Addr)} {outer : List Env} {A₀ : Around} {base h₀ : Heap} {L : Addr} {m : Str → Option Value} {s : Shared} {Q E : Value → Shared → Prop}
    {l : Addr} {q : List Int × Int × Int × Int}
    (B : Below A₀ base outer h₀) (F : Fr h₀ L s.heap m) (X : (hd.heap_1 w.params).In h₀) (T : Top p loose mean mg mb h₀) (hk : cs.kind = .function)
    (W : WsAt w s.heap l q) (hz : q.1.length ≤ 200) (hd : dp + 5 < recursionLimit) (hu : un + 100 < cLine)
    (hret : ∀ t h' tk', s.heap.StaysIn h' → Q (.int (max (((q.1.length : Nat) : Int) - 1) q.2.1) t) { s with heap := h', toks := tk' }) :
    wpAny (model PySem.Challenge.rw_st0029_01.row.prog w) (ktrTop dp un gd cn cs L a ccd cl outer) (call (.ref 38) [.ref l]) Q E s := by
  w_top off
  revert X
  k_fill
  intro X
  obtain ⟨dx, nT, cT, cvs, wx, wtx, t1, t2, t3, t4, t5, u1, u2, u3, w1, w2, w3, w4, w5⟩ := W
  have hI : InstAt s.heap l (instObj 76 dx) 76 (some _) := ⟨w1, rfl, rfl, w2⟩
  have hT : IsTup s.heap nT _ := ⟨_, w3, rfl, _, rfl⟩
  have hC : IsTup s.heap cT cvs.toArray := ⟨_, w4, rfl, _, rfl⟩
  refine wpAny_call ?_
  k_dflt cell_enter
  k_steps
  all_goals dsimp only [qk, Ret]
  have e9 : (if q.2.1 > ((q.1.length : Nat) : Int) - 1 then q.2.1 else ((q.1.length : Nat) : Int) - 1) = max (((q.1.length : Nat) : Int) - 1) q.2.1 := by
    rw [Int.max_def]; split <;> split <;> omega
  rw [e9]
  exact hret _ _ _ (Fr.keep (by assumption))
theorem fdiv_mulok {k ts b : Int} (h0 : 0 ≤ k) (h1 : k ≤ 1000) (h2 : 1 ≤ ts) : IntMulOk (Int.fdiv k ts) b := by
  have e : Int.fdiv k ts = k / ts := Int.fdiv_eq_ediv_of_nonneg k (by omega)
  have l1 : 0 ≤ k / ts := Int.ediv_nonneg h0 (by omega)
  have l2 : k / ts ≤ k := Int.ediv_le_self ts h0
  rw [e]
  exact IntMulOk.of_left (intBits_le_64 (by omega) (by omega))
noncomputable def ilF (cnt : List Int) (ts : Int) (pre : List Int) : Int := pre.foldl (fun a i => a + Int.fdiv i ts * cnt.getD i.toNat 0) 0
theorem il_step {cnt pre : List Int} {ts k il : Int} (h : il = ilF cnt ts pre) : il + Int.fdiv k ts * cnt.getD k.toNat 0 = ilF cnt ts (pre ++ [k]) := by
  unfold ilF; rw [List.foldl_append, h]; rfl
noncomputable def indF (q : List Int × Int × Int × Int) (ts : Int) : Int := q.2.1 + ts * (ilF q.1 ts (rangeKs ts (((q.1.length : Nat) : Int) - ts).toNat) + q.2.2.2)
theorem reg_meth_2 : True := by
  k_with "subscriptTail Name Name ref int" => (k_here; (with_reducible show wpAny _ _ (subscriptTail _ _ (Value.ref _) (Value.int _ _)) _ _ _); k_dflt (refine' own_itemT (by first | exact IsTup.keeps (by assumption) (Fr.keep (by assumption))) (by l_ints) (by omega) (by omega) (by omega) ?_; k_whole); intro _)
  k_with "binaryOp Mult int int" => (k_dflt (refine mul_int ?_ (by first | exact fdiv_mulok (by omega) (by omega) (by omega) | exact IntMulOk.of_left (intBits_le_64 (by omega) (by omega)))))
  trivial
set_option maxHeartbeats 8000000 in
theorem indent_c {w : World} {p : Program} {loose : List Str} {mean : ExcName → Option Value} {mg mb : Str → Option Value} {dp un : Nat} {gd : Option (List Code)} {cn : Str} {cs : Scope} {a : Addr} {ccd : Value} {cl : List (Str × Addr)} {outer : List Env} {A₀ : Around} {base h₀ : Heap} {L : Addr} {m : Str → Option Value} {s : Shared} {Q E : Value → Shared → Prop}
    {l : Addr} {q : List Int × Int × Int × Int} {ts : Int} {tt : Tok}
    (B : Below A₀ base outer h₀) (F : Fr h₀ L s.heap m) (X : (hd.heap_1 w.params).In h₀) (T : Top p loose mean mg mb h₀) (hk : cs.kind = .function)
    (W : WsAt w s.heap l q) (hz : q.1.length ≤ 200) (h1 : 1 ≤ ts) (h2 : ts ≤ 1000) (hd : dp + 5 < recursionLimit) (hu : un + 100 < cLine)
    (hret : ∀ t h' tk', s.heap.StaysIn h' → Q (.int (indF q ts) t) { s with heap := h', toks := tk' }) :
    wpAny (model PySem.Challenge.rw_st0029_01.row.prog w) (ktrTop dp un gd cn cs L a ccd cl outer) (call (.ref 45) [.ref l, .int ts tt]) Q E s := by
  w_top off
  k_with "pyIter ref" => k_state (fun pre il => il = ilF q.1 ts pre) "il"
  k_with "state" => exact il_step (by assumption)
  revert X
  k_fill
  intro X
  obtain ⟨dx, nT, cT, cvs, wx, wtx, t1, t2, t3, t4, t5, u1, u2, u3, w1, w2, w3, w4, w5⟩ := W
  have hI : InstAt s.heap l (instObj 76 dx) 76 (some _) := ⟨w1, rfl, rfl, w2⟩
  have hT : IsTup s.heap nT _ := ⟨_, w3, rfl, _, rfl⟩
  have hC : IsTup s.heap cT cvs.toArray := ⟨_, w4, rfl, _, rfl⟩
  refine wpAny_call ?_
  k_dflt cell_enter
  k_steps
  · dsimp only [qk, Ret]
    (rename (_ = ilF _ _ _) => e1)
    rw [e1]
    exact hret _ _ _ (Fr.keep (by assumption))
end
-- text meth2
section
open PySem.W.KStt
local macro_rules | `(tactic| k_inst) => `(tactic| exact instKeeps (by assumption) (Fr.keep (by assumption)))
theorem reg_meth2_1 : True := by
  k_with_none
  k_with "cell_enter" => (refine' own_def0 ?cek1 ?cek2 ?cek3 ?cek5 ?cekA ?cekF ?cekK ?cek6 ?cek7 ?cek8 ?cek9 ?cekB ?_ ?cec2 ?cec3 ?cec4 ?cec5; (case cekA => exact rfl); (case cekF => exact rfl); (case cekK => assumption); (case cek1 => k_asm); (case cek2 => k_asm); (case cek3 => k_asm); (case cek5 => k_asm); (case cek6 => k_is); (case cek7 => k_is); (case cek8 => ktr_room); (case cek9 => exact BindsTo.of_eq rfl); (case cec5 => decide); (case cekB => exact locs rfl); (case cec2 => exact rfl); (case cec3 => exact rfl); (case cec4 => exact rfl); k_whole; intro _ _ _ Bq9 _ _; (try dsimp only); (try k_lift Bq9); (try k_fold))
  k_with "units_room" => (have hcL9 := cLine_is; (try dsimp only [ktrTop]); simp only [units_in1, units_deeper, Around.mark_units, units_caller]; omega)
  k_with "call builtin:list.index" => (k_here; (with_reducible show wpAny _ _ (call (Value.builtin _) [Value.ref _, Value.int _ _]) _ _ _); k_dflt (refine' own_index (by is_list) (by l_ints) (by tb_start) (by first | assumption | exact any_mem (by assumption)) ?_; k_whole))
  k_with "getMethod ref" => ((with_reducible show wpAny _ _ (getMethod (Value.ref _) (Str.ofString "index") _) _ _ _); k_dflt (refine getMethod_list_of PySem.F.slot_list_index PySem.F.type_list_index (by is_list) (by no_dict) ?_))
  k_with "call builtin:len" => (k_here; (with_reducible show wpAny _ _ (call (Value.builtin "len") [Value.ref _]) _ _ _); k_dflt (refine' own_len (by is_list) (by l_ints) (by tb_start) ?_; k_whole))
  k_with "subscriptTail Name Slice ref ref" => (k_here; (with_reducible show wpAny _ _ (subscriptTail _ (PySem.Expr.Slice _ _ none _) (Value.ref _) (Value.ref _)) _ _ _); k_dflt (refine' own_slice (by k_asm) (by k_asm) (by kmk_list) (by l_ints) (by tb_start) (by kmk_part) (by kmk_part) ?_ (by with_unfolding_all rfl) (by kmk_pure); k_whole); intro _ _ _ _ _ l1q _ _; (try k_lt l1q); (try k_sweep))
  k_with "binaryOp Mult ref int" => (k_here; (with_reducible show wpAny _ _ (binaryOp Operator.Mult (Value.ref _) (Value.int _ _)) _ _ _); k_dflt (refine' own_mul (by k_asm) (by k_asm) (by is_list) (by first | l_ints | l_intsW) (by tb_start) (by tb_start) (by exact mul_small (by tb_start) (by tb_start)) ?_; k_whole); intro _ _ _ _ _ l1q _ _; (try k_lt l1q); (try k_sweep))
  k_with "binaryOp Add ref ref" => (k_here; (with_reducible show wpAny _ _ (binaryOp Operator.Add (Value.ref _) (Value.ref _)) _ _ _); k_dflt (refine' own_add (by k_asm) (by k_asm) (by is_list) (by is_list) (by first | l_ints | l_intsW) (by first | l_ints | l_intsW) (by tb_start) ?_; k_whole); intro _ _ _ _ _ l1q _ _; (try k_lt l1q); (try k_sweep))
  k_with "subscriptTail Name Slice str ref" => ((with_reducible show wpAny _ _ (subscriptTail _ (Expr.Slice none (some _) none _) _ _) _ _ _); (with_reducible rename Fr _ _ _ _ => F'q); (with_reducible rename News _ _ _ _ => N'q); refine slice_strN_ns_len (hsz := (by first | exact Short.fits (by assumption) | (rw [sizeLine_eq]; omega))) (s := ⟨_, _, _, _, _⟩) F'q N'q ?_; intro _ _ _ F'q N'q _; (try k_sweep))
  k_with "subscriptTail Name Slice str ref" => ((with_reducible show wpAny _ _ (subscriptTail _ (Expr.Slice (some _) none none _) _ _) _ _ _); (with_reducible rename Fr _ _ _ _ => F'q); (with_reducible rename News _ _ _ _ => N'q); refine slice_strN_sn_len (hsz := (by first | exact Short.fits (by assumption) | (rw [sizeLine_eq]; omega))) (s := ⟨_, _, _, _, _⟩) F'q N'q ?_; intro _ _ _ F'q N'q _; (try k_sweep))
  k_with "tb_rel" => (intro _ h9q k9q; (simp only [List.forall_mem_cons, List.not_mem_nil, false_implies, implies_true, and_true, ne_eq] at h9q); (try simp only [List.contains_cons, List.contains_nil, Bool.or_false, Bool.or_eq_false_iff, beq_eq_false_iff_ne, ne_eq] at k9q); simp [kstB, h9q, k9q])
  k_with "compareOp Eq ref ref" => (k_here; (with_reducible show wpAny _ _ (compareOp CmpOp.Eq (Value.ref _) (Value.ref _)) _ _ _); k_dflt (refine' own_eqNorm (by exact reads_norm (Fr.keep (by k_asm) _ _ (by assumption)) (Fr.keep (by k_asm) _ _ (by assumption)) (by assumption)) (by exact reads_norm (Fr.keep (by k_asm) _ _ (by assumption)) (Fr.keep (by k_asm) _ _ (by assumption)) (by assumption)) (by units_room) ?_; k_whole))
  trivial
set_option maxHeartbeats 8000000 in
theorem equal_c {w : World} {p : Program} {loose : List Str} {mean : ExcName → Option Value} {mg mb : Str → Option Value} {dp un : Nat} {gd : Option (List Code)} {cn : Str} {cs : Scope} {a : Addr} {ccd : Value} {cl : List (Str × Addr)} {outer : List Env} {A₀ : Around} {base h₀ : Heap} {L : Addr} {m : Str → Option Value} {s : Shared} {Q E : Value → Shared → Prop}
    {l l2 : Addr} {q q2 : List Int × Int × Int × Int}
    (B : Below A₀ base outer h₀) (F : Fr h₀ L s.heap m) (X : (hd.heap_1 w.params).In h₀) (T : Top p loose mean mg mb h₀) (hk : cs.kind = .function)
    (W : WsAt w s.heap l q) (W2 : WsAt w s.heap l2 q2) (hd : dp + 5 < recursionLimit) (hu : un + 100 < cLine)
    (hret : ∀ h' tk', s.heap.StaysIn h' → Q (.bool (decide (q.1 = q2.1 ∧ q.2.1 = q2.2.1))) { s with heap := h', toks := tk' }) :
    wpAny (model PySem.Challenge.rw_st0029_01.row.prog w) (ktrTop dp un gd cn cs L a ccd cl outer) (call (.ref 52) [.ref l, .ref l2]) Q E s := by
  w_top off
  revert X
  k_fill
  intro X
  obtain ⟨dx, nT, cT, cvs, wx, wtx, t1, t2, t3, t4, t5, u1, u2, u3, w1, w2, w3, w4, w5⟩ := id W
  have hI : InstAt s.heap l (instObj 76 dx) 76 (some _) := ⟨w1, rfl, rfl, w2⟩
  obtain ⟨dx', nT', cT', cvs', wx', wtx', t1', t2', t3', t4', t5', u1', u2', u3', w1', w2', w3', w4', w5'⟩ := id W2
  have hI' : InstAt s.heap l2 (instObj 76 dx') 76 (some _) := ⟨w1', rfl, rfl, w2'⟩
  refine wpAny_call ?_
  k_dflt cell_enter
  k_steps
  all_goals dsimp only [qk, Ret]
  exact hret _ _ (Fr.keep (by assumption))
theorem wsk {w : World} {h₀ h : Heap} {L l : Addr} {m : Str → Option Value} {q : List Int × Int × Int × Int} (W : WsAt w h₀ l q) (F : Fr h₀ L h m) : WsAt w h l q := W.keeps F.keep
theorem lt_snoc {q q2 : List Int × Int × Int × Int} {pre : List Int} {n : Int} (h : ∀ k ∈ pre, indF q k < indF q2 k) (a : ¬ indF q2 n ≤ indF q n) : ∀ k ∈ pre ++ [n], indF q k < indF q2 k := fun k hk => by
  rcases List.mem_append.mp hk with hk | hk
  · exact h k hk
  · rw [List.mem_singleton.mp hk]; omega
noncomputable def longN (q : List Int × Int × Int × Int) : Int := max (((q.1.length : Nat) : Int) - 1) q.2.1
noncomputable def topN (q q2 : List Int × Int × Int × Int) : Int := (if longN q2 > longN q then longN q2 else longN q) + 1
noncomputable def lessF (q q2 : List Int × Int × Int × Int) : Bool :=
  if q2.2.2.1 ≤ q.2.2.1 then false else if ((q.1.length : Nat) : Int) ≤ 1 ∧ ((q2.1.length : Nat) : Int) ≤ 1 then decide (q.2.2.2 ≤ q2.2.2.2) else (rangeKs 2 (topN q q2 + 1 - 2).toNat).all fun k => decide (indF q k < indF q2 k)
theorem lessF_1 {q q2 : List Int × Int × Int × Int} (a : q2.2.2.1 ≤ q.2.2.1) : false = lessF q q2 := by unfold lessF; rw [if_pos a]
theorem lessF_2 {q q2 : List Int × Int × Int × Int} (a : ¬ q2.2.2.1 ≤ q.2.2.1) (b : ((q.1.length : Nat) : Int) ≤ 1) (c : ((q2.1.length : Nat) : Int) ≤ 1) : decide (q.2.2.2 ≤ q2.2.2.2) = lessF q q2 := by unfold lessF; rw [if_neg a, if_pos ⟨b, c⟩]
theorem lessF_3 {q q2 : List Int × Int × Int × Int} {n : Int} {pre : List Int} (a : ¬ q2.2.2.1 ≤ q.2.2.1) (b : ¬ (((q.1.length : Nat) : Int) ≤ 1 ∧ ((q2.1.length : Nat) : Int) ≤ 1)) (e : n = 2 + (pre.length : Nat)) (l : pre.length < (topN q q2 + 1 - 2).toNat) (c : indF q2 n ≤ indF q n) : false = lessF q q2 := by
  unfold lessF; rw [if_neg a, if_neg b]
  refine (List.all_eq_false.mpr ⟨n, by rw [e]; exact List.mem_map.mpr ⟨pre.length, List.mem_range.mpr l, rfl⟩, ?_⟩).symm
  rw [decide_eq_true_eq]; omega
theorem lessF_4 {q q2 : List Int × Int × Int × Int} (a : ¬ q2.2.2.1 ≤ q.2.2.1) (b : ¬ (((q.1.length : Nat) : Int) ≤ 1 ∧ ((q2.1.length : Nat) : Int) ≤ 1)) (c : ∀ k ∈ rangeKs 2 (topN q q2 + 1 - 2).toNat, indF q k < indF q2 k) : true = lessF q q2 := by
  unfold lessF; rw [if_neg a, if_neg b]
  exact (List.all_eq_true.mpr fun k hk => decide_eq_true (c k hk)).symm
theorem reg_meth2_2 : True := by
  k_with "call ref" => (k_dflt (show wpAny _ _ (call (Value.ref 38) [Value.ref _]) _ _ _); k_dflt (refine' longest_c (by k_asm) (by k_asm) (by k_asm) (by k_asm) (by rfl) (by exact wsk (by assumption) (by k_asm)) (by assumption) (by (try dsimp only [ktrTop]); omega) (by (try dsimp only [ktrTop]); omega) ?_); intro _ _ _ st'q; k_dflt (obtain ⟨_, _⟩ := behind (by k_asm) (by k_asm) st'q); clear st'q; (try k_sweep))
  k_with "call ref" => (k_dflt (show wpAny _ _ (call (Value.ref 45) [Value.ref _, Value.int _ _]) _ _ _); k_dflt (refine' indent_c (by k_asm) (by k_asm) (by k_asm) (by k_asm) (by rfl) (by exact wsk (by assumption) (by k_asm)) (by assumption) (by omega) (by omega) (by (try dsimp only [ktrTop]); omega) (by (try dsimp only [ktrTop]); omega) ?_); intro _ _ _ st'q; k_dflt (obtain ⟨_, _⟩ := behind (by k_asm) (by k_asm) st'q); clear st'q; (try k_sweep))
  trivial
set_option maxHeartbeats 8000000 in
theorem less_c {w : World} {p : Program} {loose : List Str} {mean : ExcName → Option Value} {mg mb : Str → Option Value} {dp un : Nat} {gd : Option (List Code)} {cn : Str} {cs : Scope} {a : Addr} {ccd : Value} {cl : List (Str × Addr)} {outer : List Env} {A₀ : Around} {base h₀ : Heap} {L : Addr} {m : Str → Option Value} {s : Shared} {Q E : Value → Shared → Prop}
    {l l2 : Addr} {q q2 : List Int × Int × Int × Int}
    (B : Below A₀ base outer h₀) (F : Fr h₀ L s.heap m) (X : (hd.heap_1 w.params).In h₀) (T : Top p loose mean mg mb h₀) (hk : cs.kind = .function)
    (W : WsAt w s.heap l q) (W2 : WsAt w s.heap l2 q2) (hz : q.1.length ≤ 200) (hz2 : q2.1.length ≤ 200) (hb : q.2.1 ≤ 200) (hb2 : q2.2.1 ≤ 200) (hd : dp + 10 < recursionLimit) (hu : un + 200 < cLine)
    (hret : ∀ v h' tk', v = lessF q q2 → s.heap.StaysIn h' → Q (.bool v) { s with heap := h', toks := tk' }) :
    wpAny (model PySem.Challenge.rw_st0029_01.row.prog w) (ktrTop dp un gd cn cs L a ccd cl outer) (call (.ref 66) [.ref l, .ref l2]) Q E s := by
  w_top off
  k_with "pyIter ref" => k_search (fun pre => ∀ k ∈ pre, indF q k < indF q2 k)
  k_with "state" => exact lt_snoc (by assumption) (by assumption)
  revert X
  k_fill
  intro X
  obtain ⟨dx, nT, cT, cvs, wx, wtx, t1, t2, t3, t4, t5, u1, u2, u3, w1, w2, w3, w4, w5⟩ := id W
  have hI : InstAt s.heap l (instObj 76 dx) 76 (some _) := ⟨w1, rfl, rfl, w2⟩
  obtain ⟨dx', nT', cT', cvs', wx', wtx', t1', t2', t3', t4', t5', u1', u2', u3', w1', w2', w3', w4', w5'⟩ := id W2
  have hI' : InstAt s.heap l2 (instObj 76 dx') 76 (some _) := ⟨w1', rfl, rfl, w2'⟩
  refine wpAny_call ?_
  k_dflt cell_enter
  k_steps
  all_goals dsimp only [qk, Ret]
  · exact hret _ _ _ (lessF_1 (by assumption)) (Fr.keep (by assumption))
  · exact hret _ _ _ (lessF_2 (by assumption) (by assumption) (by assumption)) (Fr.keep (by assumption))
  · exact hret _ _ _ (lessF_3 (by assumption) (fun h => absurd h.2 (by assumption)) kEq kLt (by assumption)) (Fr.keep (by assumption))
  · exact hret _ _ _ (lessF_4 (by assumption) (fun h => absurd h.2 (by assumption)) kInv) (Fr.keep (by assumption))
  · exact hret _ _ _ (lessF_3 (by assumption) (fun h => absurd h.1 (by assumption)) kEq kLt (by assumption)) (Fr.keep (by assumption))
  · exact hret _ _ _ (lessF_4 (by assumption) (fun h => absurd h.1 (by assumption)) kInv) (Fr.keep (by assumption))
end
-- text meth3
section
open PySem.W.KStt
local macro_rules | `(tactic| k_inst) => `(tactic| exact instKeeps (by assumption) (Fr.keep (by assumption)))
theorem topN_le {q q2 : List Int × Int × Int × Int} (hz : q.1.length ≤ 200) (hz2 : q2.1.length ≤ 200) (hb : q.2.1 ≤ 200) (hb2 : q2.2.1 ≤ 200) : topN q q2 ≤ 201 := by
  unfold topN longN
  split <;> omega
theorem topN_ge {q q2 : List Int × Int × Int × Int} : 0 ≤ topN q q2 := by
  unfold topN longN
  split <;> omega
theorem nl_len {f : Int → Bool} {g : Int → Int × Int × Int} (pre : List Int) : ((pre.filter f).map g).length ≤ pre.length := by
  rw [List.length_map]; exact List.length_filter_le ..
theorem nl_yes {f : Int → Bool} {g : Int → Int × Int × Int} {pre : List Int} {k : Int} (h : f k = true) : ((pre ++ [k]).filter f).map g = (pre.filter f).map g ++ [g k] := by
  rw [List.filter_append, List.map_append, List.filter_cons_of_pos h]; rfl
theorem nl_no {f : Int → Bool} {g : Int → Int × Int × Int} {pre : List Int} {k : Int} (h : f k = false) : ((pre ++ [k]).filter f).map g = (pre.filter f).map g := by
  rw [List.filter_append, List.map_append, List.filter_cons_of_neg (by rw [h]; decide)]; simp
noncomputable def nlR (q q2 : List Int × Int × Int × Int) (pre : List Int) : List (Int × Int × Int) := (pre.filter fun k => decide (indF q2 k ≤ indF q k)).map fun k => (k, indF q k, indF q2 k)
noncomputable def neR (q q2 : List Int × Int × Int × Int) (pre : List Int) : List (Int × Int × Int) := (pre.filter fun k => decide (indF q k ≠ indF q2 k)).map fun k => (k, indF q k, indF q2 k)
theorem reg_meth3_1 : True := by
  k_with_none
  k_with "cell_enter" => (refine' own_def0 ?cek1 ?cek2 ?cek3 ?cek5 ?cekA ?cekF ?cekK ?cek6 ?cek7 ?cek8 ?cek9 ?cekB ?_ ?cec2 ?cec3 ?cec4 ?cec5; (case cekA => exact rfl); (case cekF => exact rfl); (case cekK => assumption); (case cek1 => k_asm); (case cek2 => k_asm); (case cek3 => k_asm); (case cek5 => k_asm); (case cek6 => k_is); (case cek7 => k_is); (case cek8 => ktr_room); (case cek9 => exact BindsTo.of_eq rfl); (case cec5 => decide); (case cekB => exact locs rfl); (case cec2 => exact rfl); (case cec3 => exact rfl); (case cec4 => exact rfl); k_whole; intro _ _ _ Bq9 _ _; (try dsimp only); (try k_lift Bq9); (try k_fold))
  k_with "units_room" => (have hcL9 := cLine_is; (try dsimp only [ktrTop]); simp only [units_in1, units_deeper, Around.mark_units, units_caller]; omega)
  k_with "call builtin:list.index" => (k_here; (with_reducible show wpAny _ _ (call (Value.builtin _) [Value.ref _, Value.int _ _]) _ _ _); k_dflt (refine' own_index (by is_list) (by l_ints) (by tb_start) (by first | assumption | exact any_mem (by assumption)) ?_; k_whole))
  k_with "getMethod ref" => ((with_reducible show wpAny _ _ (getMethod (Value.ref _) (Str.ofString "index") _) _ _ _); k_dflt (refine getMethod_list_of PySem.F.slot_list_index PySem.F.type_list_index (by is_list) (by no_dict) ?_))
  k_with "call builtin:len" => (k_here; (with_reducible show wpAny _ _ (call (Value.builtin "len") [Value.ref _]) _ _ _); k_dflt (refine' own_len (by is_list) (by l_ints) (by tb_start) ?_; k_whole))
  k_with "subscriptTail Name Slice ref ref" => (k_here; (with_reducible show wpAny _ _ (subscriptTail _ (PySem.Expr.Slice _ _ none _) (Value.ref _) (Value.ref _)) _ _ _); k_dflt (refine' own_slice (by k_asm) (by k_asm) (by kmk_list) (by l_ints) (by tb_start) (by kmk_part) (by kmk_part) ?_ (by with_unfolding_all rfl) (by kmk_pure); k_whole); intro _ _ _ _ _ l1q _ _; (try k_lt l1q); (try k_sweep))
  k_with "binaryOp Mult ref int" => (k_here; (with_reducible show wpAny _ _ (binaryOp Operator.Mult (Value.ref _) (Value.int _ _)) _ _ _); k_dflt (refine' own_mul (by k_asm) (by k_asm) (by is_list) (by first | l_ints | l_intsW) (by tb_start) (by tb_start) (by exact mul_small (by tb_start) (by tb_start)) ?_; k_whole); intro _ _ _ _ _ l1q _ _; (try k_lt l1q); (try k_sweep))
  k_with "binaryOp Add ref ref" => (k_here; (with_reducible show wpAny _ _ (binaryOp Operator.Add (Value.ref _) (Value.ref _)) _ _ _); k_dflt (refine' own_add (by k_asm) (by k_asm) (by is_list) (by is_list) (by first | l_ints | l_intsW) (by first | l_ints | l_intsW) (by tb_start) ?_; k_whole); intro _ _ _ _ _ l1q _ _; (try k_lt l1q); (try k_sweep))
  k_with "subscriptTail Name Slice str ref" => ((with_reducible show wpAny _ _ (subscriptTail _ (Expr.Slice none (some _) none _) _ _) _ _ _); (with_reducible rename Fr _ _ _ _ => F'q); (with_reducible rename News _ _ _ _ => N'q); refine slice_strN_ns_len (hsz := (by first | exact Short.fits (by assumption) | (rw [sizeLine_eq]; omega))) (s := ⟨_, _, _, _, _⟩) F'q N'q ?_; intro _ _ _ F'q N'q _; (try k_sweep))
  k_with "subscriptTail Name Slice str ref" => ((with_reducible show wpAny _ _ (subscriptTail _ (Expr.Slice (some _) none none _) _ _) _ _ _); (with_reducible rename Fr _ _ _ _ => F'q); (with_reducible rename News _ _ _ _ => N'q); refine slice_strN_sn_len (hsz := (by first | exact Short.fits (by assumption) | (rw [sizeLine_eq]; omega))) (s := ⟨_, _, _, _, _⟩) F'q N'q ?_; intro _ _ _ F'q N'q _; (try k_sweep))
  k_with "tb_rel" => (intro _ h9q k9q; (simp only [List.forall_mem_cons, List.not_mem_nil, false_implies, implies_true, and_true, ne_eq] at h9q); (try simp only [List.contains_cons, List.contains_nil, Bool.or_false, Bool.or_eq_false_iff, beq_eq_false_iff_ne, ne_eq] at k9q); simp [kstB, h9q, k9q])
  k_with "call ref" => (k_dflt (show wpAny _ _ (call (Value.ref 38) [Value.ref _]) _ _ _); k_dflt (refine' longest_c (by k_asm) (by k_asm) (by k_asm) (by k_asm) (by rfl) (by exact wsk (by assumption) (by k_asm)) (by assumption) (by (try dsimp only [ktrTop]); omega) (by (try dsimp only [ktrTop]); omega) ?_); intro _ _ _ st'q; k_dflt (obtain ⟨_, _⟩ := behind (by k_asm) (by k_asm) st'q); clear st'q; (try k_sweep))
  k_with "call ref" => (k_dflt (show wpAny _ _ (call (Value.ref 45) [Value.ref _, Value.int _ _]) _ _ _); k_dflt (refine' indent_c (by k_asm) (by k_asm) (by k_asm) (by k_asm) (by rfl) (by exact wsk (by assumption) (by k_asm)) (by assumption) (by omega) (by omega) (by (try dsimp only [ktrTop]); omega) (by (try dsimp only [ktrTop]); omega) ?_); intro _ _ _ st'q; k_dflt (obtain ⟨_, _⟩ := behind (by k_asm) (by k_asm) st'q); clear st'q; (try k_sweep))
  k_with "execs cons Assign cons" => ((with_reducible refine wpAny_execs_cons ?_); try dsimp only)
  k_with "call builtin:list.append" => (k_here; (with_reducible show wpAny _ _ (call (Value.builtin _) [Value.ref _, _]) _ _ _); k_dflt (refine' append_K (its := List.toArray _) (by k_asm) (by k_asm) (by rw [List.push_toArray]; k_upd) ?_ (by rw [List.size_toArray, sizeLine_eq]; omega); k_whole); intro _ _ _; (try k_sweep))
  trivial
set_option maxHeartbeats 8000000 in
theorem nlw_c {w : World} {p : Program} {loose : List Str} {mean : ExcName → Option Value} {mg mb : Str → Option Value} {dp un : Nat} {gd : Option (List Code)} {cn : Str} {cs : Scope} {a : Addr} {ccd : Value} {cl : List (Str × Addr)} {outer : List Env} {A₀ : Around} {base h₀ : Heap} {L : Addr} {m : Str → Option Value} {s : Shared} {Q E : Value → Shared → Prop}
    {l l2 : Addr} {q q2 : List Int × Int × Int × Int}
    (B : Below A₀ base outer h₀) (F : Fr h₀ L s.heap m) (X : (hd.heap_1 w.params).In h₀) (T : Top p loose mean mg mb h₀) (hk : cs.kind = .function)
    (W : WsAt w s.heap l q) (W2 : WsAt w s.heap l2 q2) (hz : q.1.length ≤ 200) (hz2 : q2.1.length ≤ 200) (hb : q.2.1 ≤ 200) (hb2 : q2.2.1 ≤ 200) (hd : dp + 10 < recursionLimit) (hu : un + 200 < cLine)
    (hret : ∀ x as h' tk', s.heap.StaysIn h' → s.heap.get? x = none → Reads h' (.ref x) (trisD (nlR q q2 (rangeKs 1 (topN q q2 + 1 - 1).toNat))) as → Q (.ref x) { s with heap := h', toks := tk' }) :
    wpAny (model PySem.Challenge.rw_st0029_01.row.prog w) (ktrTop dp un gd cn cs L a ccd cl outer) (call (.ref 73) [.ref l, .ref l2]) Q E s := by
  w_top off
  have hN := topN_le hz hz2 hb hb2
  have hN0 := topN_ge (q := q) (q2 := q2)
  k_with "pyIter ref" => (
    (with_reducible rename Fr _ _ _ _ => lF9)
    (with_reducible rename News _ _ _ _ => lN9)
    (rename IsRange _ _ _ _ _ _ _ _ => rg9)
    refine' own_rangeA (rest := []) (nlR q q2) [] ?khh rg9 ?ks ?kr ?kb ?ko lF9 ?kn ?kD ?kt ?kd
    case khh => exact rfl
    case ks => show Builtin.Range.small 1 (topN q q2 + 1) 1 = true; exact small_one (by omega) (by omega) (by omega) (by omega)
    case kr => exact rangeSize_nat _ _
    case kb => show (topN q q2 + 1 - 1).toNat ≤ 1000; omega
    case ko => exact fun pre => nl_len pre
    case kn => exact lN9
    case kD => exact fun p hp => (nomatch hp)
    clear lF9 lN9
    intro gvs gep gtl gpre gk gt gu gh gtk gown gek glt goff gO gok gl gF gN
    simp only [List.nil_append] at gO gN
    have gB : gk ≤ 202 := by
      have : gpre.length < (topN q q2 + 1 - 1).toNat := glt
      omega
    have g1 : 1 ≤ gk := by omega
    have gP : gpre.length < 1000 := by
      have : gpre.length < (topN q q2 + 1 - 1).toNat := glt
      omega
    try k_fold
    rotate_left
    clear lF9 lN9
    intro gvs gep gtl gu gh gtk gT gO gF gN
    simp only [List.append_nil] at gN
    try k_fold
    rotate_left)
  revert X
  k_fill
  intro X
  obtain ⟨dx, nT, cT, cvs, wx, wtx, t1, t2, t3, t4, t5, u1, u2, u3, w1, w2, w3, w4, w5⟩ := id W
  have hI : InstAt s.heap l (instObj 76 dx) 76 (some _) := ⟨w1, rfl, rfl, w2⟩
  obtain ⟨dx', nT', cT', cvs', wx', wtx', t1', t2', t3', t4', t5', u1', u2', u3', w1', w2', w3', w4', w5'⟩ := id W2
  have hI' : InstAt s.heap l2 (instObj 76 dx') 76 (some _) := ⟨w1', rfl, rfl, w2'⟩
  refine wpAny_call ?_
  k_dflt cell_enter
  k_steps
  · exact rangeA_app (by k_asm) (by k_asm) (by assumption) goff gok gP (fun pre => nl_len pre) (by (intro z9 g9 h9 k9; (simp only [List.forall_mem_cons, List.not_mem_nil, false_implies, implies_true, and_true, ne_eq] at h9 g9); simp [h9, g9])) (nl_yes (decide_eq_true (by assumption)))
  · exact rangeA_same (by k_asm) (by k_asm) goff gok (by (intro z9 g9 h9 k9; (simp only [List.forall_mem_cons, List.not_mem_nil, false_implies, implies_true, and_true, ne_eq] at h9 g9); simp [h9, g9])) (nl_no (decide_eq_false (by assumption)))
  · dsimp only [qk, Ret]
    exact hret _ _ _ _ (Fr.keep (by assumption)) (News.fresh gN (.head _)) (gT.list (fun p hp => (gN p (.tail _ hp)).1) (gN _ (.head _)).1)
theorem reg_meth3_2 : True := by
  k_with_none
  k_with "cell_enter" => (refine' own_def0 ?cek1 ?cek2 ?cek3 ?cek5 ?cekA ?cekF ?cekK ?cek6 ?cek7 ?cek8 ?cek9 ?cekB ?_ ?cec2 ?cec3 ?cec4 ?cec5; (case cekA => exact rfl); (case cekF => exact rfl); (case cekK => assumption); (case cek1 => k_asm); (case cek2 => k_asm); (case cek3 => k_asm); (case cek5 => k_asm); (case cek6 => k_is); (case cek7 => k_is); (case cek8 => ktr_room); (case cek9 => exact BindsTo.of_eq rfl); (case cec5 => decide); (case cekB => exact locs rfl); (case cec2 => exact rfl); (case cec3 => exact rfl); (case cec4 => exact rfl); k_whole; intro _ _ _ Bq9 _ _; (try dsimp only); (try k_lift Bq9); (try k_fold))
  k_with "units_room" => (have hcL9 := cLine_is; (try dsimp only [ktrTop]); simp only [units_in1, units_deeper, Around.mark_units, units_caller]; omega)
  k_with "call builtin:list.index" => (k_here; (with_reducible show wpAny _ _ (call (Value.builtin _) [Value.ref _, Value.int _ _]) _ _ _); k_dflt (refine' own_index (by is_list) (by l_ints) (by tb_start) (by first | assumption | exact any_mem (by assumption)) ?_; k_whole))
  k_with "getMethod ref" => ((with_reducible show wpAny _ _ (getMethod (Value.ref _) (Str.ofString "index") _) _ _ _); k_dflt (refine getMethod_list_of PySem.F.slot_list_index PySem.F.type_list_index (by is_list) (by no_dict) ?_))
  k_with "call builtin:len" => (k_here; (with_reducible show wpAny _ _ (call (Value.builtin "len") [Value.ref _]) _ _ _); k_dflt (refine' own_len (by is_list) (by l_ints) (by tb_start) ?_; k_whole))
  k_with "subscriptTail Name Slice ref ref" => (k_here; (with_reducible show wpAny _ _ (subscriptTail _ (PySem.Expr.Slice _ _ none _) (Value.ref _) (Value.ref _)) _ _ _); k_dflt (refine' own_slice (by k_asm) (by k_asm) (by kmk_list) (by l_ints) (by tb_start) (by kmk_part) (by kmk_part) ?_ (by with_unfolding_all rfl) (by kmk_pure); k_whole); intro _ _ _ _ _ l1q _ _; (try k_lt l1q); (try k_sweep))
  k_with "binaryOp Mult ref int" => (k_here; (with_reducible show wpAny _ _ (binaryOp Operator.Mult (Value.ref _) (Value.int _ _)) _ _ _); k_dflt (refine' own_mul (by k_asm) (by k_asm) (by is_list) (by first | l_ints | l_intsW) (by tb_start) (by tb_start) (by exact mul_small (by tb_start) (by tb_start)) ?_; k_whole); intro _ _ _ _ _ l1q _ _; (try k_lt l1q); (try k_sweep))
  k_with "binaryOp Add ref ref" => (k_here; (with_reducible show wpAny _ _ (binaryOp Operator.Add (Value.ref _) (Value.ref _)) _ _ _); k_dflt (refine' own_add (by k_asm) (by k_asm) (by is_list) (by is_list) (by first | l_ints | l_intsW) (by first | l_ints | l_intsW) (by tb_start) ?_; k_whole); intro _ _ _ _ _ l1q _ _; (try k_lt l1q); (try k_sweep))
  k_with "subscriptTail Name Slice str ref" => ((with_reducible show wpAny _ _ (subscriptTail _ (Expr.Slice none (some _) none _) _ _) _ _ _); (with_reducible rename Fr _ _ _ _ => F'q); (with_reducible rename News _ _ _ _ => N'q); refine slice_strN_ns_len (hsz := (by first | exact Short.fits (by assumption) | (rw [sizeLine_eq]; omega))) (s := ⟨_, _, _, _, _⟩) F'q N'q ?_; intro _ _ _ F'q N'q _; (try k_sweep))
  k_with "subscriptTail Name Slice str ref" => ((with_reducible show wpAny _ _ (subscriptTail _ (Expr.Slice (some _) none none _) _ _) _ _ _); (with_reducible rename Fr _ _ _ _ => F'q); (with_reducible rename News _ _ _ _ => N'q); refine slice_strN_sn_len (hsz := (by first | exact Short.fits (by assumption) | (rw [sizeLine_eq]; omega))) (s := ⟨_, _, _, _, _⟩) F'q N'q ?_; intro _ _ _ F'q N'q _; (try k_sweep))
  k_with "tb_rel" => (intro _ h9q k9q; (simp only [List.forall_mem_cons, List.not_mem_nil, false_implies, implies_true, and_true, ne_eq] at h9q); (try simp only [List.contains_cons, List.contains_nil, Bool.or_false, Bool.or_eq_false_iff, beq_eq_false_iff_ne, ne_eq] at k9q); simp [kstB, h9q, k9q])
  k_with "call ref" => (k_dflt (show wpAny _ _ (call (Value.ref 38) [Value.ref _]) _ _ _); k_dflt (refine' longest_c (by k_asm) (by k_asm) (by k_asm) (by k_asm) (by rfl) (by exact wsk (by assumption) (by k_asm)) (by assumption) (by (try dsimp only [ktrTop]); omega) (by (try dsimp only [ktrTop]); omega) ?_); intro _ _ _ st'q; k_dflt (obtain ⟨_, _⟩ := behind (by k_asm) (by k_asm) st'q); clear st'q; (try k_sweep))
  k_with "call ref" => (k_dflt (show wpAny _ _ (call (Value.ref 45) [Value.ref _, Value.int _ _]) _ _ _); k_dflt (refine' indent_c (by k_asm) (by k_asm) (by k_asm) (by k_asm) (by rfl) (by exact wsk (by assumption) (by k_asm)) (by assumption) (by omega) (by omega) (by (try dsimp only [ktrTop]); omega) (by (try dsimp only [ktrTop]); omega) ?_); intro _ _ _ st'q; k_dflt (obtain ⟨_, _⟩ := behind (by k_asm) (by k_asm) st'q); clear st'q; (try k_sweep))
  k_with "execs cons Assign cons" => ((with_reducible refine wpAny_execs_cons ?_); try dsimp only)
  k_with "call builtin:list.append" => (k_here; (with_reducible show wpAny _ _ (call (Value.builtin _) [Value.ref _, _]) _ _ _); k_dflt (refine' append_K (its := List.toArray _) (by k_asm) (by k_asm) (by rw [List.push_toArray]; k_upd) ?_ (by rw [List.size_toArray, sizeLine_eq]; omega); k_whole); intro _ _ _; (try k_sweep))
  trivial
set_option maxHeartbeats 8000000 in
theorem new_c {w : World} {p : Program} {loose : List Str} {mean : ExcName → Option Value} {mg mb : Str → Option Value} {dp un : Nat} {gd : Option (List Code)} {cn : Str} {cs : Scope} {a : Addr} {ccd : Value} {cl : List (Str × Addr)} {outer : List Env} {A₀ : Around} {base h₀ : Heap} {L : Addr} {m : Str → Option Value} {s : Shared} {Q E : Value → Shared → Prop}
    {l l2 : Addr} {q q2 : List Int × Int × Int × Int}
    (B : Below A₀ base outer h₀) (F : Fr h₀ L s.heap m) (X : (hd.heap_1 w.params).In h₀) (T : Top p loose mean mg mb h₀) (hk : cs.kind = .function)
    (W : WsAt w s.heap l q) (W2 : WsAt w s.heap l2 q2) (hz : q.1.length ≤ 200) (hz2 : q2.1.length ≤ 200) (hb : q.2.1 ≤ 200) (hb2 : q2.2.1 ≤ 200) (hd : dp + 10 < recursionLimit) (hu : un + 200 < cLine)
    (hret : ∀ x as h' tk', s.heap.StaysIn h' → s.heap.get? x = none → Reads h' (.ref x) (trisD (neR q q2 (rangeKs 1 (topN q q2 + 1 - 1).toNat))) as → Q (.ref x) { s with heap := h', toks := tk' }) :
    wpAny (model PySem.Challenge.rw_st0029_01.row.prog w) (ktrTop dp un gd cn cs L a ccd cl outer) (call (.ref 59) [.ref l, .ref l2]) Q E s := by
  w_top off
  have hN := topN_le hz hz2 hb hb2
  have hN0 := topN_ge (q := q) (q2 := q2)
  k_with "pyIter ref" => (
    (with_reducible rename Fr _ _ _ _ => lF9)
    (with_reducible rename News _ _ _ _ => lN9)
    (rename IsRange _ _ _ _ _ _ _ _ => rg9)
    refine' own_rangeA (rest := []) (neR q q2) [] ?khh rg9 ?ks ?kr ?kb ?ko lF9 ?kn ?kD ?kt ?kd
    case khh => exact rfl
    case ks => show Builtin.Range.small 1 (topN q q2 + 1) 1 = true; exact small_one (by omega) (by omega) (by omega) (by omega)
    case kr => exact rangeSize_nat _ _
    case kb => show (topN q q2 + 1 - 1).toNat ≤ 1000; omega
    case ko => exact fun pre => nl_len pre
    case kn => exact lN9
    case kD => exact fun p hp => (nomatch hp)
    clear lF9 lN9
    intro gvs gep gtl gpre gk gt gu gh gtk gown gek glt goff gO gok gl gF gN
    simp only [List.nil_append] at gO gN
    have gB : gk ≤ 202 := by
      have : gpre.length < (topN q q2 + 1 - 1).toNat := glt
      omega
    have g1 : 1 ≤ gk := by omega
    have gP : gpre.length < 1000 := by
      have : gpre.length < (topN q q2 + 1 - 1).toNat := glt
      omega
    try k_fold
    rotate_left
    clear lF9 lN9
    intro gvs gep gtl gu gh gtk gT gO gF gN
    simp only [List.append_nil] at gN
    try k_fold
    rotate_left)
  revert X
  k_fill
  intro X
  obtain ⟨dx, nT, cT, cvs, wx, wtx, t1, t2, t3, t4, t5, u1, u2, u3, w1, w2, w3, w4, w5⟩ := id W
  have hI : InstAt s.heap l (instObj 76 dx) 76 (some _) := ⟨w1, rfl, rfl, w2⟩
  obtain ⟨dx', nT', cT', cvs', wx', wtx', t1', t2', t3', t4', t5', u1', u2', u3', w1', w2', w3', w4', w5'⟩ := id W2
  have hI' : InstAt s.heap l2 (instObj 76 dx') 76 (some _) := ⟨w1', rfl, rfl, w2'⟩
  refine wpAny_call ?_
  k_dflt cell_enter
  k_steps
  · exact rangeA_app (by k_asm) (by k_asm) (by assumption) goff gok gP (fun pre => nl_len pre) (by (intro z9 g9 h9 k9; (simp only [List.forall_mem_cons, List.not_mem_nil, false_implies, implies_true, and_true, ne_eq] at h9 g9); simp [h9, g9])) (nl_yes (decide_eq_true (by assumption)))
  · exact rangeA_same (by k_asm) (by k_asm) goff gok (by (intro z9 g9 h9 k9; (simp only [List.forall_mem_cons, List.not_mem_nil, false_implies, implies_true, and_true, ne_eq] at h9 g9); simp [h9, g9])) (nl_no (decide_eq_false (by exact not_not_intro (by assumption))))
  · dsimp only [qk, Ret]
    exact hret _ _ _ _ (Fr.keep (by assumption)) (News.fresh gN (.head _)) (gT.list (fun p hp => (gN p (.tail _ hp)).1) (gN _ (.head _)).1)
end
-- text gen
section
theorem stm_nought {r : List Int} {last : Option Int} {k : Nat} : stm (0 :: r) last k = last := by
  cases k <;> simp [stm]
theorem reg_gen_1 : True := by
  k_with_none
  k_with "cell_enter" => (refine' own_def0 ?cek1 ?cek2 ?cek3 ?cek5 ?cekA ?cekF ?cekK ?cek6 ?cek7 ?cek8 ?cek9 ?cekB ?_ ?cec2 ?cec3 ?cec4 ?cec5; (case cekA => exact rfl); (case cekF => exact rfl); (case cekK => assumption); (case cek1 => k_asm); (case cek2 => k_asm); (case cek3 => k_asm); (case cek5 => k_asm); (case cek6 => k_is); (case cek7 => k_is); (case cek8 => ktr_room); (case cek9 => exact BindsTo.of_eq rfl); (case cec5 => decide); (case cekB => exact locs rfl); (case cec2 => exact rfl); (case cec3 => exact rfl); (case cec4 => exact rfl); k_whole; intro _ _ _ Bq9 _ _; (try dsimp only); (try k_lift Bq9); (try k_fold))
  k_with "units_room" => (have hcL9 := cLine_is; (try dsimp only [ktrTop]); simp only [units_in1, units_deeper, Around.mark_units, units_caller]; omega)
  k_with "call builtin:list.index" => (k_here; (with_reducible show wpAny _ _ (call (Value.builtin _) [Value.ref _, Value.int _ _]) _ _ _); k_dflt (refine' own_index (by is_list) (by l_ints) (by tb_start) (by first | assumption | exact any_mem (by assumption)) ?_; k_whole))
  k_with "getMethod ref" => ((with_reducible show wpAny _ _ (getMethod (Value.ref _) (Str.ofString "index") _) _ _ _); k_dflt (refine getMethod_list_of PySem.F.slot_list_index PySem.F.type_list_index (by is_list) (by no_dict) ?_))
  k_with "call builtin:len" => (k_here; (with_reducible show wpAny _ _ (call (Value.builtin "len") [Value.ref _]) _ _ _); k_dflt (refine' own_len (by is_list) (by l_ints) (by tb_start) ?_; k_whole))
  k_with "subscriptTail Name Slice ref ref" => (k_here; (with_reducible show wpAny _ _ (subscriptTail _ (PySem.Expr.Slice _ _ none _) (Value.ref _) (Value.ref _)) _ _ _); k_dflt (refine' own_slice (by k_asm) (by k_asm) (by kmk_list) (by l_ints) (by tb_start) (by kmk_part) (by kmk_part) ?_ (by with_unfolding_all rfl) (by kmk_pure); k_whole); intro _ _ _ _ _ l1q _ _; (try k_lt l1q); (try k_sweep))
  k_with "binaryOp Mult ref int" => (k_here; (with_reducible show wpAny _ _ (binaryOp Operator.Mult (Value.ref _) (Value.int _ _)) _ _ _); k_dflt (refine' own_mul (by k_asm) (by k_asm) (by is_list) (by first | l_ints | l_intsW) (by tb_start) (by tb_start) (by exact mul_small (by tb_start) (by tb_start)) ?_; k_whole); intro _ _ _ _ _ l1q _ _; (try k_lt l1q); (try k_sweep))
  k_with "binaryOp Add ref ref" => (k_here; (with_reducible show wpAny _ _ (binaryOp Operator.Add (Value.ref _) (Value.ref _)) _ _ _); k_dflt (refine' own_add (by k_asm) (by k_asm) (by is_list) (by is_list) (by first | l_ints | l_intsW) (by first | l_ints | l_intsW) (by tb_start) ?_; k_whole); intro _ _ _ _ _ l1q _ _; (try k_lt l1q); (try k_sweep))
  k_with "subscriptTail Name Slice str ref" => ((with_reducible show wpAny _ _ (subscriptTail _ (Expr.Slice none (some _) none _) _ _) _ _ _); (with_reducible rename Fr _ _ _ _ => F'q); (with_reducible rename News _ _ _ _ => N'q); refine slice_strN_ns_len (hsz := (by first | exact Short.fits (by assumption) | (rw [sizeLine_eq]; omega))) (s := ⟨_, _, _, _, _⟩) F'q N'q ?_; intro _ _ _ F'q N'q _; (try k_sweep))
  k_with "subscriptTail Name Slice str ref" => ((with_reducible show wpAny _ _ (subscriptTail _ (Expr.Slice (some _) none none _) _ _) _ _ _); (with_reducible rename Fr _ _ _ _ => F'q); (with_reducible rename News _ _ _ _ => N'q); refine slice_strN_sn_len (hsz := (by first | exact Short.fits (by assumption) | (rw [sizeLine_eq]; omega))) (s := ⟨_, _, _, _, _⟩) F'q N'q ?_; intro _ _ _ F'q N'q _; (try k_sweep))
  k_with "tb_rel" => (intro _ h9q k9q; (simp only [List.forall_mem_cons, List.not_mem_nil, false_implies, implies_true, and_true, ne_eq] at h9q); (try simp only [List.contains_cons, List.contains_nil, Bool.or_false, Bool.or_eq_false_iff, beq_eq_false_iff_ne, ne_eq] at k9q); simp [kstB, h9q, k9q])
  trivial
set_option maxHeartbeats 8000000 in
theorem gen_c {w : World} {p : Program} {loose : List Str} {mean : ExcName → Option Value} {mg mb : Str → Option Value} {dp un : Nat} {gd : Option (List Code)} {cn : Str} {cs : Scope} {a : Addr} {ccd : Value} {cl : List (Str × Addr)} {outer : List Env} {h₀ : Heap} {L : Addr} {m : Str → Option Value} {s : Shared} {Q E : Value → Shared → Prop}
    {r : Addr} {ns : List Int} {vr : List Value} {rn : Nat}
    (F : Fr h₀ L s.heap m) (X : (hd.heap_1 w.params).In h₀) (T : Top p loose mean mg mb h₀)
    (ho : s.heap.get? r = some (listOf vr.toArray rn)) (hi : IntsAre vr ns) (hz : ns.length ≤ 1000) (hok : stmOk ns none) (hd : dp + 3 < recursionLimit)
    (hret : ∀ a G m' gs h' tk', s.heap.StaysIn h' → Fr h₀ G h' m' → h'.IsGen a s.gens.size → G < a → s.heap.objs.size ≤ G → s.heap.get? G = none → s.heap.get? a = none → a < h'.objs.size → gs.bare = true →
      Starts (model PySem.Challenge.rw_st0029_01.row.prog w) h₀ G r (listOf vr.toArray rn) m' (stm ns none) gs → Q (.ref a) { s with heap := h', gens := s.gens.push gs, toks := tk' }) :
    wpAny (model PySem.Challenge.rw_st0029_01.row.prog w) (ktrTop dp un gd cn cs L a ccd cl outer) (call (.ref 87) [.ref r]) Q E s := by
  w_top off
  revert X
  k_fill
  intro X
  refine wpAny_call ?_
  k_dflt (refine' own_gen ?k1 ?k3 ?k5 ?k6 ?k7 ?k8 ?k9 ?kB ?_ ?c2 ?c3 ?c4 ?c5; (case k1 => k_asm); (case k3 => k_asm); (case k5 => k_asm); (case k6 => k_is); (case k7 => k_is); (case k8 => ktr_room); (case k9 => exact BindsTo.of_eq rfl); (case c5 => decide); (case kB => exact locs rfl); (case c2 => exact rfl); (case c3 => exact rfl); (case c4 => exact rfl); k_whole; intro G ga gh gtk gNs gSt gGen gLt gSz gG0 ga0 gaS; (try dsimp only))
  have gF : Fr h₀ G gh _ := ⟨gNs, fun b o e => gSt b o (F.keep b o e), Nat.le_trans F.above (Nat.le_of_lt (Nat.lt_of_lt_of_le F.ns.lt gSz))⟩
  refine hret ga G _ _ gh gtk gSt gF gGen gLt gSz gG0 ga0 gaS rfl ?_
  intro A N s' hh F' hr'
  refine ⟨rfl, seg_func ?_⟩
  have hrG : r ≠ G := fun q => by rw [q, gG0] at ho; cases ho
  have N' : News h₀ G s'.heap [] := News.nil
  clear F gF gNs gSt gGen ho
  refine seg_execs_cons (sg_exec ?_)
  iterate 2 (first | walk1 | (dsimp only; walk1))
  refine wpAny_storeName_local rfl F'.ns (fun h2 hns2 hs2 => ?_) rfl
  have F2 := F'.set hns2 hs2
  clear N'
  have N2 : News h₀ G h2 [] := News.nil
  refine seg_execs_cons (sg_For ?_)
  iterate 1 (first | walk1 | (dsimp only; walk1))
  have hsz : h2.objs.size = s'.heap.objs.size := hs2.1
  have hr2 : h2.get? r = some (listOf vr.toArray rn) := (hs2.2 r hrG).trans hr'
  have hl2 : h2.IsList r vr.toArray := ⟨_, hr2, rfl, _, rfl⟩
  refine wpAny_pyIter_list hl2 (fun p => ?_)
  rw [show (Shared.heap { s' with heap := h2, toks := s'.toks + 1 + 1 }).objs.size = s'.heap.objs.size from hsz]
  have hrI : r ≠ s'.heap.objs.size := Nat.ne_of_lt (Heap.lt_size hr')
  have hI0 : h₀.get? s'.heap.objs.size = none := next_is_new F'
  have hGI : G ≠ s'.heap.objs.size := Nat.ne_of_lt F'.ns.lt
  refine sg_forInd (gJ h₀ G s'.heap.objs.size r (listOf vr.toArray rn) ns N) ?turn N 0 _ _ ?start
  case start =>
    refine ⟨none, 0, none, _, _, rfl, ?_, ?_, ?_, ?_, Nat.zero_le _, hok, Nat.le_refl _, ?_⟩
    · intro b o hb _ e
      exact Heap.get?_push_of_some _ ((hs2.2 b hb).trans e)
    · have F3 : Fr h₀ G h2 (fun y => if y = Str.ofString "last_interval" then some Value.none else List.lookup y [(Str.ofString "grouping", Value.ref r)]) := F2
      rw [gm_0] at F3
      exact F3.push _
    · rw [← hsz]
      exact ⟨_, Heap.get?_push_size _ rfl, rfl, rfl⟩
    · exact Heap.get?_push_of_some _ hr2
    · intro k
      rw [Nat.sub_self, Nat.zero_add]; rfl
  case turn =>
    clear F2 N2 hr2 hl2 hs2 hns2 hsz hr'
    rintro n i s₀ s₁ ⟨last, lt, iv, h1, tk1, rfl, gK, gF, gIt, gR', gi, gOk, gn, gst⟩ ih
    refine sg_forLoop ?_
    have hA : (A.in1).handled = none := hh
    have gL : h1.IsList r vr.toArray := ⟨_, gR', rfl, _, rfl⟩
    have hlen := hi.length
    by_cases hlt : i < ns.length
    · refine (Walks.list ?hh9 s'.heap.objs.size r hrI vr.toArray).item i _ _ _ (by rw [List.size_toArray, hlen]; exact hlt) ⟨gIt, gL⟩ fun v h2 tk2 hP hst hk2 => ?_
      case hh9 => (simp [Around.over, marksOver, hh]; rfl)
      dsimp only
      obtain ⟨t9, hx9⟩ := hi.get i (ns[i]'hlt) (by simp [hlt])
      have hv : v = .int (ns[i]'hlt) t9 := by
        have hP' : vr[i]? = some v := by simpa using hP
        rw [hx9] at hP'; exact (Option.some.inj hP').symm
      subst hv
      have gF2 : Fr h₀ G h2 _ := ⟨gF.ns.at' fun o e => hk2 _ _ (fun q => hGI (List.mem_singleton.mp q)) e, fun b o e => hk2 b o (fun q => by rw [List.mem_singleton.mp q, hI0] at e; cases e) (gF.keep b o e), gF.above⟩
      refine wpAny_assign_Name (wpAny_storeName_local rfl gF2.ns (fun h3 hns3 hs3 => ?_) rfl)
      have gF3 := gF2.set hns3 hs3
      rw [show (fun y => if y = Str.ofString "interval" then some (Value.int (ns[i]'hlt) t9) else gm r (lastV last lt) iv y) = gm r (lastV last lt) (some (.int (ns[i]'hlt) t9)) from gm_int ..] at gF3
      clear gF2 gF hns3
      have gN3 : News h₀ G h3 [] := News.nil
      generalize hx : ns[i]'hlt = x at *
      refine seg_execs_cons (sg_If ?_)
      replace gF3 : Fr h₀ G h3 (fun y => if y = Str.ofString "interval" then some (.int x t9) else if y = Str.ofString "last_interval" then some (lastV last lt) else if y = Str.ofString "grouping" then some (.ref r) else none) := gF3
      iterate 5 (first | walk1 | (dsimp only; walk1))
      have hdr : ns.drop i = x :: ns.drop (i + 1) := by rw [List.drop_eq_getElem_cons hlt, hx]
      rw [hdr] at gOk gst
      have gK3 : ∀ b o, b ≠ G → b ≠ s'.heap.objs.size → s₀.heap.get? b = some o → h3.get? b = some o := fun b o b1 b2 e => (hs3.2 b b1).trans (hk2 b o (fun q => b2 (List.mem_singleton.mp q)) (gK b o b1 b2 e))
      have gIt3 : h3.IsListIter s'.heap.objs.size r (i + 1) := hst.1.at fun o e => (hs3.2 _ (Ne.symm hGI)).trans e
      have gR3 : h3.get? r = some (listOf vr.toArray rn) := (hs3.2 r hrG).trans (hk2 _ _ (fun q => hrI (List.mem_singleton.mp q)) gR')
      by_cases h127 : x = 127
      · rw [if_pos (by simpa using h127)]
        refine seg_execs_cons (sg_exec ?_)
        iterate 1 (first | walk1 | (dsimp only; walk1))
        have e0 := gst 0
        refine seg_leaf (.ok (.ret .none)) (seg_end (.ok (.ret .none)) ⟨rfl, ?_, _, _, rfl, gK3⟩)
        rw [Nat.add_sub_add_right]
        rw [Nat.add_zero] at e0
        rw [e0, stm, if_pos h127]
      · rw [if_neg (by simpa using h127)]
        refine seg_execs_nil ?_
        refine seg_execs_cons (sg_If ?_)
        iterate 5 (first | walk1 | (dsimp only; walk1))
        by_cases h0 : x = 0
        · rw [if_pos (by simpa using h0)]
          obtain ⟨y, rfl⟩ : ∃ y, last = some y := by
            rcases gOk with q | ⟨_, q⟩ | ⟨_, q, _⟩
            · exact absurd q h127
            · cases last with
              | none => exact absurd rfl q
              | some y => exact ⟨y, rfl⟩
            · exact absurd h0 q
          replace gF3 : Fr h₀ G h3 (fun y' => if y' = Str.ofString "interval" then some (.int x t9) else if y' = Str.ofString "last_interval" then some (.int y lt) else if y' = Str.ofString "grouping" then some (.ref r) else none) := gF3
          refine seg_execs_cons (sg_If ?_)
          iterate 5 (first | walk1 | (dsimp only; walk1))
          rw [if_neg (by decide)]
          refine seg_execs_nil ?_
          refine seg_execs_cons (seg_While fun p2 => ?_)
          obtain ⟨oI3, hoI3, _⟩ := id gIt3
          refine sg_forInd (fun n _ s₀ s => ∃ h tk oI, s = { s₀ with heap := h, toks := tk } ∧ (∀ b o, b ≠ G → b ≠ s'.heap.objs.size → s₀.heap.get? b = some o → h.get? b = some o) ∧ Fr h₀ G h (gm r (.int y lt) (some (.int x t9))) ∧ h.get? s'.heap.objs.size = some oI ∧ h.get? r = some (listOf vr.toArray rn) ∧ n ≤ N ∧ ∀ k, stm ns none (N - n + k) = some y) ?turn2 n 0 _ _ ⟨h3, _, oI3, rfl, gK3, gF3, hoI3, gR3, gn, fun k => ?_⟩
          case turn2 =>
            clear gst ih gK gK3 gF3 gN3 gIt gIt3 gR' gR3 hs3 hst hk2 hoI3
            rintro n2 - s5 s6 ⟨h5, tk5, oI5, rfl, aK, aF, aI, aR, an, ast⟩ ih2
            replace aF : Fr h₀ G h5 (fun y' => if y' = Str.ofString "interval" then some (.int x t9) else if y' = Str.ofString "last_interval" then some (.int y lt) else if y' = Str.ofString "grouping" then some (.ref r) else none) := aF
            have aN : News h₀ G h5 [] := News.nil
            refine seg_whileLoop ?_
            iterate 3 (first | walk1 | (dsimp only; walk1))
            rw [if_pos rfl]
            refine seg_execs_cons (seg_Expr_Yield rfl rfl rfl ?_)
            iterate 1 (first | walk1 | (dsimp only; walk1))
            intro kap hk
            obtain ⟨oG, _, _, hoG, _⟩ := id aF.ns
            refine ⟨y, lt, h5, _, oG, oI5, ?_, rfl, rfl, aK, hoG, aI, fun hpos s₂ e1 e2 e3 e4 => hk .none s₂ ?_⟩
            · have e0 := ast 0
              rw [Nat.add_sub_cancel]
              exact e0
            · obtain ⟨n', rfl⟩ : ∃ n', n2 = n' + 1 := ⟨n2 - 1, by omega⟩
              dsimp only
              refine seg_execs_nil ?_
              refine seg_again rfl (ih2 n' (Nat.lt_succ_self _) s₂ _ ?_)
              refine ⟨_, _, oI5, rfl, fun b o _ _ e => e, ⟨aF.ns.at' fun o e => (by rw [hoG] at e; cases e; exact e1), e4, aF.above⟩, e2, e3, Nat.le_of_succ_le an, fun k => ?_⟩
              have e0 := ast (k + 1)
              rw [show N - (n' + 1) + (k + 1) = N - n' + k by omega] at e0
              exact e0
          · have e0 := gst k
            rw [e0, h0, stm_nought]
        · rw [if_neg (by simpa using h0)]
          refine seg_execs_nil ?_
          refine seg_execs_cons (seg_Expr_Yield rfl rfl rfl ?_)
          iterate 1 (first | walk1 | (dsimp only; walk1))
          intro kap hk
          obtain ⟨oG, _, _, hoG, _⟩ := id gF3.ns
          obtain ⟨oI, hoI, _⟩ := id gIt3
          refine ⟨x, t9, h3, _, oG, oI, ?_, rfl, rfl, gK3, hoG, hoI, fun hpos s₂ e1 e2 e3 e4 => hk .none s₂ ?_⟩
          · have e0 := gst 0
            rw [Nat.add_sub_cancel]
            rw [Nat.add_zero] at e0
            rw [e0, stm, if_neg h127, if_neg h0]
          · obtain ⟨n', rfl⟩ : ∃ n', n = n' + 1 := ⟨n - 1, by omega⟩
            dsimp only
            have gF5 : Fr h₀ G s₂.heap (gm r (lastV last lt) (some (.int x t9))) := ⟨gF3.ns.at' fun o e => (by rw [hoG] at e; cases e; exact e1), e4, gF3.above⟩
            replace gF5 : Fr h₀ G s₂.heap (fun y => if y = Str.ofString "interval" then some (.int x t9) else if y = Str.ofString "last_interval" then some (lastV last lt) else if y = Str.ofString "grouping" then some (.ref r) else none) := gF5
            clear gF3 gN3
            have N5 : News h₀ G s₂.heap [] := News.nil
            refine seg_execs_cons (sg_exec ?_)
            iterate 2 (first | walk1 | (dsimp only; walk1))
            refine wpAny_storeName_local rfl gF5.ns (fun h6 hns6 hs6 => ?_) rfl
            have gF6 := gF5.set hns6 hs6
            refine seg_execs_nil ?_
            refine seg_again rfl (ih n' (Nat.lt_succ_self _) s₂ _ ?_)
            have gF7 : Fr h₀ G h6 (fun y => if y = Str.ofString "last_interval" then some (Value.int x t9) else gm r (lastV last lt) (some (.int x t9)) y) := gF6
            rw [gm_last] at gF7
            refine ⟨some x, t9, some (.int x t9), h6, _, rfl, fun b o b1 b2 e => (hs6.2 b b1).trans e, gF7, gIt3.at fun o e => ?_, (hs6.2 r hrG).trans e3, hlt, ?_, Nat.le_of_succ_le gn, fun k => ?_⟩
            · rw [hoI] at e; cases e
              exact (hs6.2 _ (Ne.symm hGI)).trans e2
            · rcases gOk with q | ⟨q, _⟩ | ⟨_, _, q⟩
              · exact absurd q h127
              · exact absurd q h0
              · exact q
            · have e0 := gst (k + 1)
              rw [stm, if_neg h127, if_neg h0, show N - (n' + 1) + (k + 1) = N - n' + k by omega] at e0
              exact e0
    · have hin : i = ns.length := by omega
      subst hin
      refine (Walks.list ?hh9 s'.heap.objs.size r hrI vr.toArray).done _ _ _ ⟨(show vr.toArray.size = ns.length from hlen) ▸ gIt, gL⟩ fun h2 tk2 hk2 => ?_
      case hh9 => (simp [Around.over, marksOver, hh]; rfl)
      dsimp only
      refine sg_blockNil ?_
      refine seg_end (.ok (.ret .none)) ⟨rfl, ?_, _, _, rfl, fun b o b1 b2 e => hk2 b o (fun q => b2 (List.mem_singleton.mp q)) (gK b o b1 b2 e)⟩
      have e0 := gst 0
      rw [Nat.add_sub_add_right]
      rw [Nat.add_zero, List.drop_length] at e0
      rw [e0, stm]
end
-- text told
section
/-- the first sizes of a stream, four at most -/
structure ToldOf (f : Nat → Option Int) (ts : List Int) : Prop where
  each : ∀ j, j < ts.length → f j = ts[j]?
  four : ts.length ≤ 4
  all : ts.length = 4 ∨ f ts.length = none
theorem told_snoc {f : Nat → Option Int} {ts : List Int} {i : Nat} {v : Int} (h : ∀ j, j < i → f j = ts[j]?) (hl : ts.length = i) (hf : f i = some v) : ∀ j, j < i + 1 → f j = (ts ++ [v])[j]? := fun j hj => by
  by_cases q : j < i
  · rw [h j q, List.getElem?_append_left (by omega)]
  · have e : j = i := by omega
    subst e
    rw [hf, List.getElem?_append_right (by omega), hl, Nat.sub_self]
    rfl
theorem reg_told_1 : True := by
  k_with_none
  k_with "cell_enter" => (refine' own_def0 ?cek1 ?cek2 ?cek3 ?cek5 ?cekA ?cekF ?cekK ?cek6 ?cek7 ?cek8 ?cek9 ?cekB ?_ ?cec2 ?cec3 ?cec4 ?cec5; (case cekA => exact rfl); (case cekF => exact rfl); (case cekK => assumption); (case cek1 => k_asm); (case cek2 => k_asm); (case cek3 => k_asm); (case cek5 => k_asm); (case cek6 => k_is); (case cek7 => k_is); (case cek8 => ktr_room); (case cek9 => exact BindsTo.of_eq rfl); (case cec5 => decide); (case cekB => exact locs rfl); (case cec2 => exact rfl); (case cec3 => exact rfl); (case cec4 => exact rfl); k_whole; intro _ _ _ Bq9 _ _; (try dsimp only); (try k_lift Bq9); (try k_fold))
  k_with "units_room" => (have hcL9 := cLine_is; (try dsimp only [ktrTop]); simp only [units_in1, units_deeper, Around.mark_units, units_caller]; omega)
  k_with "call builtin:list.index" => (k_here; (with_reducible show wpAny _ _ (call (Value.builtin _) [Value.ref _, Value.int _ _]) _ _ _); k_dflt (refine' own_index (by is_list) (by l_ints) (by tb_start) (by first | assumption | exact any_mem (by assumption)) ?_; k_whole))
  k_with "getMethod ref" => ((with_reducible show wpAny _ _ (getMethod (Value.ref _) (Str.ofString "index") _) _ _ _); k_dflt (refine getMethod_list_of PySem.F.slot_list_index PySem.F.type_list_index (by is_list) (by no_dict) ?_))
  k_with "call builtin:len" => (k_here; (with_reducible show wpAny _ _ (call (Value.builtin "len") [Value.ref _]) _ _ _); k_dflt (refine' own_len (by is_list) (by l_ints) (by tb_start) ?_; k_whole))
  k_with "subscriptTail Name Slice ref ref" => (k_here; (with_reducible show wpAny _ _ (subscriptTail _ (PySem.Expr.Slice _ _ none _) (Value.ref _) (Value.ref _)) _ _ _); k_dflt (refine' own_slice (by k_asm) (by k_asm) (by kmk_list) (by l_ints) (by tb_start) (by kmk_part) (by kmk_part) ?_ (by with_unfolding_all rfl) (by kmk_pure); k_whole); intro _ _ _ _ _ l1q _ _; (try k_lt l1q); (try k_sweep))
  k_with "binaryOp Mult ref int" => (k_here; (with_reducible show wpAny _ _ (binaryOp Operator.Mult (Value.ref _) (Value.int _ _)) _ _ _); k_dflt (refine' own_mul (by k_asm) (by k_asm) (by is_list) (by first | l_ints | l_intsW) (by tb_start) (by tb_start) (by exact mul_small (by tb_start) (by tb_start)) ?_; k_whole); intro _ _ _ _ _ l1q _ _; (try k_lt l1q); (try k_sweep))
  k_with "binaryOp Add ref ref" => (k_here; (with_reducible show wpAny _ _ (binaryOp Operator.Add (Value.ref _) (Value.ref _)) _ _ _); k_dflt (refine' own_add (by k_asm) (by k_asm) (by is_list) (by is_list) (by first | l_ints | l_intsW) (by first | l_ints | l_intsW) (by tb_start) ?_; k_whole); intro _ _ _ _ _ l1q _ _; (try k_lt l1q); (try k_sweep))
  k_with "subscriptTail Name Slice str ref" => ((with_reducible show wpAny _ _ (subscriptTail _ (Expr.Slice none (some _) none _) _ _) _ _ _); (with_reducible rename Fr _ _ _ _ => F'q); (with_reducible rename News _ _ _ _ => N'q); refine slice_strN_ns_len (hsz := (by first | exact Short.fits (by assumption) | (rw [sizeLine_eq]; omega))) (s := ⟨_, _, _, _, _⟩) F'q N'q ?_; intro _ _ _ F'q N'q _; (try k_sweep))
  k_with "subscriptTail Name Slice str ref" => ((with_reducible show wpAny _ _ (subscriptTail _ (Expr.Slice (some _) none none _) _ _) _ _ _); (with_reducible rename Fr _ _ _ _ => F'q); (with_reducible rename News _ _ _ _ => N'q); refine slice_strN_sn_len (hsz := (by first | exact Short.fits (by assumption) | (rw [sizeLine_eq]; omega))) (s := ⟨_, _, _, _, _⟩) F'q N'q ?_; intro _ _ _ F'q N'q _; (try k_sweep))
  k_with "tb_rel" => (intro _ h9q k9q; (simp only [List.forall_mem_cons, List.not_mem_nil, false_implies, implies_true, and_true, ne_eq] at h9q); (try simp only [List.contains_cons, List.contains_nil, Bool.or_false, Bool.or_eq_false_iff, beq_eq_false_iff_ne, ne_eq] at k9q); simp [kstB, h9q, k9q])
  trivial
set_option maxHeartbeats 8000000 in
theorem told_c {w : World} {p : Program} {loose : List Str} {mean : ExcName → Option Value} {mg mb : Str → Option Value} {dp un : Nat} {gd : Option (List Code)} {cn : Str} {cs : Scope} {a : Addr} {ccd : Value} {cl : List (Str × Addr)} {outer : List Env} {A₀ : Around} {base h₀ : Heap} {L : Addr} {m : Str → Option Value} {s : Shared} {Q E : Value → Shared → Prop}
    {r : Addr} {ns : List Int} {vr : List Value} {rn : Nat}
    (B : Below A₀ base outer h₀) (F : Fr h₀ L s.heap m) (X : (hd.heap_1 w.params).In h₀) (T : Top p loose mean mg mb h₀) (hk : cs.kind = .function)
    (ho : s.heap.get? r = some (listOf vr.toArray rn)) (hi : IntsAre vr ns) (hz : ns.length ≤ 3) (hok : stmOk ns none) (hgb : AllBare s.gens) (hd : dp + 10 < recursionLimit) (hu : un + 200 < cLine)
    (hret : ∀ l n vs ts h' tk' g', s.heap.StaysIn h' → h'.get? l = some (listOf (List.toArray vs) n) → s.heap.get? l = none → IntsAre vs ts → ToldOf (stm ns none) ts → AllBare g' → Q (.ref l) { s with heap := h', toks := tk', gens := g' }) :
    wpAny (model PySem.Challenge.rw_st0029_01.row.prog w) (ktrTop dp un gd cn cs L a ccd cl outer) (call (.ref 104) [.ref r]) Q E s := by
  w_top off
  revert X
  k_fill
  intro X
  have hr : s.heap.IsList r vr.toArray := ⟨_, ho, rfl, _, rfl⟩
  refine wpAny_call ?_
  k_dflt cell_enter
  iterate 11 (first | (k_unfold; (try dsimp only)) | walk1 | (dsimp only; walk1))
  refine wpAny_For ?_
  iterate 7 (first | (k_unfold; (try dsimp only)) | walk1 | (dsimp only; walk1))
  (with_reducible rename Fr _ _ _ _ => tF)
  (with_reducible rename News _ _ _ _ => tN)
  rename_i tD _ _ _
  refine gen_c tF (by k_asm) (by k_asm) (tF.keep _ _ ho) hi (by omega) hok (by (try dsimp only [ktrTop]); omega) ?_
  intro ga gG gm' ggs gh gtk gSt gFG gGen gLt gSz gG0 ga0 gaS gBare gS
  obtain ⟨tF2, tN2⟩ := behind tF tN gSt
  dsimp only
  refine wpAny_pyIter_gen gGen ?_
  have gG0' : s.heap.get? gG = none := by
    cases q : s.heap.get? gG with
    | none => rfl
    | some o => have := tF.keep _ _ q; rw [gG0] at this; cases this
  have ga0' : s.heap.get? ga = none := by
    cases q : s.heap.get? ga with
    | none => rfl
    | some o => have := tF.keep _ _ q; rw [ga0] at this; cases this
  have hgL : gG ≠ s.heap.objs.size := fun q => by
    obtain ⟨oL, _, _, hL, _⟩ := tF.ns
    rw [← q, gG0] at hL; cases hL
  have haL : ga ≠ s.heap.objs.size := fun q => by
    obtain ⟨oL, _, _, hL, _⟩ := tF.ns
    rw [← q, ga0] at hL; cases hL
  have htD := (tN (tD, listOf #[] 0) (.head _)).1
  refine own_genLoop (N := 3) (fun i m₁ nx => ∃ vs ts, nx = [(tD, listOf vs.toArray i)] ∧ IntsAre vs ts ∧ ts.length = i ∧ (∀ j, j < i → stm ns none j = ts[j]?) ∧ ∀ z, z ≠ Str.ofString "size" → m₁ z = (fun y => if y = Str.ofString "told" then some (Value.ref tD) else List.lookup y [(Str.ofString "row", Value.ref r)]) z)
    gS rfl ?hroom ?hlim rfl rfl tF2 tN2 gFG gGen ?hgs ?hb hgL haL (Nat.ne_of_lt gLt) ga0' gG0' ?hoff ?hrG ?hrk ?h0 ?turn ?done
  case hroom => (show dp + 1 < recursionLimit); omega
  case hlim => exact fun h k => (TopRead.nolimit (topRead_of (by with_reducible assumption))).keeps k
  case hgs => simp
  case hb => exact AllBare.push hgb gBare
  case hoff =>
    intro p hp
    rw [List.mem_singleton.mp hp]
    refine ⟨fun q => ?_, fun q => ?_⟩
    · rw [show tD = gG from q] at htD
      rw [gG0] at htD; cases htD
    · rw [show tD = ga from q] at htD
      rw [ga0] at htD; cases htD
  case hrG => exact fun q => by rw [q, gG0'] at ho; cases ho
  case hrk => exact fun i m₁ nx h _ _ k => k _ _ ho
  case h0 => exact ⟨[], [], rfl, .nil, rfl, fun j hj => absurd hj (Nat.not_lt_zero _), fun z _ => rfl⟩
  case turn =>
    clear tF2 tN2 gFG gGen gS tF tN
    rintro i v t m₁ nx h tk g' own hi3 hfi ⟨vs, ts, rfl, hI, hl, hts, hm⟩ hoff hgb' bF bN
    have eF : (fun y => if y = Str.ofString "size" then some (Value.int v t) else m₁ y) = fun y => if y = Str.ofString "size" then some (Value.int v t) else if y = Str.ofString "told" then some (Value.ref tD) else if y = Str.ofString "row" then some (Value.ref r) else none := by
      funext y
      by_cases q : y = Str.ofString "size"
      · simp [q]
      · simp only [if_neg q, hm y q, lookup_one]
    rw [eF] at bF
    have hoff2 := ownOff_of hoff
    dsimp only [List.map] at hoff2
    dsimp only [List.cons_append, List.nil_append] at bN
    have hvl : vs.length = i := hI.length.trans hl
    try k_fold
    k_steps
    · dsimp only [qk, Ret]
      refine hret tD _ _ (ts ++ [v]) _ _ g' (Fr.keep (by assumption)) (News.get (by assumption) (by k_mem)) (News.fresh (by assumption) (by k_mem)) (hI.append (.cons _ _ .nil)) ⟨?_, ?_, .inl ?_⟩ hgb'
      · rw [List.length_append, List.length_singleton, hl]; exact told_snoc hts hl hfi
      · rw [List.length_append, List.length_singleton]; omega
      · rw [List.length_append, List.length_singleton]; omega
    · refine ⟨_, _, _, _, [(tD, listOf (vs ++ [Value.int v t]).toArray (i + 1))], rfl, by k_asm, by k_asm, ?_, fun p hp => .tail _ hp, tbOff_of hoff2, by omega, vs ++ [Value.int v t], ts ++ [v], rfl, hI.append (.cons _ _ .nil), by rw [List.length_append, List.length_singleton, hl], told_snoc hts hl hfi, ?_⟩
      · intro p hp
        rw [List.mem_singleton.mp hp]; exact .head _
      · intro z hz
        simp only [if_neg hz, lookup_one]
  case done =>
    clear tF2 tN2 gFG gGen gS tF tN
    rintro i m₁ nx h tk g' hi3 hfi ⟨vs, ts, rfl, hI, hl, hts, hm⟩ hgb' bF bN
    have eF : m₁ = fun y => if y = Str.ofString "size" then m₁ y else if y = Str.ofString "told" then some (Value.ref tD) else if y = Str.ofString "row" then some (Value.ref r) else none := by
      funext y
      by_cases q : y = Str.ofString "size"
      · simp [q]
      · simp only [if_neg q, hm y q, lookup_one]
    rw [eF] at bF
    try k_fold
    k_steps
    dsimp only [qk, Ret]
    exact hret tD _ _ ts _ _ g' (Fr.keep (by assumption)) (News.get (by assumption) (by k_mem)) (News.fresh (by assumption) (by k_mem)) hI ⟨fun j hj => hts j (by omega), by omega, .inr (by rw [hl]; exact hfi)⟩ hgb'
end
-- text col
section
/-- the first mark of the ruler [ts, 0] that is not below width -/
noncomputable def markF (ts width : Int) : Nat → Int → Int
  | 0, mark => mark
  | k + 1, mark => if width ≤ mark + ts then mark + ts else markF ts width k (mark + ts)
noncomputable def colF (blanks ts : Int) (due : List Int) : Int := due.foldl (fun c w => c + markF ts w 6 0) blanks
theorem stm_two {ts : Int} (h1 : ts ≠ 127) (h2 : ts ≠ 0) : ∀ k, stm [ts, 0] none k = some ts
  | 0 => by simp [stm, h1, h2]
  | k + 1 => by rw [stm, if_neg h1, if_neg h2]; cases k <;> simp [stm]
theorem col_step {bl ts : Int} {ns : List Int} {i : Nat} {n : Int} (h : ns[i]? = some n) : colF bl ts (ns.take i) + markF ts n 6 0 = colF bl ts (ns.take (i + 1)) := by
  rw [List.take_add_one, h, Option.toList_some, colF, colF, List.foldl_append]; rfl
theorem mark_yes {ts n v : Int} {i : Nat} (hi : i ≤ 5) (h : n ≤ v + ts) : markF ts n (6 - i) v = v + ts := by
  rw [show 6 - i = (5 - i) + 1 by omega, markF, if_pos h]
theorem mark_no {ts n v : Int} {i : Nat} (hi : i ≤ 5) (h : ¬ n ≤ v + ts) : markF ts n (6 - i) v = markF ts n (6 - (i + 1)) (v + ts) := by
  rw [show 6 - i = (5 - i) + 1 by omega, markF, if_neg h, show 5 - i = 6 - (i + 1) by omega]

theorem reg_col_1 : True := by
  k_with_none
  k_with "cell_enter" => (refine' own_def0 ?cek1 ?cek2 ?cek3 ?cek5 ?cekA ?cekF ?cekK ?cek6 ?cek7 ?cek8 ?cek9 ?cekB ?_ ?cec2 ?cec3 ?cec4 ?cec5; (case cekA => exact rfl); (case cekF => exact rfl); (case cekK => assumption); (case cek1 => k_asm); (case cek2 => k_asm); (case cek3 => k_asm); (case cek5 => k_asm); (case cek6 => k_is); (case cek7 => k_is); (case cek8 => ktr_room); (case cek9 => exact BindsTo.of_eq rfl); (case cec5 => decide); (case cekB => exact locs rfl); (case cec2 => exact rfl); (case cec3 => exact rfl); (case cec4 => exact rfl); k_whole; intro _ _ _ Bq9 _ _; (try dsimp only); (try k_lift Bq9); (try k_fold))
  k_with "units_room" => (have hcL9 := cLine_is; (try dsimp only [ktrTop]); simp only [units_in1, units_deeper, Around.mark_units, units_caller]; omega)
  k_with "call builtin:list.index" => (k_here; (with_reducible show wpAny _ _ (call (Value.builtin _) [Value.ref _, Value.int _ _]) _ _ _); k_dflt (refine' own_index (by is_list) (by l_ints) (by tb_start) (by first | assumption | exact any_mem (by assumption)) ?_; k_whole))
  k_with "getMethod ref" => ((with_reducible show wpAny _ _ (getMethod (Value.ref _) (Str.ofString "index") _) _ _ _); k_dflt (refine getMethod_list_of PySem.F.slot_list_index PySem.F.type_list_index (by is_list) (by no_dict) ?_))
  k_with "call builtin:len" => (k_here; (with_reducible show wpAny _ _ (call (Value.builtin "len") [Value.ref _]) _ _ _); k_dflt (refine' own_len (by is_list) (by l_ints) (by tb_start) ?_; k_whole))
  k_with "subscriptTail Name Slice ref ref" => (k_here; (with_reducible show wpAny _ _ (subscriptTail _ (PySem.Expr.Slice _ _ none _) (Value.ref _) (Value.ref _)) _ _ _); k_dflt (refine' own_slice (by k_asm) (by k_asm) (by kmk_list) (by l_ints) (by tb_start) (by kmk_part) (by kmk_part) ?_ (by with_unfolding_all rfl) (by kmk_pure); k_whole); intro _ _ _ _ _ l1q _ _; (try k_lt l1q); (try k_sweep))
  k_with "binaryOp Mult ref int" => (k_here; (with_reducible show wpAny _ _ (binaryOp Operator.Mult (Value.ref _) (Value.int _ _)) _ _ _); k_dflt (refine' own_mul (by k_asm) (by k_asm) (by is_list) (by first | l_ints | l_intsW) (by tb_start) (by tb_start) (by exact mul_small (by tb_start) (by tb_start)) ?_; k_whole); intro _ _ _ _ _ l1q _ _; (try k_lt l1q); (try k_sweep))
  k_with "binaryOp Add ref ref" => (k_here; (with_reducible show wpAny _ _ (binaryOp Operator.Add (Value.ref _) (Value.ref _)) _ _ _); k_dflt (refine' own_add (by k_asm) (by k_asm) (by is_list) (by is_list) (by first | l_ints | l_intsW) (by first | l_ints | l_intsW) (by tb_start) ?_; k_whole); intro _ _ _ _ _ l1q _ _; (try k_lt l1q); (try k_sweep))
  k_with "subscriptTail Name Slice str ref" => ((with_reducible show wpAny _ _ (subscriptTail _ (Expr.Slice none (some _) none _) _ _) _ _ _); (with_reducible rename Fr _ _ _ _ => F'q); (with_reducible rename News _ _ _ _ => N'q); refine slice_strN_ns_len (hsz := (by first | exact Short.fits (by assumption) | (rw [sizeLine_eq]; omega))) (s := ⟨_, _, _, _, _⟩) F'q N'q ?_; intro _ _ _ F'q N'q _; (try k_sweep))
  k_with "subscriptTail Name Slice str ref" => ((with_reducible show wpAny _ _ (subscriptTail _ (Expr.Slice (some _) none none _) _ _) _ _ _); (with_reducible rename Fr _ _ _ _ => F'q); (with_reducible rename News _ _ _ _ => N'q); refine slice_strN_sn_len (hsz := (by first | exact Short.fits (by assumption) | (rw [sizeLine_eq]; omega))) (s := ⟨_, _, _, _, _⟩) F'q N'q ?_; intro _ _ _ F'q N'q _; (try k_sweep))
  k_with "tb_rel" => (intro _ h9q k9q; (simp only [List.forall_mem_cons, List.not_mem_nil, false_implies, implies_true, and_true, ne_eq] at h9q); (try simp only [List.contains_cons, List.contains_nil, Bool.or_false, Bool.or_eq_false_iff, beq_eq_false_iff_ne, ne_eq] at k9q); simp [kstB, h9q, k9q])
  trivial
set_option maxHeartbeats 8000000 in
theorem col_c {w : World} {p : Program} {loose : List Str} {mean : ExcName → Option Value} {mg mb : Str → Option Value} {dp un : Nat} {gd : Option (List Code)} {cn : Str} {cs : Scope} {a : Addr} {ccd : Value} {cl : List (Str × Addr)} {outer : List Env} {A₀ : Around} {base h₀ : Heap} {L : Addr} {m : Str → Option Value} {s : Shared} {Q E : Value → Shared → Prop}
    {r : Addr} {ns : List Int} {vr : List Value} {rn : Nat} {bl ts : Int} {tb tt : Tok}
    (B : Below A₀ base outer h₀) (F : Fr h₀ L s.heap m) (X : (hd.heap_1 w.params).In h₀) (T : Top p loose mean mg mb h₀) (hk : cs.kind = .function)
    (ho : s.heap.get? r = some (listOf vr.toArray rn)) (hi : IntsAre vr ns) (hz : ns.length ≤ 4) (hw : ∀ n ∈ ns, 1 ≤ n ∧ n ≤ 6) (h1 : 1 ≤ ts) (h2 : ts ≤ 100) (hgb : AllBare s.gens) (hd : dp + 10 < recursionLimit) (hu : un + 200 < cLine)
    (hret : ∀ t h' tk' g', s.heap.StaysIn h' → AllBare g' → Q (.int (colF bl ts ns) t) { s with heap := h', toks := tk', gens := g' }) :
    wpAny (model PySem.Challenge.rw_st0029_01.row.prog w) (ktrTop dp un gd cn cs L a ccd cl outer) (call (.ref 132) [.ref r, .int bl tb, .int ts tt]) Q E s := by
  w_top off
  revert X
  k_fill
  intro X
  have hr : s.heap.IsList r vr.toArray := ⟨_, ho, rfl, _, rfl⟩
  refine wpAny_call ?_
  k_dflt cell_enter
  iterate 6 (first | (k_unfold; (try dsimp only)) | walk1 | (dsimp only; walk1))
  refine wpAny_For ?_
  iterate 1 (first | (k_unfold; (try dsimp only)) | walk1 | (dsimp only; walk1))
  (with_reducible rename Fr _ _ _ _ => tF)
  (with_reducible rename News _ _ _ _ => tN)
  refine own_listG (fun i m₁ nx => nx = [] ∧ (∃ tc, m₁ (Str.ofString "column") = some (.int (colF bl ts (ns.take i)) tc)) ∧ m₁ (Str.ofString "due") = some (.ref r) ∧ m₁ (Str.ofString "blanks") = some (.int bl tb) ∧ m₁ (Str.ofString "tabsize") = some (.int ts tt)) rfl hr hi rfl rfl tF tN hgb ?h0 ?turn ?done
  case h0 => exact ⟨rfl, ⟨_, rfl⟩, rfl, rfl, rfl⟩
  case turn =>
    clear tF tN
    rintro i n t m₁ nx h tk g own hn hoff ⟨rfl, ⟨tc, m1⟩, m2, m3, m4⟩ gb bF bN
    have eF : (fun y => if y = Str.ofString "width" then some (Value.int n t) else m₁ y) = fun y => if y = Str.ofString "width" then some (Value.int n t) else if y = Str.ofString "column" then some (.int (colF bl ts (ns.take i)) tc) else if y = Str.ofString "tabsize" then some (.int ts tt) else if y = Str.ofString "due" then some (.ref r) else if y = Str.ofString "blanks" then some (.int bl tb) else m₁ y := by
      funext y
      split
      · rfl
      · split
        · rename_i q; rw [q]; exact m1
        · split
          · rename_i q; rw [q]; exact m4
          · split
            · rename_i q; rw [q]; exact m2
            · split
              · rename_i q; rw [q]; exact m3
              · rfl
    rw [eF] at bF
    dsimp only [List.nil_append] at bN
    try k_fold
    iterate 5 (first | (k_unfold; (try dsimp only)) | walk1 | (dsimp only; walk1))
    refine wpAny_For ?_
    iterate 13 (first | (k_unfold; (try dsimp only)) | walk1 | (dsimp only; walk1))
    (with_reducible rename Fr _ _ _ _ => cF)
    (with_reducible rename News _ _ _ _ => cN)
    rename_i _ lA _ lL
    obtain ⟨u0, cN2⟩ : ∃ u, News s.heap s.heap.objs.size _ ((lA, listOf #[Value.int ts tt, Value.int 0 u] 0) :: own) := ⟨_, cN⟩
    clear cN
    have lO := (cN2 _ (.head _)).1
    refine gen_c (ns := [ts, 0]) cF (by k_asm) (by k_asm) lO (.cons _ _ (.cons _ _ .nil)) (by simp) (.inr (.inr ⟨by omega, by omega, .inr (.inl ⟨rfl, by simp⟩)⟩)) (by (try dsimp only [ktrTop]); omega) ?_
    intro ga gG gm' ggs gh gtk gSt gFG gGen gLt gSz gG0 ga0 gaS gBare gS
    obtain ⟨tF2, tN2⟩ := behind cF cN2 gSt
    dsimp only
    refine wpAny_pyIter_gen gGen ?_
    have gG0' : s.heap.get? gG = none := by
      cases q : s.heap.get? gG with
      | none => rfl
      | some o => have := cF.keep _ _ q; rw [gG0] at this; cases this
    have ga0' : s.heap.get? ga = none := by
      cases q : s.heap.get? ga with
      | none => rfl
      | some o => have := cF.keep _ _ q; rw [ga0] at this; cases this
    have hgL : gG ≠ s.heap.objs.size := fun q => by
      obtain ⟨oL, _, _, hL, _⟩ := cF.ns
      rw [← q, gG0] at hL; cases hL
    have haL : ga ≠ s.heap.objs.size := fun q => by
      obtain ⟨oL, _, _, hL, _⟩ := cF.ns
      rw [← q, ga0] at hL; cases hL
    refine own_genLoop (N := 5) (fun i2 m₁ nx => nx = (lA, listOf #[Value.int ts tt, Value.int 0 u0] 0) :: own ∧ (∃ v tv, m₁ (Str.ofString "mark") = some (.int v tv) ∧ (i2 : Int) ≤ v ∧ (1 ≤ i2 → v < n) ∧ markF ts n (6 - i2) v = markF ts n 6 0) ∧
      m₁ (Str.ofString "width") = some (.int n t) ∧ m₁ (Str.ofString "column") = some (.int (colF bl ts (ns.take i)) tc) ∧ m₁ (Str.ofString "due") = some (.ref r) ∧ m₁ (Str.ofString "blanks") = some (.int bl tb) ∧ m₁ (Str.ofString "tabsize") = some (.int ts tt))
      gS rfl ?chroom ?chlim rfl rfl tF2 tN2 gFG gGen ?chgs ?chb hgL haL (Nat.ne_of_lt gLt) ga0' gG0' ?choff ?chrG ?chrk ?ch0 ?cturn ?cdone
    case chroom => (show dp + 1 < recursionLimit); omega
    case chlim => exact fun h k => (TopRead.nolimit (topRead_of (by with_reducible assumption))).keeps k
    case chgs => simp
    case chb => exact AllBare.push gb gBare
    case choff =>
      intro p hp
      have e := (cN2 p hp).1
      refine ⟨fun q => ?_, fun q => ?_⟩
      · rw [q, gG0] at e; cases e
      · rw [q, ga0] at e; cases e
    case chrG => exact fun q => by rw [q, gG0] at lO; cases lO
    case chrk => rintro i2 m₁ nx h ⟨rfl, _⟩ hN _; exact (hN _ (.head _)).1
    case ch0 => exact ⟨rfl, ⟨0, _, rfl, Int.le_refl _, fun q => absurd q (by decide), rfl⟩, rfl, rfl, rfl, rfl, rfl⟩
    case cturn =>
      clear tF2 tN2 gFG gGen gS cF eF bF bN
      rintro i2 v t2 m₂ nx h2 tk2 g2 own2 hi5 hfi ⟨rfl, ⟨mv, tv, k1, k2, k3, k4⟩, k5, k6, k7, k8, k9⟩ hoff2 gb2 dF dN
      rw [stm_two (by omega) (by omega)] at hfi
      have ev : ts = v := Option.some.inj hfi
      subst ev
      have eF2 : (fun y => if y = Str.ofString "step" then some (Value.int ts t2) else m₂ y) = fun y => if y = Str.ofString "step" then some (Value.int ts t2) else if y = Str.ofString "mark" then some (.int mv tv) else if y = Str.ofString "width" then some (Value.int n t) else if y = Str.ofString "column" then some (.int (colF bl ts (ns.take i)) tc) else if y = Str.ofString "tabsize" then some (.int ts tt) else if y = Str.ofString "due" then some (.ref r) else if y = Str.ofString "blanks" then some (.int bl tb) else m₂ y := by
        (funext y9; (repeat (first | rfl | (split; · first | rfl | (rename_i q9; rw [q9]; assumption)))))
      rw [eF2] at dF
      dsimp only [List.cons_append] at dN
      try k_fold
      k_steps
      · have hw6 := (hw n (List.mem_of_getElem? hn)).2
        refine ⟨_, _, g2, _, _, [], rfl, gb2, by k_asm, by k_asm, fun p hp => (nomatch hp), fun p hp => .tail _ (List.mem_append.mpr (.inl hp)), fun p hp q hq => (nomatch hq), rfl, ?_, rfl, rfl, rfl⟩
        refine ⟨_, (congrArg (fun z => some (Value.int z _)) ?_)⟩
        rw [← col_step hn, ← k4, mark_yes hi5 (by assumption)]
      · have hw6 := (hw n (List.mem_of_getElem? hn)).2
        refine ⟨_, _, _, _, (lA, listOf #[Value.int ts tt, Value.int 0 u0] 0) :: own, rfl, by k_asm, by k_asm, ?_, fun p hp => .tail _ (List.mem_append.mpr (.inr hp)), hoff2, by omega, rfl, ⟨mv + ts, _, rfl, by omega, fun _ => by omega, ?_⟩, rfl, rfl, rfl, rfl, rfl⟩
        · intro p hp
          rcases List.mem_cons.mp hp with rfl | hp
          · exact .head _
          · exact .tail _ (List.mem_append.mpr (.inl hp))
        · rw [← k4]; exact (mark_no hi5 (by assumption)).symm
    case cdone =>
      rintro i2 m₂ nx h2 tk2 g2 hi5 hfi _ _ _ _
      rw [stm_two (by omega) (by omega)] at hfi
      cases hfi
  case done =>
    clear tF tN
    rintro m₁ nx h tk g ⟨rfl, ⟨tc, m1⟩, m2, m3, m4⟩ gb bF bN
    have eF : m₁ = fun y => if y = Str.ofString "column" then some (.int (colF bl ts (ns.take ns.length)) tc) else if y = Str.ofString "tabsize" then some (.int ts tt) else if y = Str.ofString "due" then some (.ref r) else if y = Str.ofString "blanks" then some (.int bl tb) else m₁ y := by
      (funext y9; (repeat (first | rfl | (split; · first | rfl | (rename_i q9; rw [q9]; assumption)))))
    rw [eF, List.take_length] at bF
    try k_fold
    k_steps
    dsimp only [qk, Ret]
    exact hret _ _ _ g (Fr.keep (by assumption)) gb
end
-- text told2
section
theorem told_uniq {f : Nat → Option Int} {a b : List Int} (x : ToldOf f a) (y : ToldOf f b) : a = b := by
  have key : ∀ {a b : List Int}, ToldOf f a → ToldOf f b → ¬ a.length < b.length := fun {a b} x y h => by
    have h4 := y.four
    have e := y.each _ h
    rcases x.all with q | q
    · omega
    · rw [q, List.getElem?_eq_getElem h] at e; cases e
  have hl : a.length = b.length := Nat.le_antisymm (Nat.not_lt.mp (key y x)) (Nat.not_lt.mp (key x y))
  refine List.ext_getElem? fun j => ?_
  by_cases h : j < a.length
  · rw [← x.each j h, y.each j (hl ▸ h)]
  · rw [List.getElem?_eq_none (Nat.not_lt.mp h), List.getElem?_eq_none (Nat.not_lt.mp (hl ▸ h))]
noncomputable def DIGS : List Int := [1, 2, 3, 4, 5, 0, 127]
noncomputable def DigRow (ns : List Int) : Prop := ∃ a ∈ DIGS, ∃ b ∈ DIGS, ∃ c ∈ DIGS, ns = [a, b, c]
noncomputable def toldB (f : Nat → Option Int) (ts : List Int) : Bool := decide (ts.length ≤ 4) && (List.range ts.length).all (fun j => f j == ts[j]?) && (decide (ts.length = 4) || f ts.length == none)
theorem told_of {f : Nat → Option Int} {ts : List Int} (h : toldB f ts = true) : ToldOf f ts := by
  unfold toldB at h
  simp only [Bool.and_eq_true, Bool.or_eq_true, decide_eq_true_eq, beq_iff_eq, List.all_eq_true, List.mem_range] at h
  exact ⟨h.1.2, h.1.1, h.2⟩
theorem told_all : (DIGS.all fun a => DIGS.all fun b => DIGS.all fun c => a == 0 || toldB (stm [a, b, c] none) (dueL [a, b, c])) = true := by decide +kernel
theorem told_due {ns ts : List Int} (hr : DigRow ns) (h0 : ns.head? ≠ some 0) (x : ToldOf (stm ns none) ts) : ts = dueL ns := by
  obtain ⟨a, ha, b, hb, c, hc, rfl⟩ := hr
  have h := List.all_eq_true.mp (List.all_eq_true.mp (List.all_eq_true.mp told_all a ha) b hb) c hc
  simp only [Bool.or_eq_true, beq_iff_eq] at h
  rcases h with h | h
  · exact absurd (by rw [h]; rfl) h0
  · exact told_uniq x (told_of h)
theorem due_refused {ns : List Int} (hr : DigRow ns) (h0 : ns.head? = some 0) : dueL ns = [6] := by
  obtain ⟨a, ha, b, hb, c, hc, rfl⟩ := hr
  have e : a = 0 := Option.some.inj h0
  subst e
  have h : (DIGS.all fun b => DIGS.all fun c => decide (dueL [0, b, c] = [6])) = true := by decide +kernel
  exact of_decide_eq_true (List.all_eq_true.mp (List.all_eq_true.mp h b hb) c hc)
theorem ok_of {ns : List Int} (hr : DigRow ns) (h0 : ns.head? ≠ some 0) : stmOk ns none := by
  obtain ⟨a, ha, b, hb, c, hc, rfl⟩ := hr
  have e : a ≠ 0 := fun q => h0 (by rw [q]; rfl)
  by_cases q : a = 127
  · exact .inl q
  · refine .inr (.inr ⟨q, e, ?_⟩)
    by_cases q : b = 127
    · exact .inl q
    · by_cases z : b = 0
      · exact .inr (.inl ⟨z, by simp⟩)
      · refine .inr (.inr ⟨q, z, ?_⟩)
        by_cases q : c = 127
        · exact .inl q
        · by_cases z : c = 0
          · exact .inr (.inl ⟨z, by simp⟩)
          · exact .inr (.inr ⟨q, z, trivial⟩)
end
-- text gen0
section
noncomputable def RaiseEnd (base g : Heap) (outer : List Env) (news : List (Addr × Obj)) : GenEnd := fun _ s₀ r s₁ => ∃ e, r = .error (.ref e) ∧ ∃ h₁ tk, s₁ = { s₀ with heap := h₁, toks := tk } ∧ RaisedSN base g outer e (.type "ValueError") news h₁ ∧ g.UpToSlots h₁
noncomputable def StartsX (M : Model) (g : Heap) (G : Addr) (m : Str → Option Value) (gs : GenState) : Prop :=
  ∀ (A : Around) (base : Heap) (outer : List Env) (news : List (Addr × Obj)) (s : Shared), A.handled = none → Below A.in1 base outer g → Fr g G s.heap m → News g G s.heap news → gs.Goes M A.in1 (RaiseEnd base g outer news) (fun _ _ _ _ _ => False) 1 (.send .none) s
theorem reg_gen0_1 : True := by
  k_with_none
  k_with "cell_enter" => (refine' own_def0 ?cek1 ?cek2 ?cek3 ?cek5 ?cekA ?cekF ?cekK ?cek6 ?cek7 ?cek8 ?cek9 ?cekB ?_ ?cec2 ?cec3 ?cec4 ?cec5; (case cekA => exact rfl); (case cekF => exact rfl); (case cekK => assumption); (case cek1 => k_asm); (case cek2 => k_asm); (case cek3 => k_asm); (case cek5 => k_asm); (case cek6 => k_is); (case cek7 => k_is); (case cek8 => ktr_room); (case cek9 => exact BindsTo.of_eq rfl); (case cec5 => decide); (case cekB => exact locs rfl); (case cec2 => exact rfl); (case cec3 => exact rfl); (case cec4 => exact rfl); k_whole; intro _ _ _ Bq9 _ _; (try dsimp only); (try k_lift Bq9); (try k_fold))
  k_with "units_room" => (have hcL9 := cLine_is; (try dsimp only [ktrTop]); simp only [units_in1, units_deeper, Around.mark_units, units_caller]; omega)
  k_with "call builtin:list.index" => (k_here; (with_reducible show wpAny _ _ (call (Value.builtin _) [Value.ref _, Value.int _ _]) _ _ _); k_dflt (refine' own_index (by is_list) (by l_ints) (by tb_start) (by first | assumption | exact any_mem (by assumption)) ?_; k_whole))
  k_with "getMethod ref" => ((with_reducible show wpAny _ _ (getMethod (Value.ref _) (Str.ofString "index") _) _ _ _); k_dflt (refine getMethod_list_of PySem.F.slot_list_index PySem.F.type_list_index (by is_list) (by no_dict) ?_))
  k_with "call builtin:len" => (k_here; (with_reducible show wpAny _ _ (call (Value.builtin "len") [Value.ref _]) _ _ _); k_dflt (refine' own_len (by is_list) (by l_ints) (by tb_start) ?_; k_whole))
  k_with "subscriptTail Name Slice ref ref" => (k_here; (with_reducible show wpAny _ _ (subscriptTail _ (PySem.Expr.Slice _ _ none _) (Value.ref _) (Value.ref _)) _ _ _); k_dflt (refine' own_slice (by k_asm) (by k_asm) (by kmk_list) (by l_ints) (by tb_start) (by kmk_part) (by kmk_part) ?_ (by with_unfolding_all rfl) (by kmk_pure); k_whole); intro _ _ _ _ _ l1q _ _; (try k_lt l1q); (try k_sweep))
  k_with "binaryOp Mult ref int" => (k_here; (with_reducible show wpAny _ _ (binaryOp Operator.Mult (Value.ref _) (Value.int _ _)) _ _ _); k_dflt (refine' own_mul (by k_asm) (by k_asm) (by is_list) (by first | l_ints | l_intsW) (by tb_start) (by tb_start) (by exact mul_small (by tb_start) (by tb_start)) ?_; k_whole); intro _ _ _ _ _ l1q _ _; (try k_lt l1q); (try k_sweep))
  k_with "binaryOp Add ref ref" => (k_here; (with_reducible show wpAny _ _ (binaryOp Operator.Add (Value.ref _) (Value.ref _)) _ _ _); k_dflt (refine' own_add (by k_asm) (by k_asm) (by is_list) (by is_list) (by first | l_ints | l_intsW) (by first | l_ints | l_intsW) (by tb_start) ?_; k_whole); intro _ _ _ _ _ l1q _ _; (try k_lt l1q); (try k_sweep))
  k_with "subscriptTail Name Slice str ref" => ((with_reducible show wpAny _ _ (subscriptTail _ (Expr.Slice none (some _) none _) _ _) _ _ _); (with_reducible rename Fr _ _ _ _ => F'q); (with_reducible rename News _ _ _ _ => N'q); refine slice_strN_ns_len (hsz := (by first | exact Short.fits (by assumption) | (rw [sizeLine_eq]; omega))) (s := ⟨_, _, _, _, _⟩) F'q N'q ?_; intro _ _ _ F'q N'q _; (try k_sweep))
  k_with "subscriptTail Name Slice str ref" => ((with_reducible show wpAny _ _ (subscriptTail _ (Expr.Slice (some _) none none _) _ _) _ _ _); (with_reducible rename Fr _ _ _ _ => F'q); (with_reducible rename News _ _ _ _ => N'q); refine slice_strN_sn_len (hsz := (by first | exact Short.fits (by assumption) | (rw [sizeLine_eq]; omega))) (s := ⟨_, _, _, _, _⟩) F'q N'q ?_; intro _ _ _ F'q N'q _; (try k_sweep))
  k_with "tb_rel" => (intro _ h9q k9q; (simp only [List.forall_mem_cons, List.not_mem_nil, false_implies, implies_true, and_true, ne_eq] at h9q); (try simp only [List.contains_cons, List.contains_nil, Bool.or_false, Bool.or_eq_false_iff, beq_eq_false_iff_ne, ne_eq] at k9q); simp [kstB, h9q, k9q])
  trivial
set_option maxHeartbeats 8000000 in
theorem gen0_c {w : World} {p : Program} {loose : List Str} {mean : ExcName → Option Value} {mg mb : Str → Option Value} {dp un : Nat} {gd : Option (List Code)} {cn : Str} {cs : Scope} {a : Addr} {ccd : Value} {cl : List (Str × Addr)} {outer : List Env} {h₀ : Heap} {L : Addr} {m : Str → Option Value} {s : Shared} {Q E : Value → Shared → Prop}
    {r : Addr} {ns : List Int} {vr : List Value} {rn : Nat}
    (F : Fr h₀ L s.heap m) (X : (hd.heap_1 w.params).In h₀) (T : Top p loose mean mg mb h₀)
    (ho : s.heap.get? r = some (listOf vr.toArray rn)) (hi : IntsAre vr ns) (h0 : ns.head? = some 0) (hd : dp + 3 < recursionLimit)
    (hret : ∀ a G m' gs h' tk', s.heap.StaysIn h' → Fr s.heap G h' m' → h'.IsGen a s.gens.size → G < a → s.heap.objs.size ≤ G → s.heap.get? G = none → s.heap.get? a = none → a < h'.objs.size → gs.bare = true →
      StartsX (model PySem.Challenge.rw_st0029_01.row.prog w) s.heap G m' gs → Q (.ref a) { s with heap := h', gens := s.gens.push gs, toks := tk' }) :
    wpAny (model PySem.Challenge.rw_st0029_01.row.prog w) (ktrTop dp un gd cn cs L a ccd cl outer) (call (.ref 87) [.ref r]) Q E s := by
  w_top off
  obtain ⟨t9, hv0⟩ : ∃ t, vr[0]? = some (.int 0 t) := by
    cases ns with
    | nil => cases h0
    | cons x xs =>
      obtain rfl : x = 0 := Option.some.inj h0
      exact hi.get 0 0 rfl
  revert X
  k_fill
  intro X
  refine wpAny_call ?_
  k_dflt (refine' own_gen ?k1 ?k3 ?k5 ?k6 ?k7 ?k8 ?k9 ?kB ?_ ?c2 ?c3 ?c4 ?c5; (case k1 => k_asm); (case k3 => k_asm); (case k5 => k_asm); (case k6 => k_is); (case k7 => k_is); (case k8 => ktr_room); (case k9 => exact BindsTo.of_eq rfl); (case c5 => decide); (case kB => exact locs rfl); (case c2 => exact rfl); (case c3 => exact rfl); (case c4 => exact rfl); k_whole; intro G ga gh gtk gNs gSt gGen gLt gSz gG0 ga0 gaS; (try dsimp only))
  have gF : Fr s.heap G gh _ := ⟨gNs, gSt, gSz⟩
  refine hret ga G _ _ gh gtk gSt gF gGen gLt gSz gG0 ga0 gaS rfl ?_
  have X' := X.keeps F.keep
  have T' := T.keeps F.keep
  intro A base outer' news' s' hh K F' N'
  refine ⟨rfl, seg_func ?_⟩
  have hrG : r ≠ G := fun q => by rw [q, gG0] at ho; cases ho
  have hr' := F'.keep _ _ ho
  clear gF gNs gSt gGen F X T
  refine seg_execs_cons (sg_exec ?_)
  iterate 2 (first | walk1 | (dsimp only; walk1))
  refine wpAny_storeName_local rfl F'.ns (fun h2 hns2 hs2 => ?_) rfl
  have F2 := F'.set hns2 hs2
  have N2 := N'.set hs2
  clear N' F'
  refine seg_execs_cons (sg_For ?_)
  iterate 1 (first | walk1 | (dsimp only; walk1))
  have hsz : h2.objs.size = s'.heap.objs.size := hs2.1
  have hr2 : h2.get? r = some (listOf vr.toArray rn) := (hs2.2 r hrG).trans hr'
  have hl2 : h2.IsList r vr.toArray := ⟨_, hr2, rfl, _, rfl⟩
  refine wpAny_pyIter_list hl2 (fun p => ?_)
  have hrI : r ≠ h2.objs.size := Nat.ne_of_lt (Heap.lt_size hr2)
  have hI0 : s.heap.get? h2.objs.size = none := next_is_new F2
  have hGI : G ≠ h2.objs.size := Nat.ne_of_lt F2.ns.lt
  refine sg_forLoop ?_
  have gL : (h2.push { cls := .type "list_iterator", data := .fields #[.ref r, .int 0 0] }).IsList r vr.toArray := ⟨_, Heap.get?_push_of_some _ hr2, rfl, _, rfl⟩
  have hv0lt : 0 < vr.length := (List.getElem?_eq_some_iff.mp hv0).1
  refine (Walks.list ?hh9 h2.objs.size r hrI vr.toArray).item 0 _ _ _ (by rw [List.size_toArray]; exact hv0lt) ⟨⟨_, Heap.get?_push_size _ rfl, rfl, rfl⟩, gL⟩ fun v h3 tk3 hP hst hk3 => ?_
  case hh9 => (simp [Around.over, marksOver, hh]; rfl)
  dsimp only
  have hv : v = .int 0 t9 := by
    have hP' : vr[0]? = some v := by simpa using hP
    rw [hv0] at hP'; exact (Option.some.inj hP').symm
  subst hv
  have F3 := (F2.push { cls := .type "list_iterator", data := .fields #[.ref r, .int 0 0] })
  have gF3 : Fr s.heap G h3 _ := ⟨F3.ns.at' fun o e => hk3 _ _ (fun q => hGI (List.mem_singleton.mp q)) e, fun b o e => hk3 b o (fun q => by rw [List.mem_singleton.mp q, hI0] at e; cases e) (F3.keep b o e), F3.above⟩
  have gN3 : News s.heap G h3 news' := fun q hq => ⟨hk3 _ _ (fun z => Nat.lt_irrefl _ ((List.mem_singleton.mp z) ▸ Heap.lt_size (N2 q hq).1)) (Heap.get?_push_of_some _ (N2 q hq).1), (N2 q hq).2⟩
  refine wpAny_assign_Name (wpAny_storeName_local rfl gF3.ns (fun h4 hns4 hs4 => ?_) rfl)
  have gF4 := gF3.set hns4 hs4
  have gN4 := gN3.set hs4
  clear F2 N2 F3 gF3 gN3 hns4
  refine seg_execs_cons (sg_If ?_)
  replace gF4 : Fr s.heap G h4 (fun y => if y = Str.ofString "interval" then some (.int 0 t9) else if y = Str.ofString "last_interval" then some Value.none else if y = Str.ofString "grouping" then some (.ref r) else none) := by
    have e : (fun y => if y = Str.ofString "interval" then some (Value.int 0 t9) else (fun y => if y = Str.ofString "last_interval" then some Value.none else List.lookup y [(Str.ofString "grouping", Value.ref r)]) y) = (fun y => if y = Str.ofString "interval" then some (.int 0 t9) else if y = Str.ofString "last_interval" then some Value.none else if y = Str.ofString "grouping" then some (.ref r) else none) := by
      funext y; simp only [lookup_one]
    rw [← e]; exact gF4
  iterate 5 (first | walk1 | (dsimp only; walk1))
  rw [if_neg (by decide)]
  refine seg_execs_nil ?_
  refine seg_execs_cons (sg_If ?_)
  iterate 5 (first | walk1 | (dsimp only; walk1))
  rw [if_pos (by decide)]
  refine seg_execs_cons (sg_If ?_)
  iterate 5 (first | walk1 | (dsimp only; walk1))
  rw [if_pos (by decide)]
  refine seg_execs_cons (sg_exec ?_)
  refine Raise_madeB PySem.F.excCall_ValueError PySem.F.excRaise_ValueError (by rw [over_for]; exact hh) (name_B gF4 X' (topRead_of T') (by k_is) (by boot_by_name) (by decide) ⟨rfl, ?_⟩)
  refine spliced_more (Calls.Constant_str (spliced_none ⟨?_, fun h' e hm => ?_⟩))
  · rw [sizeLine_eq]; show 1 ≤ _; omega
  · refine seg_raises (E₁ := fun x s₃ => RaiseEnd base s.heap outer' news' 1 s' (.error x) s₃) ?_ fun _ _ x => x
    exact leave_newS K hm.newExc gF4 gN4 fun h'' R _ U => ⟨e, rfl, h'', _, rfl, R, U⟩
end
-- text told0
section
theorem below_in1 {A : Around} {base h₀ h : Heap} {outer : List Env} {L a : Addr} {m : Str → Option Value} {name : Str} {scope : Scope} {cd : Value} (K : Below A base outer h₀) (F : Fr h₀ L h m) (hk : scope.kind = .function := by rfl) :
    Below (A.deeper (envOf name scope L a cd)).in1 base (envOf name scope L a cd :: outer) h :=
  let K' := K.push (name := name) (a := a) (cd := cd) F hk
  ⟨K'.stack, K'.stays, K'.frames⟩
theorem reg_told0_1 : True := by
  k_with_none
  k_with "cell_enter" => (refine' own_def0 ?cek1 ?cek2 ?cek3 ?cek5 ?cekA ?cekF ?cekK ?cek6 ?cek7 ?cek8 ?cek9 ?cekB ?_ ?cec2 ?cec3 ?cec4 ?cec5; (case cekA => exact rfl); (case cekF => exact rfl); (case cekK => assumption); (case cek1 => k_asm); (case cek2 => k_asm); (case cek3 => k_asm); (case cek5 => k_asm); (case cek6 => k_is); (case cek7 => k_is); (case cek8 => ktr_room); (case cek9 => exact BindsTo.of_eq rfl); (case cec5 => decide); (case cekB => exact locs rfl); (case cec2 => exact rfl); (case cec3 => exact rfl); (case cec4 => exact rfl); k_whole; intro _ _ _ Bq9 _ _; (try dsimp only); (try k_lift Bq9); (try k_fold))
  k_with "units_room" => (have hcL9 := cLine_is; (try dsimp only [ktrTop]); simp only [units_in1, units_deeper, Around.mark_units, units_caller]; omega)
  k_with "call builtin:list.index" => (k_here; (with_reducible show wpAny _ _ (call (Value.builtin _) [Value.ref _, Value.int _ _]) _ _ _); k_dflt (refine' own_index (by is_list) (by l_ints) (by tb_start) (by first | assumption | exact any_mem (by assumption)) ?_; k_whole))
  k_with "getMethod ref" => ((with_reducible show wpAny _ _ (getMethod (Value.ref _) (Str.ofString "index") _) _ _ _); k_dflt (refine getMethod_list_of PySem.F.slot_list_index PySem.F.type_list_index (by is_list) (by no_dict) ?_))
  k_with "call builtin:len" => (k_here; (with_reducible show wpAny _ _ (call (Value.builtin "len") [Value.ref _]) _ _ _); k_dflt (refine' own_len (by is_list) (by l_ints) (by tb_start) ?_; k_whole))
  k_with "subscriptTail Name Slice ref ref" => (k_here; (with_reducible show wpAny _ _ (subscriptTail _ (PySem.Expr.Slice _ _ none _) (Value.ref _) (Value.ref _)) _ _ _); k_dflt (refine' own_slice (by k_asm) (by k_asm) (by kmk_list) (by l_ints) (by tb_start) (by kmk_part) (by kmk_part) ?_ (by with_unfolding_all rfl) (by kmk_pure); k_whole); intro _ _ _ _ _ l1q _ _; (try k_lt l1q); (try k_sweep))
  k_with "binaryOp Mult ref int" => (k_here; (with_reducible show wpAny _ _ (binaryOp Operator.Mult (Value.ref _) (Value.int _ _)) _ _ _); k_dflt (refine' own_mul (by k_asm) (by k_asm) (by is_list) (by first | l_ints | l_intsW) (by tb_start) (by tb_start) (by exact mul_small (by tb_start) (by tb_start)) ?_; k_whole); intro _ _ _ _ _ l1q _ _; (try k_lt l1q); (try k_sweep))
  k_with "binaryOp Add ref ref" => (k_here; (with_reducible show wpAny _ _ (binaryOp Operator.Add (Value.ref _) (Value.ref _)) _ _ _); k_dflt (refine' own_add (by k_asm) (by k_asm) (by is_list) (by is_list) (by first | l_ints | l_intsW) (by first | l_ints | l_intsW) (by tb_start) ?_; k_whole); intro _ _ _ _ _ l1q _ _; (try k_lt l1q); (try k_sweep))
  k_with "subscriptTail Name Slice str ref" => ((with_reducible show wpAny _ _ (subscriptTail _ (Expr.Slice none (some _) none _) _ _) _ _ _); (with_reducible rename Fr _ _ _ _ => F'q); (with_reducible rename News _ _ _ _ => N'q); refine slice_strN_ns_len (hsz := (by first | exact Short.fits (by assumption) | (rw [sizeLine_eq]; omega))) (s := ⟨_, _, _, _, _⟩) F'q N'q ?_; intro _ _ _ F'q N'q _; (try k_sweep))
  k_with "subscriptTail Name Slice str ref" => ((with_reducible show wpAny _ _ (subscriptTail _ (Expr.Slice (some _) none none _) _ _) _ _ _); (with_reducible rename Fr _ _ _ _ => F'q); (with_reducible rename News _ _ _ _ => N'q); refine slice_strN_sn_len (hsz := (by first | exact Short.fits (by assumption) | (rw [sizeLine_eq]; omega))) (s := ⟨_, _, _, _, _⟩) F'q N'q ?_; intro _ _ _ F'q N'q _; (try k_sweep))
  k_with "tb_rel" => (intro _ h9q k9q; (simp only [List.forall_mem_cons, List.not_mem_nil, false_implies, implies_true, and_true, ne_eq] at h9q); (try simp only [List.contains_cons, List.contains_nil, Bool.or_false, Bool.or_eq_false_iff, beq_eq_false_iff_ne, ne_eq] at k9q); simp [kstB, h9q, k9q])
  trivial
set_option maxHeartbeats 8000000 in
theorem told0_c {w : World} {p : Program} {loose : List Str} {mean : ExcName → Option Value} {mg mb : Str → Option Value} {dp un : Nat} {gd : Option (List Code)} {cn : Str} {cs : Scope} {a : Addr} {ccd : Value} {cl : List (Str × Addr)} {A₀ : Around} {base h₀ : Heap} {L : Addr} {m : Str → Option Value} {s : Shared} {Q E : Value → Shared → Prop}
    {r : Addr} {ns : List Int} {vr : List Value} {rn : Nat}
    (B : Below A₀ base [] h₀) (F : Fr h₀ L s.heap m) (X : (hd.heap_1 w.params).In h₀) (T : Top p loose mean mg mb h₀) (hk : cs.kind = .function)
    (ho : s.heap.get? r = some (listOf vr.toArray rn)) (hi : IntsAre vr ns) (h0 : ns.head? = some 0) (hgb : AllBare s.gens) (hd : dp + 10 < recursionLimit) (hu : un + 200 < cLine)
    (hret : ∀ l n vs g' h' tk' gs', KtsTurn [L] s.heap g' → g'.StaysIn h' → h'.get? l = some (listOf (List.toArray vs) n) → s.heap.get? l = none → IntsAre vs [6] → AllBare gs' → Q (.ref l) { s with heap := h', toks := tk', gens := gs' }) :
    wpAny (model PySem.Challenge.rw_st0029_01.row.prog w) (ktrTop dp un gd cn cs L a ccd cl []) (call (.ref 104) [.ref r]) Q E s := by
  w_top off
  have B' : Below A₀ h₀ [] h₀ := ⟨B.stack, fun _ _ e => e, trivial⟩
  clear B
  have X₀ := X
  have T₀ := T
  have F₀ := F
  revert X
  k_fill
  intro X
  have hr : s.heap.IsList r vr.toArray := ⟨_, ho, rfl, _, rfl⟩
  refine wpAny_call ?_
  k_dflt cell_enter
  iterate 11 (first | (k_unfold; (try dsimp only)) | walk1 | (dsimp only; walk1))
  refine wpAny_For ?_
  iterate 7 (first | (k_unfold; (try dsimp only)) | walk1 | (dsimp only; walk1))
  (with_reducible rename Fr _ _ _ _ => tF)
  (with_reducible rename News _ _ _ _ => tN)
  rename_i tD _ _ _
  refine gen0_c tF (by k_asm) (by k_asm) (tF.keep _ _ ho) hi h0 (by (try dsimp only [ktrTop]); omega) ?_
  intro ga gG gm' ggs gh gtk gSt gFG gGen gLt gSz gG0 ga0 gaS gBare gS
  dsimp only
  refine wpAny_pyIter_gen gGen ?_
  rename Below (ktrTop dp un gd cn cs L a ccd cl []) h₀ _ s.heap => K₀
  obtain ⟨oa, nm, qn, hoa, hoc, hod, hos⟩ := id gGen
  have X9 := X
  refine codeAny_forLoop (fun k s' => k = 1 ∧ s' = { s with heap := gh, gens := s.gens.push ggs, toks := gtk }) ?_ 1 ⟨rfl, rfl⟩
  rintro k s' ⟨rfl, rfl⟩
  refine wpAny_passesOwn (by passes_own) ?_
  refine own_nextX (X := "ValueError") (gs := ggs) (n := 1) (P := fun n s₀ e s₁ => ∃ h₁ tk, s₁ = { s₀ with heap := h₁, toks := tk } ∧ RaisedSN h₀ _ _ e (.type "ValueError") [(ga, oa)] h₁ ∧ Heap.UpToSlots _ h₁) ?hlim ?hroom gGen ?hgs ?hX (gS _ h₀ _ [(ga, oa)] _ rfl (below_in1 K₀ tF) gFG ?hN) ?hP
  case hlim => exact (TopRead.nolimit (topRead_of T₀)).keeps fun b o e => gSt _ _ (tF.keep _ _ (F₀.keep b o e))
  case hroom => (show dp + 1 < recursionLimit); omega
  case hgs => simp
  case hX => rw [isSubtype_type]; kernel_rfl
  case hN =>
    intro q hq
    rw [List.mem_singleton.mp hq]
    exact ⟨hoa, Nat.ne_of_gt gLt, ga0⟩
  case hP =>
    rintro e s₁ ⟨h₁, tk₁, rfl, R, U⟩
    obtain ⟨Bh, a0, hB, hBG, hl, hfl⟩ := id R
    refine ⟨⟨oa, nm, qn, hfl.1 _ _ (hl (ga, oa) (.head _)).1, hoc, hod, hos⟩, ?_, ?_⟩
    · obtain ⟨oe, ws, hoe, hoec, _⟩ := hfl.first
      exact ⟨oe, hoe, hoec⟩
    · refine caught_SN0 (g₀ := s.heap) R tF K₀ U X₀ T₀ ?D KtsTurn.refl (by k_is) (by boot_by_name) (by decide) ?e1 ?e2 ?e3 ?k
      case e1 => rw [isSubtype_type]; kernel_rfl
      case e2 => rw [isSubtype_type]; kernel_rfl
      case e3 => rw [isSubtype_type]; kernel_rfl
      case D =>
        intro b hb
        obtain ⟨env, he, hf⟩ := List.mem_filterMap.mp hb
        rw [List.mem_singleton.mp he] at hf
        obtain ⟨oL, es, n, hL, hLd, _⟩ := F₀.ns
        obtain rfl : L = b := Option.some.inj hf
        exact ⟨oL, es, n, hL, hLd⟩
      case k =>
        intro h9 g9 T9 F9 N9 K9 X9 P9 D9
        refine wpAny_execs_cons (wpAny_Return_some (wpAny_List_spliced (spliced_more (wpAny_Constant_int (spliced_none ⟨?_, ?_⟩)))))
        · rw [sizeLine_eq]; show 1 ≤ _; omega
        · dsimp only [qk, Ret]
          exact hret h9.objs.size 0 [_] g9 _ _ _ T9 (fun b o e => Heap.get?_push_of_some _ (F9.keep _ _ e)) (Heap.get?_push_size _ rfl) (Heap.get?_none_of_le (Nat.le_of_lt F9.ns.lt)) (.cons _ _ .nil) (setGen_bare (setGen_bare (AllBare.push hgb gBare) rfl) rfl)
end
-- text told3
section
/-- what lies behind a call that may have touched the frames' slots -/
noncomputable def Back (h₀ : Heap) (L : Addr) (h h' : Heap) : Prop := ∀ m news, Fr h₀ L h m → News h₀ L h news → Fr h₀ L h' m ∧ News h₀ L h' news
theorem back_stays {h₀ h h' : Heap} {L : Addr} (st : h.StaysIn h') : Back h₀ L h h' := fun m news F N => by
  obtain ⟨oL, es, ep, hL, hLd, hLk, hLf⟩ := F.ns
  exact ⟨⟨⟨oL, es, ep, st _ _ hL, hLd, hLk, hLf⟩, fun b o e => st b o (F.keep b o e), F.above⟩, fun p hp => ⟨st _ _ (N p hp).1, (N p hp).2⟩⟩
theorem back_turn {h₀ h g' h' : Heap} {L : Addr} (T : KtsTurn [L] h g') (k : g'.StaysIn h') : Back h₀ L h h' := fun m news F N => by
  obtain ⟨oL, es, ep, hL, hLd, hLk, hLf⟩ := F.ns
  obtain ⟨sl, hs⟩ := T.frame L oL hL (.head _)
  refine ⟨⟨⟨_, es, ep, k _ _ hs, hLd, hLk, hLf⟩, fun b o e => k b o (T.other b o (F.keep b o e) fun hm => ?_), F.above⟩, fun p hp => ⟨k _ _ (T.other _ _ (N p hp).1 fun hm => (N p hp).2.1 (List.mem_singleton.mp hm)), (N p hp).2⟩⟩
  rw [List.mem_singleton.mp hm, kts_self F] at e; cases e
theorem behindB {h₀ h h' : Heap} {L l : Addr} {m : Str → Option Value} {news : List (Addr × Obj)} {o : Obj} (F : Fr h₀ L h m) (N : News h₀ L h news) (bk : Back h₀ L h h') (hl : h'.get? l = some o) (hn : h.get? l = none) :
    Fr h₀ L h' m ∧ News h₀ L h' ((l, o) :: news) ∧ GnNe l news := by
  obtain ⟨F', N'⟩ := bk m news F N
  refine ⟨F', fun p hp => ?_, gnNe_of fun p hp q => ?_⟩
  · rcases List.mem_cons.mp hp with rfl | hp
    · refine ⟨hl, fun q => ?_, ?_⟩
      · obtain ⟨oL, _, _, hL, _⟩ := F.ns
        rw [show l = L from q, hL] at hn; cases hn
      · cases q : h₀.get? l with
        | none => rfl
        | some o' => rw [F.keep _ _ q] at hn; cases hn
    · exact N' p hp
  · rw [← q, (N p hp).1] at hn; cases hn
theorem told3_c {w : World} {p : Program} {loose : List Str} {mean : ExcName → Option Value} {mg mb : Str → Option Value} {dp un : Nat} {gd : Option (List Code)} {cn : Str} {cs : Scope} {a : Addr} {ccd : Value} {cl : List (Str × Addr)} {A₀ : Around} {base h₀ : Heap} {L : Addr} {m : Str → Option Value} {s : Shared} {Q E : Value → Shared → Prop}
    {r : Addr} {ns : List Int} {vr : List Value} {rn : Nat}
    (B : Below A₀ base [] h₀) (F : Fr h₀ L s.heap m) (X : (hd.heap_1 w.params).In h₀) (T : Top p loose mean mg mb h₀) (hk : cs.kind = .function)
    (ho : s.heap.get? r = some (listOf vr.toArray rn)) (hi : IntsAre vr ns) (hr : DigRow ns) (hgb : AllBare s.gens) (hd : dp + 10 < recursionLimit) (hu : un + 200 < cLine)
    (hret : ∀ l n vs h' tk' g', Back h₀ L s.heap h' → h'.get? l = some (listOf (List.toArray vs) n) → s.heap.get? l = none → IntsAre vs (dueL ns) → AllBare g' → Q (.ref l) { s with heap := h', toks := tk', gens := g' }) :
    wpAny (model PySem.Challenge.rw_st0029_01.row.prog w) (ktrTop dp un gd cn cs L a ccd cl []) (call (.ref 104) [.ref r]) Q E s := by
  by_cases h0 : ns.head? = some 0
  · refine told0_c B F X T hk ho hi h0 hgb hd hu fun l n vs g' h' tk' gs' T9 k9 e2 e3 e4 e6 => hret l n vs h' tk' gs' (back_turn T9 k9) e2 e3 ?_ e6
    rw [due_refused hr h0]; exact e4
  · refine told_c B F X T hk ho hi ?_ (ok_of hr h0) hgb hd hu fun l n vs ts h' tk' g' e1 e2 e3 e4 e5 e6 => hret l n vs h' tk' g' (back_stays e1) e2 e3 ?_ e6
    · obtain ⟨_, _, _, _, _, _, rfl⟩ := hr; exact Nat.le_refl 3
    · rw [← told_due hr h0 e5]; exact e4
end
-- text lawA
section
theorem set_nonneg {ns : List Int} {i : Nat} {k : Int} (h : ∀ x ∈ ns, 0 ≤ x) (hk : 0 ≤ k) : ∀ x ∈ ns.set i k, 0 ≤ x := fun x hx => by
  rcases List.mem_or_eq_of_mem_set hx with q | q
  · exact h x q
  · rw [q]; exact hk
theorem getD_nonneg {ns : List Int} {i : Nat} (h : ∀ x ∈ ns, 0 ≤ x) : 0 ≤ ns.getD i 0 := by
  rw [List.getD_eq_getElem?_getD]
  cases e : ns[i]? with
  | none => decide
  | some v => exact h v (List.mem_of_getElem? e)
theorem ints_two {vs : List Value} {ns : List Int} (h : IntsAre vs ns) (hl : ns.length = 2) : ∃ a b t u, vs = [.int a t, .int b u] ∧ ns = [a, b] := by
  cases h with
  | nil => cases hl
  | cons a t h => cases h with
    | nil => cases hl
    | cons b u h => cases h with
      | nil => exact ⟨a, b, t, u, rfl, rfl⟩
      | cons _ _ h => simp at hl
theorem reg_lawA_1 : True := by
  k_with_none
  k_with "cell_enter" => (refine' own_def0 ?cek1 ?cek2 ?cek3 ?cek5 ?cekA ?cekF ?cekK ?cek6 ?cek7 ?cek8 ?cek9 ?cekB ?_ ?cec2 ?cec3 ?cec4 ?cec5; (case cekA => exact rfl); (case cekF => exact rfl); (case cekK => assumption); (case cek1 => k_asm); (case cek2 => k_asm); (case cek3 => k_asm); (case cek5 => k_asm); (case cek6 => k_is); (case cek7 => k_is); (case cek8 => ktr_room); (case cek9 => exact BindsTo.of_eq rfl); (case cec5 => decide); (case cekB => exact locs rfl); (case cec2 => exact rfl); (case cec3 => exact rfl); (case cec4 => exact rfl); k_whole; intro _ _ _ Bq9 _ _; (try dsimp only); (try k_lift Bq9); (try k_fold))
  k_with "units_room" => (have hcL9 := cLine_is; (try dsimp only [ktrTop]); simp only [units_in1, units_deeper, Around.mark_units, units_caller]; omega)
  k_with "call builtin:list.index" => (k_here; (with_reducible show wpAny _ _ (call (Value.builtin _) [Value.ref _, Value.int _ _]) _ _ _); k_dflt (refine' own_index (by is_list) (by l_ints) (by tb_start) (by first | assumption | exact any_mem (by assumption)) ?_; k_whole))
  k_with "getMethod ref" => ((with_reducible show wpAny _ _ (getMethod (Value.ref _) (Str.ofString "index") _) _ _ _); k_dflt (refine getMethod_list_of PySem.F.slot_list_index PySem.F.type_list_index (by is_list) (by no_dict) ?_))
  k_with "call builtin:len" => (k_here; (with_reducible show wpAny _ _ (call (Value.builtin "len") [Value.ref _]) _ _ _); k_dflt (refine' own_len (by is_list) (by l_ints) (by tb_start) ?_; k_whole))
  k_with "subscriptTail Name Slice ref ref" => (k_here; (with_reducible show wpAny _ _ (subscriptTail _ (PySem.Expr.Slice _ _ none _) (Value.ref _) (Value.ref _)) _ _ _); k_dflt (refine' own_slice (by k_asm) (by k_asm) (by kmk_list) (by l_ints) (by tb_start) (by kmk_part) (by kmk_part) ?_ (by with_unfolding_all rfl) (by kmk_pure); k_whole); intro _ _ _ _ _ l1q _ _; (try k_lt l1q); (try k_sweep))
  k_with "binaryOp Mult ref int" => (k_here; (with_reducible show wpAny _ _ (binaryOp Operator.Mult (Value.ref _) (Value.int _ _)) _ _ _); k_dflt (refine' own_mul (by k_asm) (by k_asm) (by is_list) (by first | l_ints | l_intsW) (by tb_start) (by tb_start) (by exact mul_small (by tb_start) (by tb_start)) ?_; k_whole); intro _ _ _ _ _ l1q _ _; (try k_lt l1q); (try k_sweep))
  k_with "binaryOp Add ref ref" => (k_here; (with_reducible show wpAny _ _ (binaryOp Operator.Add (Value.ref _) (Value.ref _)) _ _ _); k_dflt (refine' own_add (by k_asm) (by k_asm) (by is_list) (by is_list) (by first | l_ints | l_intsW) (by first | l_ints | l_intsW) (by tb_start) ?_; k_whole); intro _ _ _ _ _ l1q _ _; (try k_lt l1q); (try k_sweep))
  k_with "subscriptTail Name Slice str ref" => ((with_reducible show wpAny _ _ (subscriptTail _ (Expr.Slice none (some _) none _) _ _) _ _ _); (with_reducible rename Fr _ _ _ _ => F'q); (with_reducible rename News _ _ _ _ => N'q); refine slice_strN_ns_len (hsz := (by first | exact Short.fits (by assumption) | (rw [sizeLine_eq]; omega))) (s := ⟨_, _, _, _, _⟩) F'q N'q ?_; intro _ _ _ F'q N'q _; (try k_sweep))
  k_with "subscriptTail Name Slice str ref" => ((with_reducible show wpAny _ _ (subscriptTail _ (Expr.Slice (some _) none none _) _ _) _ _ _); (with_reducible rename Fr _ _ _ _ => F'q); (with_reducible rename News _ _ _ _ => N'q); refine slice_strN_sn_len (hsz := (by first | exact Short.fits (by assumption) | (rw [sizeLine_eq]; omega))) (s := ⟨_, _, _, _, _⟩) F'q N'q ?_; intro _ _ _ F'q N'q _; (try k_sweep))
  k_with "tb_rel" => (intro _ h9q k9q; (simp only [List.forall_mem_cons, List.not_mem_nil, false_implies, implies_true, and_true, ne_eq] at h9q); (try simp only [List.contains_cons, List.contains_nil, Bool.or_false, Bool.or_eq_false_iff, beq_eq_false_iff_ne, ne_eq] at k9q); simp [kstB, h9q, k9q])
  k_with "getItem ref int" => (k_here; k_dflt (refine' own_get (by is_list) (by first | assumption | l_ints) (by omega) (by omega) (by omega) ?_; k_whole); intro _ _ _)
  k_with "setItem ref int" => (k_here; k_dflt (refine' own_set (by k_asm) (by k_asm) (by k_upd) (by first | assumption | l_ints) (by omega) (by omega) (by omega) ?_; k_whole); intro _ _ N'q _ _; (try dsimp only at N'q); (try k_sweep))
  trivial
set_option maxHeartbeats 8000000 in
theorem lawA_c {w : World} {p : Program} {loose : List Str} {mean : ExcName → Option Value} {mg mb : Str → Option Value} {dp un : Nat} {gd : Option (List Code)} {cn : Str} {a : Addr} {ccd : Value} {cl : List (Str × Addr)} {outer : List Env} {A₀ : Around} {base h₀ : Heap} {L : Addr} {s : Shared} {Q : Flow → Shared → Prop}
    {r : Addr} {vr : List Value} {xs : List Int}
    (B : Below A₀ base outer h₀) (F : Fr h₀ L s.heap (fun y => if y = Str.ofString "script" then some (Value.ref r) else none)) (X : (hd.heap_1 w.params).In h₀) (T : Top p loose mean mg mb h₀) (N : News h₀ L s.heap [])
    (hr : h₀.IsList r vr.toArray) (hi : IntsAre vr xs) (hz : xs.length ≤ 63) (hgb : AllBare s.gens) (hd : dp + 10 < recursionLimit) (hu : un + 200 < cLine)
    (hret : ∀ pv t ep T0 T1 u0 u1 h' tk' g', 0 ≤ T0 → 0 ≤ T1 → AllBare g' → Fr h₀ L h' (fun y => if y = Str.ofString "place" then pv else if y = Str.ofString "totals" then some (Value.ref t) else if y = Str.ofString "script" then some (Value.ref r) else none) → News h₀ L h' [(t, listOf #[Value.int T0 u0, Value.int T1 u1] ep)] → Q .next { s with heap := h', toks := tk', gens := g' }) :
    wpAny (model PySem.Challenge.rw_st0029_01.row.prog w) (ktrTop dp un gd cn lawFd.1.2 L a ccd cl outer) (execs secA (envX cn lawFd.1.2 L a ccd cl)) Q (fun _ _ => False) s := by
  w_top off
  revert X
  k_fill
  intro X
  dsimp only [lawFd, secA, List.take_succ_cons, List.take_zero]
  try k_fold
  iterate 12 (first | (k_unfold; (try dsimp only)) | walk1 | (dsimp only; walk1))
  refine wpAny_For ?_
  iterate 21 (first | (k_unfold; (try dsimp only)) | walk1 | (dsimp only; walk1))
  (with_reducible rename Fr _ _ _ _ => tF)
  (with_reducible rename News _ _ _ _ => tN)
  rename IsRange _ _ _ _ _ _ _ _ => rg9
  refine own_rangeG (fun i m₁ nx => ∃ t vs ns ep, nx = [(t, listOf vs.toArray ep)] ∧ IntsAre vs ns ∧ ns.length = 2 ∧ (∀ x ∈ ns, 0 ≤ x) ∧ m₁ (Str.ofString "totals") = some (.ref t) ∧ m₁ (Str.ofString "script") = some (.ref r) ∧ ∀ z, z ≠ Str.ofString "place" → z ≠ Str.ofString "totals" → z ≠ Str.ofString "script" → m₁ z = none) rfl rg9 ?ks (rangeSize_nat _ _) rfl rfl tF tN hgb ?h0 ?turn ?done
  case ks => exact small_one (by omega) (by omega) (by split <;> omega) (by split <;> omega)
  case h0 => exact ⟨_, [_, _], [388705, 424988], _, rfl, .cons _ _ (.cons _ _ .nil), rfl, by decide, rfl, rfl, fun z h1 h2 h3 => by simp [h2, h3]⟩
  case turn =>
    clear tF tN
    rintro i t m₁ nx h tk g own hin hoff ⟨tt, vs, ns, ep, rfl, hI, hl, hns, m1, m2, m3⟩ gb bF bN
    have eF : (fun y => if y = Str.ofString "place" then some (Value.int (0 + (i : Int)) t) else m₁ y) = fun y => if y = Str.ofString "place" then some (Value.int (0 + (i : Int)) t) else if y = Str.ofString "totals" then some (.ref tt) else if y = Str.ofString "script" then some (.ref r) else m₁ y := by
      (funext y9; (repeat (first | rfl | (split; · first | rfl | (rename_i q9; rw [q9]; assumption)))))
    rw [eF] at bF
    have hoff2 := ownOff_of hoff
    dsimp only [List.map] at hoff2
    dsimp only [List.cons_append, List.nil_append] at bN
    have hlt : (i : Int) < (xs.length : Nat) := by split at hin <;> omega
    try k_fold
    k_steps
    refine ⟨_, _, g, _, _, [(tt, _)], rfl, gb, by k_asm, by k_asm, ?_, ?_, tbOff_of hoff2, tt, _, _, ep, rfl, by assumption, by rw [List.length_set]; exact hl, set_nonneg hns (Int.add_nonneg (getD_nonneg hns) (Int.fmod_nonneg_of_pos _ (by decide))), rfl, rfl, fun z h1 h2 h3 => ?_⟩
    · intro p hp; rw [List.mem_singleton.mp hp]; exact .head _
    · intro p hp; exact .tail _ hp
    · simp only [if_neg h1, if_neg h2, if_neg h3]; exact m3 z h1 h2 h3
  case done =>
    clear tF tN
    rintro m₁ nx h tk g ⟨tt, vs, ns, ep, rfl, hI, hl, hns, m1, m2, m3⟩ gb bF bN
    obtain ⟨T0, T1, u0, u1, rfl, rfl⟩ := ints_two hI hl
    have eF : m₁ = fun y => if y = Str.ofString "place" then m₁ (Str.ofString "place") else if y = Str.ofString "totals" then some (.ref tt) else if y = Str.ofString "script" then some (.ref r) else none := by
      funext y
      by_cases q1 : y = Str.ofString "place"
      · rw [if_pos q1, q1]
      · by_cases q2 : y = Str.ofString "totals"
        · rw [if_neg q1, if_pos q2, q2, m1]
        · by_cases q3 : y = Str.ofString "script"
          · rw [if_neg q1, if_neg q2, if_pos q3, q3, m2]
          · rw [if_neg q1, if_neg q2, if_neg q3, m3 y q1 q2 q3]
    rw [eF] at bF
    have h0 := hns T0 (.head _)
    have h1 := hns T1 (.tail _ (.head _))
    try k_fold
    k_steps
    exact hret _ _ _ _ _ _ _ _ _ _ h0 h1 gb bF bN
end
-- text lawB
section
theorem item_tupR {prog : Program} {w : World} {A : Around} {E : Value → Shared → Prop} {s : Shared} {value slice : PySem.Expr} {l : Addr} {vs : List Value} {ns : List Int} {k : Int} {u : Tok} {Q : Value → Shared → Prop} (hl : IsTup s.heap l vs.toArray) (hi : IntsAre vs ns)
    (h0 : 0 ≤ k) (h1 : k < ns.length) (hfit : k < 2 ^ 63) (h : ∀ t, Q (.int (ns.getD k.toNat 0) t) s)
    (hs : subscripted slice false (.ref l) (.int k u) = operate [.ref l, .int k u] (getItem (.ref l) (.int k u)) := by with_unfolding_all rfl) :
    wpAny (model prog w) A (subscriptTail value slice (.ref l) (.int k u)) Q E s := by
  obtain ⟨t, hx⟩ := hi.get k.toNat _ (ints_getD h0 h1)
  exact subscriptTail_builtinR hl.typeIs slot_tuple_getitem.lookup (getItem_tuple (Q := fun r s' => r = _ ∧ Q r s') hl (by omega) hfit (seqIndex_of h0 (by simpa [hi.length] using h1)) (by simpa using hx) ⟨rfl, h t⟩) hs
theorem compEnd_drop {h₀ h' : Heap} {L I C D T : Addr} {m : Str → Option Value} {s₁ : Shared} {oI oC oD oT : Obj} {S : List (Addr × Obj) → Prop} {R : Value → List (Addr × Obj) → Prop} {y : Value} {tk : Nat} {rest : List (Addr × Obj)}
    (F : Fr h₀ L h' m) (N : News h₀ L h' ((T, oT) :: (I, oI) :: (C, oC) :: (D, oD) :: rest)) (off : LCg.Off3 I C D rest) (hS : S rest) (r : R y rest) : LCg.CompEnd h₀ L m s₁ I oI C oC D oD S R y { s₁ with heap := h', toks := tk } :=
  ⟨h', tk, rest, rfl, F, fun p hp => N p (.tail _ hp), off, hS, r⟩
theorem compEnd_same {h₀ h' : Heap} {L I C D : Addr} {m : Str → Option Value} {s₁ : Shared} {oI oC oD : Obj} {S : List (Addr × Obj) → Prop} {R : Value → List (Addr × Obj) → Prop} {y : Value} {tk : Nat} {rest : List (Addr × Obj)}
    (F : Fr h₀ L h' m) (N : News h₀ L h' ((I, oI) :: (C, oC) :: (D, oD) :: rest)) (off : LCg.Off3 I C D rest) (hS : S rest) (r : R y rest) : LCg.CompEnd h₀ L m s₁ I oI C oC D oD S R y { s₁ with heap := h', toks := tk } :=
  ⟨h', tk, rest, rfl, F, fun p hp => N p hp, off, hS, r⟩
theorem ccEnd_of {h₀ h' : Heap} {L I C c D r : Addr} {m : Str → Option Value} {s₁ : Shared} {src : Addr × Obj} {oI oc oR : Obj} {ys : List Value} {Nx : List Value → List (Addr × Obj) → Prop} {tk : Nat} {news : List (Addr × Obj)} {P : Prop}
    (F : Fr h₀ L h' m) (N : News h₀ L h' ((r, oR) :: (I, oI) :: (C, dct0) :: (c, oc) :: (D, LCg.lst ys) :: news)) (off : Off4 I C c D news) (ho : I ≠ r ∧ C ≠ r ∧ c ≠ r ∧ D ≠ r ∧ P) (hs : src ∈ news) (nx : Nx (ys ++ [.ref r]) ((r, oR) :: news)) :
    CcEnd h₀ L m s₁ src I oI C c oc D ys Nx (.ref r) { s₁ with heap := h', toks := tk } := by
  refine ⟨h', tk, (r, oR) :: news, rfl, F, fun p hp => N p ?_, ?_, .tail _ hs, nx⟩
  · rcases List.mem_cons.mp hp with rfl | hp
    · exact .tail _ (.head _)
    · rcases List.mem_cons.mp hp with rfl | hp
      · exact .tail _ (.tail _ (.head _))
      · rcases List.mem_cons.mp hp with rfl | hp
        · exact .tail _ (.tail _ (.tail _ (.head _)))
        · rcases List.mem_cons.mp hp with rfl | hp
          · exact .tail _ (.tail _ (.tail _ (.tail _ (.head _))))
          · rcases List.mem_cons.mp hp with rfl | hp
            · exact .head _
            · exact .tail _ (.tail _ (.tail _ (.tail _ (.tail _ hp))))
  · intro p hp
    rcases List.mem_cons.mp hp with rfl | hp
    · exact ⟨ho.1.symm, ho.2.1.symm, ho.2.2.1.symm, ho.2.2.2.1.symm⟩
    · exact off p hp
noncomputable def digF (T : Int) (k : Nat) : Int := ([1, 2, 3, 4, 5, 0, 127] : List Int).getD ((T.fdiv (7 ^ k)).fmod 7).toNat 0
noncomputable def rowF (T : Int) : List Int := [digF T 0, digF T 1, digF T 2]
theorem row_ints {T d0 d1 d2 : Int} {e0 e1 e2 : Nat} {t0 t1 t2 : Tok} (h0 : ([1, 2, 3, 4, 5, 0, 127] : List Int).getD ((T.fdiv (7 ^ e0)).fmod 7).toNat 0 = d0) (h1 : ([1, 2, 3, 4, 5, 0, 127] : List Int).getD ((T.fdiv (7 ^ e1)).fmod 7).toNat 0 = d1) (h2 : ([1, 2, 3, 4, 5, 0, 127] : List Int).getD ((T.fdiv (7 ^ e2)).fmod 7).toNat 0 = d2)
    (k0 : e0 = 0 := by rfl) (k1 : e1 = 1 := by rfl) (k2 : e2 = 2 := by rfl) : IntsAre [.int d0 t0, .int d1 t1, .int d2 t2] (rowF T) := by
  subst h0 h1 h2 k0 k1 k2
  exact .cons _ _ (.cons _ _ (.cons _ _ .nil))
theorem row_news {h₀ h : Heap} {L r : Addr} {T d0 d1 d2 : Int} {e0 e1 e2 : Nat} {t0 t1 t2 : Tok} {rest : List (Addr × Obj)} (_N : News h₀ L h ((r, LCg.lst [.int d0 t0, .int d1 t1, .int d2 t2]) :: rest))
    (h0 : ([1, 2, 3, 4, 5, 0, 127] : List Int).getD ((T.fdiv (7 ^ e0)).fmod 7).toNat 0 = d0) (h1 : ([1, 2, 3, 4, 5, 0, 127] : List Int).getD ((T.fdiv (7 ^ e1)).fmod 7).toNat 0 = d1) (h2 : ([1, 2, 3, 4, 5, 0, 127] : List Int).getD ((T.fdiv (7 ^ e2)).fmod 7).toNat 0 = d2)
    (k0 : e0 = 0 := by rfl) (k1 : e1 = 1 := by rfl) (k2 : e2 = 2 := by rfl) : ∃ vs : List Value, LCg.lst [.int d0 t0, .int d1 t1, .int d2 t2] = listOf vs.toArray 3 ∧ IntsAre vs (rowF T) := ⟨_, rfl, row_ints h0 h1 h2 k0 k1 k2⟩
theorem reg_lawB_1 : True := by
  k_with_none
  k_with "cell_enter" => (refine' own_def0 ?cek1 ?cek2 ?cek3 ?cek5 ?cekA ?cekF ?cekK ?cek6 ?cek7 ?cek8 ?cek9 ?cekB ?_ ?cec2 ?cec3 ?cec4 ?cec5; (case cekA => exact rfl); (case cekF => exact rfl); (case cekK => assumption); (case cek1 => k_asm); (case cek2 => k_asm); (case cek3 => k_asm); (case cek5 => k_asm); (case cek6 => k_is); (case cek7 => k_is); (case cek8 => ktr_room); (case cek9 => exact BindsTo.of_eq rfl); (case cec5 => decide); (case cekB => exact locs rfl); (case cec2 => exact rfl); (case cec3 => exact rfl); (case cec4 => exact rfl); k_whole; intro _ _ _ Bq9 _ _; (try dsimp only); (try k_lift Bq9); (try k_fold))
  k_with "units_room" => (have hcL9 := cLine_is; (try dsimp only [ktrTop]); simp only [units_in1, units_deeper, Around.mark_units, units_caller]; omega)
  k_with "call builtin:list.index" => (k_here; (with_reducible show wpAny _ _ (call (Value.builtin _) [Value.ref _, Value.int _ _]) _ _ _); k_dflt (refine' own_index (by is_list) (by l_ints) (by tb_start) (by first | assumption | exact any_mem (by assumption)) ?_; k_whole))
  k_with "getMethod ref" => ((with_reducible show wpAny _ _ (getMethod (Value.ref _) (Str.ofString "index") _) _ _ _); k_dflt (refine getMethod_list_of PySem.F.slot_list_index PySem.F.type_list_index (by is_list) (by no_dict) ?_))
  k_with "call builtin:len" => (k_here; (with_reducible show wpAny _ _ (call (Value.builtin "len") [Value.ref _]) _ _ _); k_dflt (refine' own_len (by is_list) (by l_ints) (by tb_start) ?_; k_whole))
  k_with "subscriptTail Name Slice ref ref" => (k_here; (with_reducible show wpAny _ _ (subscriptTail _ (PySem.Expr.Slice _ _ none _) (Value.ref _) (Value.ref _)) _ _ _); k_dflt (refine' own_slice (by k_asm) (by k_asm) (by kmk_list) (by l_ints) (by tb_start) (by kmk_part) (by kmk_part) ?_ (by with_unfolding_all rfl) (by kmk_pure); k_whole); intro _ _ _ _ _ l1q _ _; (try k_lt l1q); (try k_sweep))
  k_with "binaryOp Mult ref int" => (k_here; (with_reducible show wpAny _ _ (binaryOp Operator.Mult (Value.ref _) (Value.int _ _)) _ _ _); k_dflt (refine' own_mul (by k_asm) (by k_asm) (by is_list) (by first | l_ints | l_intsW) (by tb_start) (by tb_start) (by exact mul_small (by tb_start) (by tb_start)) ?_; k_whole); intro _ _ _ _ _ l1q _ _; (try k_lt l1q); (try k_sweep))
  k_with "binaryOp Add ref ref" => (k_here; (with_reducible show wpAny _ _ (binaryOp Operator.Add (Value.ref _) (Value.ref _)) _ _ _); k_dflt (refine' own_add (by k_asm) (by k_asm) (by is_list) (by is_list) (by first | l_ints | l_intsW) (by first | l_ints | l_intsW) (by tb_start) ?_; k_whole); intro _ _ _ _ _ l1q _ _; (try k_lt l1q); (try k_sweep))
  k_with "subscriptTail Name Slice str ref" => ((with_reducible show wpAny _ _ (subscriptTail _ (Expr.Slice none (some _) none _) _ _) _ _ _); (with_reducible rename Fr _ _ _ _ => F'q); (with_reducible rename News _ _ _ _ => N'q); refine slice_strN_ns_len (hsz := (by first | exact Short.fits (by assumption) | (rw [sizeLine_eq]; omega))) (s := ⟨_, _, _, _, _⟩) F'q N'q ?_; intro _ _ _ F'q N'q _; (try k_sweep))
  k_with "subscriptTail Name Slice str ref" => ((with_reducible show wpAny _ _ (subscriptTail _ (Expr.Slice (some _) none none _) _ _) _ _ _); (with_reducible rename Fr _ _ _ _ => F'q); (with_reducible rename News _ _ _ _ => N'q); refine slice_strN_sn_len (hsz := (by first | exact Short.fits (by assumption) | (rw [sizeLine_eq]; omega))) (s := ⟨_, _, _, _, _⟩) F'q N'q ?_; intro _ _ _ F'q N'q _; (try k_sweep))
  k_with "tb_rel" => (intro _ h9q k9q; (simp only [List.forall_mem_cons, List.not_mem_nil, false_implies, implies_true, and_true, ne_eq] at h9q); (try simp only [List.contains_cons, List.contains_nil, Bool.or_false, Bool.or_eq_false_iff, beq_eq_false_iff_ne, ne_eq] at k9q); simp [kstB, h9q, k9q])
  k_with "CompSrc" => (k_here; k_dflt (refine LCg.CompSrc.ledger (by rfl) (by k_asm) (by k_asm) (by k_mem) (by first | size_fits | exact Nat.le_of_ble_eq_true rfl) ?_; intro _; lcg_lit))
  k_with "CompSrc" => (k_here; k_dflt (refine LCg.CompSrc.range (by rfl) (by k_asm) (by k_asm) (by assumption) (by first | decide | rfl) (by first | rfl | decide) (by first | size_fits | exact Nat.le_of_ble_eq_true rfl) ?_; intro _; lcg_lit))
  k_with "CompEnd" => ((with_reducible rename News _ _ _ _ => N9); (with_reducible rename Fr _ _ _ _ => F9); (with_reducible rename ((_ ≠ _ ∧ _ ≠ _ ∧ _ ≠ _) ∧ _) => O9); first | refine compEnd_drop F9 N9 (by simp only [LCg.Off3, and_true]; exact O9) trivial ?_ | refine compEnd_same F9 N9 (by simp only [LCg.Off3, and_true]; exact O9) ?_ ?_; exact .inr ⟨_, by k_mem, rfl, _, rfl⟩)
  k_with "subscriptTail" => (k_here; (with_reducible show wpAny _ _ (subscriptTail (PySem.Expr.Tuple _ _ _) _ (Value.ref _) (Value.int _ _)) _ _ _); k_dflt (refine' item_tupR (vs := [_, _, _, _, _, _, _]) (ns := [1, 2, 3, 4, 5, 0, 127]) (by exact News.isTup (by k_asm) (by k_mem)) (by exact .cons _ _ (.cons _ _ (.cons _ _ (.cons _ _ (.cons _ _ (.cons _ _ (.cons _ _ .nil))))))) (by exact Int.fmod_nonneg_of_pos _ (by decide)) (by exact Int.fmod_lt_of_pos _ (by decide)) (by exact Int.lt_trans (Int.fmod_lt_of_pos _ (by decide)) (by decide)) ?_; k_whole); intro _; (generalize gv' : ([1, 2, 3, 4, 5, 0, 127] : List Int).getD _ 0 = dv'))
  k_with "call ref" => (k_dflt (show wpAny _ _ (call (Value.ref 97) []) _ _ _); k_dflt (refine' names_c (by k_asm) (by k_asm) (by k_asm) (by k_asm) (by rfl) (by (try dsimp only [ktrTop]); omega) (by (try dsimp only [ktrTop]); omega) ?_); intro _ _ _ _ _ st'q nm1q nm2q _; k_dflt (obtain ⟨_, _, _⟩ := behind1 (by k_asm) (by k_asm) st'q nm1q nm2q); clear st'q nm1q nm2q; (try k_sweep))
  trivial
set_option maxHeartbeats 8000000 in
theorem lawB_c {w : World} {p : Program} {loose : List Str} {mean : ExcName → Option Value} {mg mb : Str → Option Value} {dp un : Nat} {gd : Option (List Code)} {cn : Str} {a : Addr} {ccd : Value} {cl : List (Str × Addr)} {outer : List Env} {A₀ : Around} {base h₀ : Heap} {L : Addr} {s : Shared} {Q : Flow → Shared → Prop}
    {r t : Addr} {T0 T1 : Int} {u0 u1 : Tok} {ep : Nat} {pv : Option Value}
    (B : Below A₀ base outer h₀) (F : Fr h₀ L s.heap (fun y => if y = Str.ofString "place" then pv else if y = Str.ofString "totals" then some (Value.ref t) else if y = Str.ofString "script" then some (Value.ref r) else none)) (X : (hd.heap_1 w.params).In h₀) (T : Top p loose mean mg mb h₀) (N : News h₀ L s.heap [(t, listOf #[Value.int T0 u0, Value.int T1 u1] ep)])
    (hT0 : 0 ≤ T0) (hT1 : 0 ≤ T1) (hd : dp + 20 < recursionLimit) (hu : un + 300 < cLine)
    (hret : ∀ nm nmn nmv R r0 r1 rv0 rv1 h' tk', StrsAre nmv NAMES → IntsAre rv0 (rowF T0) → IntsAre rv1 (rowF T1) → @Ne Nat r1 R ∧ @Ne Nat r0 R ∧ @Ne Nat nm R ∧ @Ne Nat t R →
      Fr h₀ L h' (fun y => if y = Str.ofString "rows" then some (Value.ref R) else if y = Str.ofString "names" then some (Value.ref nm) else if y = Str.ofString "place" then pv else if y = Str.ofString "totals" then some (Value.ref t) else if y = Str.ofString "script" then some (Value.ref r) else none) →
      News h₀ L h' [(R, listOf #[Value.ref r0, Value.ref r1] 2), (r1, listOf rv1.toArray 3), (r0, listOf rv0.toArray 3), (nm, listOf nmv.toArray nmn), (t, listOf #[Value.int T0 u0, Value.int T1 u1] ep)] → Q .next { s with heap := h', toks := tk' }) :
    wpAny (model PySem.Challenge.rw_st0029_01.row.prog w) (ktrTop dp un gd cn lawFd.1.2 L a ccd cl outer) (execs secB (envX cn lawFd.1.2 L a ccd cl)) Q (fun _ _ => False) s := by
  w_top off
  revert X
  k_fill
  intro X
  simp only [lawFd, secB, List.drop_succ_cons, List.drop_zero, List.take_succ_cons, List.take_zero]
  try k_fold
  k_steps
  (with_reducible rename Fr _ _ _ _ => tF)
  (with_reducible rename News _ _ _ _ => tN)
  refine own_compCell (its := [Value.int T0 u0, Value.int T1 u1]) (ep := ep) (ax := t) rfl tF tN (by k_mem) rfl (by simp) rfl rfl (by decide) (by with_unfolding_all rfl) (by with_unfolding_all rfl) rfl rfl (by decide) rfl rfl rfl rfl ?turns
  clear tF tN
  intro s₁ e1 e2 e3
  simp only [CcRest, CcTurn]
  intro I oI C c oc D h tk E' dC bF bN bO bd
  try k_fold
  k_steps
  (with_reducible rename News _ _ _ _ => rN)
  (with_reducible rename Fr _ _ _ _ => rF)
  (rename (I ≠ _ ∧ C ≠ _ ∧ c ≠ _ ∧ D ≠ _ ∧ _) => rO)
  obtain ⟨rv, ev, rI⟩ := row_news rN (by assumption) (by assumption) (by assumption)
  rw [ev] at rN
  refine ccEnd_of rF rN bO rO (by k_mem) ?_
  clear rF rN bO bd rO ev dC
  (try clear bF)
  (try clear bN)
  intro I oI C c oc D h tk E' dC bF bN bO bd
  try k_fold
  k_steps
  (with_reducible rename News _ _ _ _ => rN)
  (with_reducible rename Fr _ _ _ _ => rF)
  (rename (I ≠ _ ∧ C ≠ _ ∧ c ≠ _ ∧ D ≠ _ ∧ _) => rO)
  obtain ⟨rv1, ev, rI1⟩ := row_news rN (by assumption) (by assumption) (by assumption)
  rw [ev] at rN
  refine ccEnd_of rF rN bO rO (by k_mem) ?_
  clear rF rN bO bd rO ev dC
  (try clear bF)
  (try clear bN)
  intro D h tk bF bN bO
  simp only [List.forall_mem_cons, List.not_mem_nil, false_implies, implies_true, and_true] at bO
  dsimp only [List.nil_append, List.cons_append] at bN
  try k_fold
  k_steps
  dsimp only at e1 e2 e3
  rw [e1, e2, e3]
  exact hret _ _ _ _ _ _ _ _ _ _ (by assumption) rI rI1 bO bF bN
end
-- text lawB2
section
theorem reg_lawB2_1 : True := by
  k_with_none
  k_with "cell_enter" => (refine' own_def0 ?cek1 ?cek2 ?cek3 ?cek5 ?cekA ?cekF ?cekK ?cek6 ?cek7 ?cek8 ?cek9 ?cekB ?_ ?cec2 ?cec3 ?cec4 ?cec5; (case cekA => exact rfl); (case cekF => exact rfl); (case cekK => assumption); (case cek1 => k_asm); (case cek2 => k_asm); (case cek3 => k_asm); (case cek5 => k_asm); (case cek6 => k_is); (case cek7 => k_is); (case cek8 => ktr_room); (case cek9 => exact BindsTo.of_eq rfl); (case cec5 => decide); (case cekB => exact locs rfl); (case cec2 => exact rfl); (case cec3 => exact rfl); (case cec4 => exact rfl); k_whole; intro _ _ _ Bq9 _ _; (try dsimp only); (try k_lift Bq9); (try k_fold))
  k_with "units_room" => (have hcL9 := cLine_is; (try dsimp only [ktrTop]); simp only [units_in1, units_deeper, Around.mark_units, units_caller]; omega)
  k_with "call builtin:list.index" => (k_here; (with_reducible show wpAny _ _ (call (Value.builtin _) [Value.ref _, Value.int _ _]) _ _ _); k_dflt (refine' own_index (by is_list) (by l_ints) (by tb_start) (by first | assumption | exact any_mem (by assumption)) ?_; k_whole))
  k_with "getMethod ref" => ((with_reducible show wpAny _ _ (getMethod (Value.ref _) (Str.ofString "index") _) _ _ _); k_dflt (refine getMethod_list_of PySem.F.slot_list_index PySem.F.type_list_index (by is_list) (by no_dict) ?_))
  k_with "call builtin:len" => (k_here; (with_reducible show wpAny _ _ (call (Value.builtin "len") [Value.ref _]) _ _ _); k_dflt (refine' own_len (by is_list) (by l_ints) (by tb_start) ?_; k_whole))
  k_with "subscriptTail Name Slice ref ref" => (k_here; (with_reducible show wpAny _ _ (subscriptTail _ (PySem.Expr.Slice _ _ none _) (Value.ref _) (Value.ref _)) _ _ _); k_dflt (refine' own_slice (by k_asm) (by k_asm) (by kmk_list) (by l_ints) (by tb_start) (by kmk_part) (by kmk_part) ?_ (by with_unfolding_all rfl) (by kmk_pure); k_whole); intro _ _ _ _ _ l1q _ _; (try k_lt l1q); (try k_sweep))
  k_with "binaryOp Mult ref int" => (k_here; (with_reducible show wpAny _ _ (binaryOp Operator.Mult (Value.ref _) (Value.int _ _)) _ _ _); k_dflt (refine' own_mul (by k_asm) (by k_asm) (by is_list) (by first | l_ints | l_intsW) (by tb_start) (by tb_start) (by exact mul_small (by tb_start) (by tb_start)) ?_; k_whole); intro _ _ _ _ _ l1q _ _; (try k_lt l1q); (try k_sweep))
  k_with "binaryOp Add ref ref" => (k_here; (with_reducible show wpAny _ _ (binaryOp Operator.Add (Value.ref _) (Value.ref _)) _ _ _); k_dflt (refine' own_add (by k_asm) (by k_asm) (by is_list) (by is_list) (by first | l_ints | l_intsW) (by first | l_ints | l_intsW) (by tb_start) ?_; k_whole); intro _ _ _ _ _ l1q _ _; (try k_lt l1q); (try k_sweep))
  k_with "subscriptTail Name Slice str ref" => ((with_reducible show wpAny _ _ (subscriptTail _ (Expr.Slice none (some _) none _) _ _) _ _ _); (with_reducible rename Fr _ _ _ _ => F'q); (with_reducible rename News _ _ _ _ => N'q); refine slice_strN_ns_len (hsz := (by first | exact Short.fits (by assumption) | (rw [sizeLine_eq]; omega))) (s := ⟨_, _, _, _, _⟩) F'q N'q ?_; intro _ _ _ F'q N'q _; (try k_sweep))
  k_with "subscriptTail Name Slice str ref" => ((with_reducible show wpAny _ _ (subscriptTail _ (Expr.Slice (some _) none none _) _ _) _ _ _); (with_reducible rename Fr _ _ _ _ => F'q); (with_reducible rename News _ _ _ _ => N'q); refine slice_strN_sn_len (hsz := (by first | exact Short.fits (by assumption) | (rw [sizeLine_eq]; omega))) (s := ⟨_, _, _, _, _⟩) F'q N'q ?_; intro _ _ _ F'q N'q _; (try k_sweep))
  k_with "tb_rel" => (intro _ h9q k9q; (simp only [List.forall_mem_cons, List.not_mem_nil, false_implies, implies_true, and_true, ne_eq] at h9q); (try simp only [List.contains_cons, List.contains_nil, Bool.or_false, Bool.or_eq_false_iff, beq_eq_false_iff_ne, ne_eq] at k9q); simp [kstB, h9q, k9q])
  k_with "CompSrc" => (k_here; k_dflt (refine LCg.CompSrc.ledger (by rfl) (by k_asm) (by k_asm) (by k_mem) (by first | size_fits | exact Nat.le_of_ble_eq_true rfl) ?_; intro _; lcg_lit))
  k_with "CompEnd" => ((with_reducible rename News _ _ _ _ => N9); (with_reducible rename Fr _ _ _ _ => F9); (with_reducible rename ((_ ≠ _ ∧ _ ≠ _ ∧ _ ≠ _) ∧ _) => O9); refine compEnd_same F9 N9 (by simp only [LCg.Off3, and_true]; exact O9) ?_ ?_; exact .inr ⟨_, by k_mem, rfl, _, rfl⟩)
  trivial
set_option maxHeartbeats 8000000 in
theorem lawB2_c {w : World} {p : Program} {loose : List Str} {mean : ExcName → Option Value} {mg mb : Str → Option Value} {dp un : Nat} {gd : Option (List Code)} {cn : Str} {a : Addr} {ccd : Value} {cl : List (Str × Addr)} {outer : List Env} {A₀ : Around} {base h₀ : Heap} {L : Addr} {s : Shared} {Q : Flow → Shared → Prop}
    {r t nm R r0 r1 : Addr} {T0 T1 : Int} {u0 u1 : Tok} {ep nmn : Nat} {pv : Option Value} {nmv rv0 rv1 : List Value}
    (B : Below A₀ base outer h₀) (F : Fr h₀ L s.heap (fun y => if y = Str.ofString "rows" then some (Value.ref R) else if y = Str.ofString "names" then some (Value.ref nm) else if y = Str.ofString "place" then pv else if y = Str.ofString "totals" then some (Value.ref t) else if y = Str.ofString "script" then some (Value.ref r) else none)) (X : (hd.heap_1 w.params).In h₀) (T : Top p loose mean mg mb h₀)
    (N : News h₀ L s.heap [(R, listOf #[Value.ref r0, Value.ref r1] 2), (r1, listOf rv1.toArray 3), (r0, listOf rv0.toArray 3), (nm, listOf nmv.toArray nmn), (t, listOf #[Value.int T0 u0, Value.int T1 u1] ep)])
    (hne : @Ne Nat r1 R ∧ @Ne Nat r0 R ∧ @Ne Nat nm R ∧ @Ne Nat t R) (hI0 : IntsAre rv0 (rowF T0)) (hI1 : IntsAre rv1 (rowF T1))
    (hT0 : 0 ≤ T0) (hT1 : 0 ≤ T1) (hd : dp + 20 < recursionLimit) (hu : un + 300 < cLine)
    (hret : ∀ bh v1 v2 v3 h' tk', @Ne Nat R bh ∧ @Ne Nat r1 bh ∧ @Ne Nat r0 bh ∧ @Ne Nat nm bh ∧ @Ne Nat t bh →
      Fr h₀ L h' (fun y => if y = Str.ofString "mode" then some (Value.int ((T0 + T1).fmod 3) v1) else if y = Str.ofString "behind" then some (Value.ref bh) else if y = Str.ofString "rows" then some (Value.ref R) else if y = Str.ofString "names" then some (Value.ref nm) else if y = Str.ofString "place" then pv else if y = Str.ofString "totals" then some (Value.ref t) else if y = Str.ofString "script" then some (Value.ref r) else none) →
      News h₀ L h' [(bh, listOf #[Value.int ((T0.fdiv 1372).fmod 7) v2, Value.int ((T1.fdiv 1372).fmod 7) v3] 2), (R, listOf #[Value.ref r0, Value.ref r1] 2), (r1, listOf rv1.toArray 3), (r0, listOf rv0.toArray 3), (nm, listOf nmv.toArray nmn), (t, listOf #[Value.int T0 u0, Value.int T1 u1] ep)] → Q .next { s with heap := h', toks := tk' }) :
    wpAny (model PySem.Challenge.rw_st0029_01.row.prog w) (ktrTop dp un gd cn lawFd.1.2 L a ccd cl outer) (execs secB2 (envX cn lawFd.1.2 L a ccd cl)) Q (fun _ _ => False) s := by
  w_top off
  revert X
  k_fill
  intro X
  simp only [lawFd, secB2, List.drop_succ_cons, List.drop_zero, List.take_succ_cons, List.take_zero]
  try k_fold
  k_steps
  (with_reducible rename News _ _ _ _ => rN)
  (with_reducible rename Fr _ _ _ _ => rF)
  (rename (R ≠ _ ∧ r1 ≠ _ ∧ _ ≠ _ ∧ _) => rO)
  rw [Int.add_zero] at rF
  exact hret _ _ _ _ _ _ rO rF rN
end
-- text lawB3
section
theorem own_setV {prog : Program} {w : World} {A : Around} {E : Value → Shared → Prop} {s : Shared} {h₀ : Heap} {L D : Addr} {m : Str → Option Value} {news news' : List (Addr × Obj)} {vs vs' : List Value} {n : Nat} {i : Int} {v : Value} {t : Tok} {Q : Unit → Shared → Prop} (F : Fr h₀ L s.heap m) (N : News h₀ L s.heap news) (e : vs.set i.toNat v = vs') (U : Upd D (listOf vs.toArray n) (listOf vs'.toArray n) news news') (h0 : 0 ≤ i) (h1 : i < (vs.length : Nat)) (hb : vs.length ≤ 1000000)
    (h : ∀ h', Fr h₀ L h' m → News h₀ L h' news' → Q () { s with heap := h' }) :
    wpAny (model prog w) A (setItem (.ref D) (.int i t) v) Q E s := by
  subst e
  obtain ⟨pre, post, rfl, rfl, a, b'⟩ := U.split
  have z := N (D, listOf vs.toArray n) (List.mem_append.mpr (.inr (.head _)))
  have hs : vs.toArray.size = vs.length := List.size_toArray
  refine ki_setAt z.1 h0 (by omega) (by omega) (h _ (F.change (Heap.SameBut.update ..) z.2.1 z.2.2) (ki_turn _ N a b' ?_ ?_))
  · show vs.toArray.setIfInBounds i.toNat v = (vs.set i.toNat v).toArray
    apply Array.toList_inj.mp
    simp
  · simp
section
variable {prog : Program} {w : World} {A : Around} {E : Value → Shared → Prop} {s : Shared} {h₀ : Heap} {L : Addr} {m : Str → Option Value} {news : List (Addr × Obj)}
theorem sub_opsR {value slice : PySem.Expr} {o i : Value} {T id : String} {ops : List Value} {Q : Value → Shared → Prop} (hT : s.TypeIs o T)
    (hl : typeLookup (.type T) "__getitem__" = pure (some (.builtin id))) (h : wpAny (model prog w) A (getItem o i) Q E s)
    (hs : subscripted slice false o i = operate ops (getItem o i)) : wpAny (model prog w) A (subscriptTail value slice o i) Q E s := by
  unfold subscriptTail
  refine wpAny_bind ?_
  rw [getitemInPython_of_ne hT.not_modules]
  refine wpAny_bind (wpAny_specialOf hT hl ?_)
  have fin : wpAny (model prog w) A (subscripted slice false o i) (fun r s₃ => wpAny (model prog w) A (letTemporaryGo value o r >>= fun _ => pure r) Q E s₃) E s := by
    rw [hs]
    exact wpAny_operating (wpAny_mono h (fun r s₃ h₃ => wpAny_bind (wpAny_letTemporaryGo (wpAny_pure h₃))) fun _ _ x => x)
  first
    | exact wpAny_pure (wpAny_bind fin)
    | exact wpAny_bind (wpAny_pure (wpAny_bind fin))
    | exact wpAny_bind fin
/-- xs[::-1], whatever stands ahead of it -/
theorem own_rev {value slice : PySem.Expr} {l : Addr} {vs : List Value} {ns : List Int} {vk : Value} {ops : List Value} {Q : Value → Shared → Prop} (F : Fr h₀ L s.heap m) (N : News h₀ L s.heap news) (hl : s.heap.IsList l vs.toArray) (pk : IsPart vk (some (-1))) (hi : IntsAre vs ns) (hb : ns.length ≤ 1000)
    (h : ∀ D ws h', Fr h₀ L h' m → News h₀ L h' ((D, listOf (List.toArray ws) 0) :: news) → (∀ p ∈ news, p.1 < D) → IntsAre ws ns.reverse → Q (.ref D) { s with heap := h' })
    (hs : subscripted slice false (.ref l) (.ref s.heap.objs.size) = operate ops (getItem (.ref l) (.ref s.heap.objs.size))) :
    wpAny (model prog w) A (subscriptTail value slice (.ref l) (.ref s.heap.objs.size)) Q E { s with heap := s.heap.push { cls := .type "slice", data := .fields #[.none, .none, vk] } } := by
  refine sub_opsR (Heap.IsList.typeIs (s := { s with heap := s.heap.push { cls := .type "slice", data := .fields #[.none, .none, vk] } }) (hl.push _)) list_getitem_lookup
    (wpAny_getItem_list_slice (hl.push _) (Heap.IsSliceOf.new ..) .none .none pk (by decide) ?_ (by rw [List.size_toArray, hi.length, sizeLine_eq]; omega)) hs
  have N1 := News.push (F.push { cls := .type "slice", data := .fields #[.none, .none, vk] }) (N.grown fun _ _ e => Heap.get?_push_of_some _ e) { cls := .type "list", data := .seq (slicePick vs.toArray none none (some (-1))) }
  rw [Heap.size_push] at N1
  show Q (.ref (s.heap.push _).objs.size) _
  rw [Heap.size_push]
  rw [krv_pick] at N1 ⊢
  exact h _ vs.reverse _ ((F.push _).push _) N1 (fun p hp => Nat.lt_succ_of_lt (Heap.lt_size (N p hp).1)) hi.reverse
end
theorem reg_lawB3_1 : True := by
  k_with_none
  k_with "cell_enter" => (refine' own_def0 ?cek1 ?cek2 ?cek3 ?cek5 ?cekA ?cekF ?cekK ?cek6 ?cek7 ?cek8 ?cek9 ?cekB ?_ ?cec2 ?cec3 ?cec4 ?cec5; (case cekA => exact rfl); (case cekF => exact rfl); (case cekK => assumption); (case cek1 => k_asm); (case cek2 => k_asm); (case cek3 => k_asm); (case cek5 => k_asm); (case cek6 => k_is); (case cek7 => k_is); (case cek8 => ktr_room); (case cek9 => exact BindsTo.of_eq rfl); (case cec5 => decide); (case cekB => exact locs rfl); (case cec2 => exact rfl); (case cec3 => exact rfl); (case cec4 => exact rfl); k_whole; intro _ _ _ Bq9 _ _; (try dsimp only); (try k_lift Bq9); (try k_fold))
  k_with "units_room" => (have hcL9 := cLine_is; (try dsimp only [ktrTop]); simp only [units_in1, units_deeper, Around.mark_units, units_caller]; omega)
  k_with "call builtin:list.index" => (k_here; (with_reducible show wpAny _ _ (call (Value.builtin _) [Value.ref _, Value.int _ _]) _ _ _); k_dflt (refine' own_index (by is_list) (by l_ints) (by tb_start) (by first | assumption | exact any_mem (by assumption)) ?_; k_whole))
  k_with "getMethod ref" => ((with_reducible show wpAny _ _ (getMethod (Value.ref _) (Str.ofString "index") _) _ _ _); k_dflt (refine getMethod_list_of PySem.F.slot_list_index PySem.F.type_list_index (by is_list) (by no_dict) ?_))
  k_with "call builtin:len" => (k_here; (with_reducible show wpAny _ _ (call (Value.builtin "len") [Value.ref _]) _ _ _); k_dflt (refine' own_len (by is_list) (by l_ints) (by tb_start) ?_; k_whole))
  k_with "subscriptTail Name Slice ref ref" => (k_here; (with_reducible show wpAny _ _ (subscriptTail _ (PySem.Expr.Slice _ _ none _) (Value.ref _) (Value.ref _)) _ _ _); k_dflt (refine' own_slice (by k_asm) (by k_asm) (by kmk_list) (by l_ints) (by tb_start) (by kmk_part) (by kmk_part) ?_ (by with_unfolding_all rfl) (by kmk_pure); k_whole); intro _ _ _ _ _ l1q _ _; (try k_lt l1q); (try k_sweep))
  k_with "binaryOp Mult ref int" => (k_here; (with_reducible show wpAny _ _ (binaryOp Operator.Mult (Value.ref _) (Value.int _ _)) _ _ _); k_dflt (refine' own_mul (by k_asm) (by k_asm) (by is_list) (by first | l_ints | l_intsW) (by tb_start) (by tb_start) (by exact mul_small (by tb_start) (by tb_start)) ?_; k_whole); intro _ _ _ _ _ l1q _ _; (try k_lt l1q); (try k_sweep))
  k_with "binaryOp Add ref ref" => (k_here; (with_reducible show wpAny _ _ (binaryOp Operator.Add (Value.ref _) (Value.ref _)) _ _ _); k_dflt (refine' own_add (by k_asm) (by k_asm) (by is_list) (by is_list) (by first | l_ints | l_intsW) (by first | l_ints | l_intsW) (by tb_start) ?_; k_whole); intro _ _ _ _ _ l1q _ _; (try k_lt l1q); (try k_sweep))
  k_with "subscriptTail Name Slice str ref" => ((with_reducible show wpAny _ _ (subscriptTail _ (Expr.Slice none (some _) none _) _ _) _ _ _); (with_reducible rename Fr _ _ _ _ => F'q); (with_reducible rename News _ _ _ _ => N'q); refine slice_strN_ns_len (hsz := (by first | exact Short.fits (by assumption) | (rw [sizeLine_eq]; omega))) (s := ⟨_, _, _, _, _⟩) F'q N'q ?_; intro _ _ _ F'q N'q _; (try k_sweep))
  k_with "subscriptTail Name Slice str ref" => ((with_reducible show wpAny _ _ (subscriptTail _ (Expr.Slice (some _) none none _) _ _) _ _ _); (with_reducible rename Fr _ _ _ _ => F'q); (with_reducible rename News _ _ _ _ => N'q); refine slice_strN_sn_len (hsz := (by first | exact Short.fits (by assumption) | (rw [sizeLine_eq]; omega))) (s := ⟨_, _, _, _, _⟩) F'q N'q ?_; intro _ _ _ F'q N'q _; (try k_sweep))
  k_with "tb_rel" => (intro _ h9q k9q; (simp only [List.forall_mem_cons, List.not_mem_nil, false_implies, implies_true, and_true, ne_eq] at h9q); (try simp only [List.contains_cons, List.contains_nil, Bool.or_false, Bool.or_eq_false_iff, beq_eq_false_iff_ne, ne_eq] at k9q); simp [kstB, h9q, k9q])
  k_with "setItem ref int ref" => (k_here; k_dflt (refine' own_setV (vs := [_, _]) (vs' := [_, _]) (by k_asm) (by k_asm) (by rfl) (by k_upd) (by decide) (by (simp only [List.length_cons, List.length_nil]; omega)) (by (simp only [List.length_cons, List.length_nil]; omega)) ?_; k_whole); intro _ _ _; (try k_sweep))
  k_with "subscriptTail" => (k_here; (with_reducible show wpAny _ _ (subscriptTail (PySem.Expr.Subscript _ _ _) (PySem.Expr.Slice none none (some _) _) (Value.ref _) (Value.ref _)) _ _ _); k_dflt (refine' own_rev (by k_asm) (by k_asm) (by is_list) (by exact IsPart.int _ _) (by assumption) (by (show (3 : Nat) ≤ 1000); decide) ?_ (by with_unfolding_all rfl)); intro _ _ _ _ _ l1q _; (try k_lt l1q); (try k_sweep))
  trivial
set_option maxHeartbeats 8000000 in
theorem lawB3_c {w : World} {p : Program} {loose : List Str} {mean : ExcName → Option Value} {mg mb : Str → Option Value} {dp un : Nat} {gd : Option (List Code)} {cn : Str} {a : Addr} {ccd : Value} {cl : List (Str × Addr)} {outer : List Env} {A₀ : Around} {base h₀ : Heap} {L : Addr} {s : Shared} {Q : Flow → Shared → Prop}
    {r t nm R r0 r1 bh : Addr} {md B0 B1 : Int} {v1 v2 v3 : Tok} {nmn ep : Nat} {pv : Option Value} {nmv rv0 rv1 : List Value} {ns0 ns1 : List Int} {oT : Obj}
    (B : Below A₀ base outer h₀) (F : Fr h₀ L s.heap (fun y => if y = Str.ofString "mode" then some (Value.int md v1) else if y = Str.ofString "behind" then some (Value.ref bh) else if y = Str.ofString "rows" then some (Value.ref R) else if y = Str.ofString "names" then some (Value.ref nm) else if y = Str.ofString "place" then pv else if y = Str.ofString "totals" then some (Value.ref t) else if y = Str.ofString "script" then some (Value.ref r) else none)) (X : (hd.heap_1 w.params).In h₀) (T : Top p loose mean mg mb h₀)
    (N : News h₀ L s.heap [(bh, listOf #[Value.int B0 v2, Value.int B1 v3] 2), (R, listOf #[Value.ref r0, Value.ref r1] 2), (r1, listOf rv1.toArray 3), (r0, listOf rv0.toArray 3), (nm, listOf nmv.toArray nmn), (t, oT)])
    (hne : @Ne Nat r1 R ∧ @Ne Nat r0 R ∧ @Ne Nat nm R ∧ @Ne Nat t R) (hne2 : @Ne Nat R bh ∧ @Ne Nat r1 bh ∧ @Ne Nat r0 bh ∧ @Ne Nat nm bh ∧ @Ne Nat t bh) (hI0 : IntsAre rv0 ns0) (hI1 : IntsAre rv1 ns1) (hl0 : ns0.length = 3)
    (hd : dp + 20 < recursionLimit) (hu : un + 300 < cLine)
    (hret : ∀ r1' k1 rv1' v3' h' tk', IntsAre rv1' (if 0 < md then ns0.reverse else ns1) →
      Fr h₀ L h' (fun y => if y = Str.ofString "mode" then some (Value.int md v1) else if y = Str.ofString "behind" then some (Value.ref bh) else if y = Str.ofString "rows" then some (Value.ref R) else if y = Str.ofString "names" then some (Value.ref nm) else if y = Str.ofString "place" then pv else if y = Str.ofString "totals" then some (Value.ref t) else if y = Str.ofString "script" then some (Value.ref r) else none) →
      News h₀ L h' [(bh, listOf #[Value.int B0 v2, Value.int (if md = 2 then B0 else B1) v3'] 2), (R, listOf #[Value.ref r0, Value.ref r1'] 2), (r1', listOf rv1'.toArray k1), (r0, listOf rv0.toArray 3), (nm, listOf nmv.toArray nmn), (t, oT)] → Q .next { s with heap := h', toks := tk' }) :
    wpAny (model PySem.Challenge.rw_st0029_01.row.prog w) (ktrTop dp un gd cn lawFd.1.2 L a ccd cl outer) (execs secB3 (envX cn lawFd.1.2 L a ccd cl)) Q (fun _ _ => False) s := by
  w_top off
  revert X
  k_fill
  intro X
  obtain ⟨n1, n2, n3, n4⟩ := hne
  obtain ⟨n5, n6, n7, n8, n9⟩ := hne2
  simp only [lawFd, secB3, List.drop_succ_cons, List.drop_zero, List.take_succ_cons, List.take_zero]
  try k_fold
  k_steps
  all_goals (with_reducible rename News _ _ _ _ => rN)
  all_goals (with_reducible rename Fr _ _ _ _ => rF)
  · refine' hret _ _ _ _ _ _ ?i rF ?n
    case i => rw [if_pos (by assumption)]; assumption
    case n => rw [if_pos (by assumption)]; (unfold News; (repeat' (first | exact List.forall_mem_nil _ | refine List.forall_mem_cons.mpr ⟨rN _ (by k_mem), ?_⟩)))
  · refine' hret _ _ _ _ _ _ ?i rF ?n
    case i => rw [if_pos (by assumption)]; assumption
    case n => rw [if_neg (by assumption)]; (unfold News; (repeat' (first | exact List.forall_mem_nil _ | refine List.forall_mem_cons.mpr ⟨rN _ (by k_mem), ?_⟩)))
  · exfalso; omega
  · refine' hret _ _ _ _ _ _ ?i rF ?n
    case i => rw [if_neg (by assumption)]; assumption
    case n => rw [if_neg (by assumption)]; (unfold News; (repeat' (first | exact List.forall_mem_nil _ | refine List.forall_mem_cons.mpr ⟨rN _ (by k_mem), ?_⟩)))
end
-- text pl1
section
theorem reg_pl1_1 : True := by
  k_with_none
  k_with "cell_enter" => (refine' own_def0 ?cek1 ?cek2 ?cek3 ?cek5 ?cekA ?cekF ?cekK ?cek6 ?cek7 ?cek8 ?cek9 ?cekB ?_ ?cec2 ?cec3 ?cec4 ?cec5; (case cekA => exact rfl); (case cekF => exact rfl); (case cekK => assumption); (case cek1 => k_asm); (case cek2 => k_asm); (case cek3 => k_asm); (case cek5 => k_asm); (case cek6 => k_is); (case cek7 => k_is); (case cek8 => ktr_room); (case cek9 => exact BindsTo.of_eq rfl); (case cec5 => decide); (case cekB => exact locs rfl); (case cec2 => exact rfl); (case cec3 => exact rfl); (case cec4 => exact rfl); k_whole; intro _ _ _ Bq9 _ _; (try dsimp only); (try k_lift Bq9); (try k_fold))
  k_with "units_room" => (have hcL9 := cLine_is; (try dsimp only [ktrTop]); simp only [units_in1, units_deeper, Around.mark_units, units_caller]; omega)
  k_with "call builtin:list.index" => (k_here; (with_reducible show wpAny _ _ (call (Value.builtin _) [Value.ref _, Value.int _ _]) _ _ _); k_dflt (refine' own_index (by is_list) (by l_ints) (by tb_start) (by first | assumption | exact any_mem (by assumption)) ?_; k_whole))
  k_with "getMethod ref" => ((with_reducible show wpAny _ _ (getMethod (Value.ref _) (Str.ofString "index") _) _ _ _); k_dflt (refine getMethod_list_of PySem.F.slot_list_index PySem.F.type_list_index (by is_list) (by no_dict) ?_))
  k_with "call builtin:len" => (k_here; (with_reducible show wpAny _ _ (call (Value.builtin "len") [Value.ref _]) _ _ _); k_dflt (refine' own_len (by is_list) (by l_ints) (by tb_start) ?_; k_whole))
  k_with "subscriptTail Name Slice ref ref" => (k_here; (with_reducible show wpAny _ _ (subscriptTail _ (PySem.Expr.Slice _ _ none _) (Value.ref _) (Value.ref _)) _ _ _); k_dflt (refine' own_slice (by k_asm) (by k_asm) (by kmk_list) (by l_ints) (by tb_start) (by kmk_part) (by kmk_part) ?_ (by with_unfolding_all rfl) (by kmk_pure); k_whole); intro _ _ _ _ _ l1q _ _; (try k_lt l1q); (try k_sweep))
  k_with "binaryOp Mult ref int" => (k_here; (with_reducible show wpAny _ _ (binaryOp Operator.Mult (Value.ref _) (Value.int _ _)) _ _ _); k_dflt (refine' own_mul (by k_asm) (by k_asm) (by is_list) (by first | l_ints | l_intsW) (by tb_start) (by tb_start) (by exact mul_small (by tb_start) (by tb_start)) ?_; k_whole); intro _ _ _ _ _ l1q _ _; (try k_lt l1q); (try k_sweep))
  k_with "binaryOp Add ref ref" => (k_here; (with_reducible show wpAny _ _ (binaryOp Operator.Add (Value.ref _) (Value.ref _)) _ _ _); k_dflt (refine' own_add (by k_asm) (by k_asm) (by is_list) (by is_list) (by first | l_ints | l_intsW) (by first | l_ints | l_intsW) (by tb_start) ?_; k_whole); intro _ _ _ _ _ l1q _ _; (try k_lt l1q); (try k_sweep))
  k_with "subscriptTail Name Slice str ref" => ((with_reducible show wpAny _ _ (subscriptTail _ (Expr.Slice none (some _) none _) _ _) _ _ _); (with_reducible rename Fr _ _ _ _ => F'q); (with_reducible rename News _ _ _ _ => N'q); refine slice_strN_ns_len (hsz := (by first | exact Short.fits (by assumption) | (rw [sizeLine_eq]; omega))) (s := ⟨_, _, _, _, _⟩) F'q N'q ?_; intro _ _ _ F'q N'q _; (try k_sweep))
  k_with "subscriptTail Name Slice str ref" => ((with_reducible show wpAny _ _ (subscriptTail _ (Expr.Slice (some _) none none _) _ _) _ _ _); (with_reducible rename Fr _ _ _ _ => F'q); (with_reducible rename News _ _ _ _ => N'q); refine slice_strN_sn_len (hsz := (by first | exact Short.fits (by assumption) | (rw [sizeLine_eq]; omega))) (s := ⟨_, _, _, _, _⟩) F'q N'q ?_; intro _ _ _ F'q N'q _; (try k_sweep))
  k_with "tb_rel" => (intro _ h9q k9q; (simp only [List.forall_mem_cons, List.not_mem_nil, false_implies, implies_true, and_true, ne_eq] at h9q); (try simp only [List.contains_cons, List.contains_nil, Bool.or_false, Bool.or_eq_false_iff, beq_eq_false_iff_ne, ne_eq] at k9q); simp [kstB, h9q, k9q])
  k_with "subscriptTail Name Name ref int" => (k_here; (with_reducible show wpAny _ _ (subscriptTail _ _ (Value.ref _) (Value.int _ _)) _ _ _); k_dflt (refine' item_listR (by exact News.isList (by k_asm) (by k_mem)) (by omega) (by omega) (by assumption) ?_ (by with_unfolding_all rfl); k_whole))
  trivial
set_option maxHeartbeats 8000000 in
theorem pl1_c {w : World} {p : Program} {loose : List Str} {mean : ExcName → Option Value} {mg mb : Str → Option Value} {dp un : Nat} {gd : Option (List Code)} {cn : Str} {a : Addr} {ccd : Value} {cl : List (Str × Addr)} {outer : List Env} {A₀ : Around} {base h₀ : Heap} {L : Addr} {m : Str → Option Value} {s : Shared} {Q : Flow → Shared → Prop} {led : List (Addr × Obj)}
    {t : Addr} {tv : List Value} {ep : Nat} {pl Ti : Int} {tp ui : Tok}
    (B : Below A₀ base outer h₀) (F : Fr h₀ L s.heap m) (X : (hd.heap_1 w.params).In h₀) (T : Top p loose mean mg mb h₀) (N : News h₀ L s.heap led)
    (f_totals : m (Str.ofString "totals") = some (Value.ref t)) (f_place : m (Str.ofString "place") = some (Value.int pl tp))
    (ht : (t, listOf tv.toArray ep) ∈ led) (hp0 : 0 ≤ pl) (hp1 : pl < 2) (hT : tv.toArray[pl.toNat]? = some (.int Ti ui)) (hgb : AllBare s.gens) (hd : dp + 20 < recursionLimit) (hu : un + 300 < cLine)
    (hret : ∀ m' v1 v2 v3 h' tk', Fr h₀ L h' m' → News h₀ L h' led → (∀ y, y ≠ Str.ofString "shift" → y ≠ Str.ofString "last" → y ≠ Str.ofString "text" → m' y = m y) → m' (Str.ofString "shift") = some (.int (Ti.fdiv 343) v1) → m' (Str.ofString "last") = some (.int ((Ti.fdiv 9604).fmod 48) v2) → m' (Str.ofString "text") = some (.str (Str.ofString "") v3) → Q .next { s with heap := h', toks := tk' }) :
    wpAny (model PySem.Challenge.rw_st0029_01.row.prog w) (ktrTop dp un gd cn lawFd.1.2 L a ccd cl outer) (execs pl1 (envX cn lawFd.1.2 L a ccd cl)) Q (fun _ _ => False) s := by
  w_top off
  revert X
  k_fill
  intro X
  simp only [lawFd, plFd, pl1, List.drop_succ_cons, List.drop_zero, List.take_succ_cons, List.take_zero]
  have eF : m = fun y => if y = Str.ofString "totals" then some (Value.ref t) else if y = Str.ofString "place" then some (Value.int pl tp) else m y := by
    (funext y9; (repeat (first | rfl | (split; · first | rfl | (rename_i q9; rw [q9]; assumption)))))
  rw [eF] at F
  try k_fold
  k_steps
  all_goals trace_state
  exact hret _ _ _ _ _ _ (by k_asm) (by k_asm) (fun y h1 h2 h3 => by simp only [if_neg h1, if_neg h2, if_neg h3]; exact (congrFun eF y).symm) rfl rfl rfl
end
-- text pl2
section
theorem wf_len {l : List Int} {n : Int} {a : Nat} (e : 0 ≤ n → (a : Int) = ((1 : Nat) : Int) * n) (h : ∀ n ∈ l, 1 ≤ n ∧ n ≤ 6) (m : n ∈ l) : a ≤ 6 := by have := h n m; have := e (by omega); omega
theorem wf_lo {l : List Int} {n : Int} (h : ∀ n ∈ l, 1 ≤ n ∧ n ≤ 6) (m : n ∈ l) : -(2 ^ 63 : Int) ≤ n := by have := h n m; omega
theorem wf_hi {l : List Int} {n : Int} (h : ∀ n ∈ l, 1 ≤ n ∧ n ≤ 6) (m : n ∈ l) : n ≤ ((1048576 : Nat) : Int) := by have := h n m; omega
noncomputable def sgS (k : Int) : Str := Txt.item (Str.ofString "*/<>") (k.fmod 4)
noncomputable def textP (sh : Int) (ws : List Int) : Str × Int := ws.foldl (fun p n => (p.1 ++ (Txt.mul (sgS p.2) n ++ Str.ofString "="), p.2 + 1)) (Str.ofString "", sh)
theorem textP_snoc (sh : Int) (ws : List Int) (n : Int) : textP sh (ws ++ [n]) = ((textP sh ws).1 ++ (Txt.mul (sgS (textP sh ws).2) n ++ Str.ofString "="), (textP sh ws).2 + 1) := by
  unfold textP; rw [List.foldl_append]; rfl
theorem pl2_end {sh n shift : Int} {text : Str} {pre : List Int} (e1 : text = (textP sh pre).1) (e2 : shift = (textP sh pre).2) (e3 : text.length ≤ 7 * pre.length) (e4 : shift = sh + (pre.length : Int)) (hl : (Txt.mul (Txt.item (Str.ofString "*/<>") (shift.fmod 4)) n).length ≤ 6) :
    text ++ (Txt.mul (Txt.item (Str.ofString "*/<>") (shift.fmod 4)) n ++ Str.ofString "=") = (textP sh (pre ++ [n])).1 ∧ shift + 1 = (textP sh (pre ++ [n])).2 ∧ (text ++ (Txt.mul (Txt.item (Str.ofString "*/<>") (shift.fmod 4)) n ++ Str.ofString "=")).length ≤ 7 * (pre ++ [n]).length ∧ shift + 1 = sh + ((pre ++ [n]).length : Int) := by
  rw [textP_snoc, ← e1, ← e2]
  have e5 : (Str.ofString "=").length = 1 := rfl
  refine ⟨rfl, rfl, ?_, ?_⟩
  · rw [Str.length_append, Str.length_append, List.length_append, List.length_singleton]; omega
  · rw [List.length_append, List.length_singleton]; omega
theorem pl2_start (sh : Int) : Str.ofString "" = (textP sh []).1 ∧ sh = (textP sh []).2 ∧ (Str.ofString "").length ≤ 7 * ([] : List Int).length ∧ sh = sh + (([] : List Int).length : Int) := ⟨rfl, rfl, by decide, by simp⟩
theorem reg_pl2_1 : True := by
  k_with_none
  k_with "cell_enter" => (refine' own_def0 ?cek1 ?cek2 ?cek3 ?cek5 ?cekA ?cekF ?cekK ?cek6 ?cek7 ?cek8 ?cek9 ?cekB ?_ ?cec2 ?cec3 ?cec4 ?cec5; (case cekA => exact rfl); (case cekF => exact rfl); (case cekK => assumption); (case cek1 => k_asm); (case cek2 => k_asm); (case cek3 => k_asm); (case cek5 => k_asm); (case cek6 => k_is); (case cek7 => k_is); (case cek8 => ktr_room); (case cek9 => exact BindsTo.of_eq rfl); (case cec5 => decide); (case cekB => exact locs rfl); (case cec2 => exact rfl); (case cec3 => exact rfl); (case cec4 => exact rfl); k_whole; intro _ _ _ Bq9 _ _; (try dsimp only); (try k_lift Bq9); (try k_fold))
  k_with "units_room" => (have hcL9 := cLine_is; (try dsimp only [ktrTop]); simp only [units_in1, units_deeper, Around.mark_units, units_caller]; omega)
  k_with "call builtin:list.index" => (k_here; (with_reducible show wpAny _ _ (call (Value.builtin _) [Value.ref _, Value.int _ _]) _ _ _); k_dflt (refine' own_index (by is_list) (by l_ints) (by tb_start) (by first | assumption | exact any_mem (by assumption)) ?_; k_whole))
  k_with "getMethod ref" => ((with_reducible show wpAny _ _ (getMethod (Value.ref _) (Str.ofString "index") _) _ _ _); k_dflt (refine getMethod_list_of PySem.F.slot_list_index PySem.F.type_list_index (by is_list) (by no_dict) ?_))
  k_with "call builtin:len" => (k_here; (with_reducible show wpAny _ _ (call (Value.builtin "len") [Value.ref _]) _ _ _); k_dflt (refine' own_len (by is_list) (by l_ints) (by tb_start) ?_; k_whole))
  k_with "subscriptTail Name Slice ref ref" => (k_here; (with_reducible show wpAny _ _ (subscriptTail _ (PySem.Expr.Slice _ _ none _) (Value.ref _) (Value.ref _)) _ _ _); k_dflt (refine' own_slice (by k_asm) (by k_asm) (by kmk_list) (by l_ints) (by tb_start) (by kmk_part) (by kmk_part) ?_ (by with_unfolding_all rfl) (by kmk_pure); k_whole); intro _ _ _ _ _ l1q _ _; (try k_lt l1q); (try k_sweep))
  k_with "binaryOp Mult ref int" => (k_here; (with_reducible show wpAny _ _ (binaryOp Operator.Mult (Value.ref _) (Value.int _ _)) _ _ _); k_dflt (refine' own_mul (by k_asm) (by k_asm) (by is_list) (by first | l_ints | l_intsW) (by tb_start) (by tb_start) (by exact mul_small (by tb_start) (by tb_start)) ?_; k_whole); intro _ _ _ _ _ l1q _ _; (try k_lt l1q); (try k_sweep))
  k_with "binaryOp Add ref ref" => (k_here; (with_reducible show wpAny _ _ (binaryOp Operator.Add (Value.ref _) (Value.ref _)) _ _ _); k_dflt (refine' own_add (by k_asm) (by k_asm) (by is_list) (by is_list) (by first | l_ints | l_intsW) (by first | l_ints | l_intsW) (by tb_start) ?_; k_whole); intro _ _ _ _ _ l1q _ _; (try k_lt l1q); (try k_sweep))
  k_with "subscriptTail Name Slice str ref" => ((with_reducible show wpAny _ _ (subscriptTail _ (Expr.Slice none (some _) none _) _ _) _ _ _); (with_reducible rename Fr _ _ _ _ => F'q); (with_reducible rename News _ _ _ _ => N'q); refine slice_strN_ns_len (hsz := (by first | exact Short.fits (by assumption) | (rw [sizeLine_eq]; omega))) (s := ⟨_, _, _, _, _⟩) F'q N'q ?_; intro _ _ _ F'q N'q _; (try k_sweep))
  k_with "subscriptTail Name Slice str ref" => ((with_reducible show wpAny _ _ (subscriptTail _ (Expr.Slice (some _) none none _) _ _) _ _ _); (with_reducible rename Fr _ _ _ _ => F'q); (with_reducible rename News _ _ _ _ => N'q); refine slice_strN_sn_len (hsz := (by first | exact Short.fits (by assumption) | (rw [sizeLine_eq]; omega))) (s := ⟨_, _, _, _, _⟩) F'q N'q ?_; intro _ _ _ F'q N'q _; (try k_sweep))
  k_with "tb_rel" => (intro _ h9q k9q; (simp only [List.forall_mem_cons, List.not_mem_nil, false_implies, implies_true, and_true, ne_eq] at h9q); (try simp only [List.contains_cons, List.contains_nil, Bool.or_false, Bool.or_eq_false_iff, beq_eq_false_iff_ne, ne_eq] at k9q); simp [kstB, h9q, k9q])
  k_with "subscriptTail Name Name ref int" => (k_here; (with_reducible show wpAny _ _ (subscriptTail _ _ (Value.ref _) (Value.int _ _)) _ _ _); k_dflt (refine' item_listR (by exact News.isList (by k_asm) (by k_mem)) (by omega) (by omega) (by assumption) ?_ (by with_unfolding_all rfl); k_whole))
  k_with "call ref" => (k_dflt (show wpAny _ _ (call (Value.ref 104) [Value.ref _]) _ _ _); k_dflt (refine' told3_c (by k_asm) (by k_asm) (by k_asm) (by k_asm) (by rfl) (by exact News.get (by k_asm) (by k_mem)) (by assumption) (by assumption) (by assumption) (by (try dsimp only [ktrTop]); omega) (by (try dsimp only [ktrTop]); omega) ?_); intro _ _ _ _ _ _ st'q e1'q e2'q _ _; k_dflt (obtain ⟨_, _, _⟩ := behindB (by k_asm) (by k_asm) st'q e1'q e2'q); clear st'q e1'q e2'q; (try k_sweep))
  k_with "loadName" => (k_dflt (refine' wpAny_loadName_local (by rfl) (by rfl) (by exact Fr.ns (by k_asm)) (by first | rfl | (with_unfolding_all rfl) | (simp; done)) ?_))
  k_with "binaryOp Mult str int" => (k_here; (with_reducible show wpAny _ _ (binaryOp Operator.Mult (Value.str _ _) (Value.int _ _)) _ _ _); (refine KXi.mul (n := 1) (by assumption) (by decide) (by exact wf_lo (by assumption) (by assumption)) (by exact wf_hi (by assumption) (by assumption)) ?_); intro _ _ _ kxNq; (have _ := wf_len kxNq (by assumption) (by assumption)); clear kxNq)
  k_with "binaryOp Add str str" => (k_here; (refine SBL.add (hsz := (by (have e1 : (Str.ofString "=").length = 1 := rfl); rw [sizeLine_eq]; omega)) ?_); intro _ _ _)
  k_with "inplaceOp Add str str" => (k_here; (refine SBL.iadd (hsz := (by (have e1 : (Str.ofString "=").length = 1 := rfl); rw [sizeLine_eq]; omega)) ?_); intro _ _ _)
  k_with "subscriptTail" => (k_here; (with_reducible show wpAny _ _ (subscriptTail (PySem.Expr.Constant _ _ _) _ (Value.str _ _) (Value.int (Int.fmod _ 4) _)) _ _ _); (refine KXi.item (n := 4) rfl (Int.le_trans (by decide) (Int.fmod_nonneg_of_pos _ (by decide))) (Int.fmod_lt_of_pos _ (by decide)) (by decide) ?_); intro _)
  k_with "kst_same" => (intro _ h1q h2q h3q; (try simp only [List.forall_mem_cons, List.not_mem_nil, false_implies, implies_true, and_true, ne_eq] at h2q); (try simp only [List.contains_cons, List.contains_nil, Bool.or_false, Bool.or_eq_false_iff, beq_eq_false_iff_ne, ne_eq] at h3q); first | (simp [h1q, h2q, h3q]; done) | (simp [h1q, h2q]; done) | (simp [h1q]; done))
  k_with "InvEndN" => ((with_reducible rename News _ _ _ _ => nE'); k_dflt (refine kst_end ⟨_, _, _, _⟩ (by assumption) nE' (by first | kst_in | kst_inAny) (by first | (intro _ _; kst_mem) | kst_anyIn) (by rfl) (by kst_facts) (by kst_all) (by kst_same) (by kst_p)))
  trivial
set_option maxHeartbeats 8000000 in
theorem pl2_c {w : World} {p : Program} {loose : List Str} {mean : ExcName → Option Value} {mg mb : Str → Option Value} {dp un : Nat} {gd : Option (List Code)} {cn : Str} {a : Addr} {ccd : Value} {cl : List (Str × Addr)} {A₀ : Around} {base h₀ : Heap} {L : Addr} {m : Str → Option Value} {s : Shared} {Q : Flow → Shared → Prop} {led : List (Addr × Obj)}
    {R ri : Addr} {Rv rv : List Value} {rk ep : Nat} {pl sh : Int} {tp v1 v2 : Tok} {ns : List Int}
    (B : Below A₀ base [] h₀) (F : Fr h₀ L s.heap m) (X : (hd.heap_1 w.params).In h₀) (T : Top p loose mean mg mb h₀) (N : News h₀ L s.heap led)
    (f_shift : m (Str.ofString "shift") = some (Value.int sh v1)) (f_text : m (Str.ofString "text") = some (Value.str (Str.ofString "") v2)) (f_rows : m (Str.ofString "rows") = some (Value.ref R)) (f_place : m (Str.ofString "place") = some (Value.int pl tp))
    (hRl : (R, listOf Rv.toArray ep) ∈ led) (hp0 : 0 ≤ pl) (hp1 : pl < 2) (hsh : 0 ≤ sh) (hR : Rv.toArray[pl.toNat]? = some (.ref ri)) (hrl : (ri, listOf rv.toArray rk) ∈ led) (hrI : IntsAre rv ns) (hrD : DigRow ns) (hw : ∀ n ∈ dueL ns, 1 ≤ n ∧ n ≤ 6) (hw4 : (dueL ns).length ≤ 4) (hgb : AllBare s.gens) (hd : dp + 20 < recursionLimit) (hu : un + 300 < cLine)
    (hret : ∀ m' v1 h' tk' g', AllBare g' → Fr h₀ L h' m' → News h₀ L h' led → (∀ y, y ≠ Str.ofString "shift" → y ≠ Str.ofString "text" → y ≠ Str.ofString "size" → m' y = m y) → m' (Str.ofString "text") = some (.str (textP sh (dueL ns)).1 v1) → Q .next { s with heap := h', toks := tk', gens := g' }) :
    wpAny (model PySem.Challenge.rw_st0029_01.row.prog w) (ktrTop dp un gd cn lawFd.1.2 L a ccd cl []) (execs pl2 (envX cn lawFd.1.2 L a ccd cl)) Q (fun _ _ => False) s := by
  w_top off
  revert X
  k_fill
  intro X
  simp only [lawFd, plFd, pl2, List.drop_succ_cons, List.drop_zero, List.take_succ_cons, List.take_zero]
  have eF : m = fun y => if y = Str.ofString "shift" then some (Value.int sh v1) else if y = Str.ofString "text" then some (Value.str (Str.ofString "") v2) else if y = Str.ofString "rows" then some (Value.ref R) else if y = Str.ofString "place" then some (Value.int pl tp) else m y := by
    (funext y9; (repeat (first | rfl | (split; · first | rfl | (rename_i q9; rw [q9]; assumption)))))
  rw [eF] at F
  try k_fold
  k_with "pyIter ref" => k_state (fun pre text shift => text = (textP sh pre).1 ∧ shift = (textP sh pre).2 ∧ text.length ≤ 7 * pre.length ∧ shift = sh + (pre.length : Int)) "text" "shift"
  k_with "state" => first | exact pl2_end (by assumption) (by assumption) (by assumption) (by assumption) (by assumption) | exact pl2_start _
  k_steps
  (rename (_ = (textP sh (dueL ns)).1) => eT)
  rw [eT] at kFr
  refine hret _ _ _ _ _ (by assumption) kFr (fun p hp => kNews p (.tail _ hp)) (fun y h1 h2 h3 => ?_) rfl
  have e9 := congrFun eF y
  simp only [if_neg h1, if_neg h2] at e9
  simp [h1, h2, h3]
  exact e9.symm
end
-- text pl3
section
theorem d9_of {l r : Addr} {x : Addr × Obj} {led : List (Addr × Obj)} (h : l = r ∨ ∀ p ∈ x :: led, p.1 ≠ l) : l = r ∨ ∀ p ∈ led, p.1 ≠ l := h.imp id fun h p hp => h p (.tail _ hp)
theorem behindD {h₀ h' : Heap} {L l r : Addr} {m : Str → Option Value} {news : List (Addr × Obj)} {s : Shared} {o o' : Obj} (F : Fr h₀ L s.heap m) (N : News h₀ L s.heap news) (st : s.heap.StaysIn h') (hl : h'.get? l = some o) (hn : l = r ∨ s.heap.get? l = none) (hr : (r, o') ∈ news) : Fr h₀ L h' m ∧ News h₀ L h' ((l, o) :: news) ∧ (l = r ∨ ∀ p ∈ news, p.1 ≠ l) := by
  rcases hn with rfl | hn
  · obtain ⟨F', N'⟩ := behind F N st
    refine ⟨F', fun p hp => ?_, .inl rfl⟩
    rcases List.mem_cons.mp hp with rfl | hp
    · exact ⟨hl, (N' _ hr).2⟩
    · exact N' p hp
  · obtain ⟨F', N', _⟩ := behind1 F N st hl hn
    exact ⟨F', N', .inr fun p hp e => by have := (N p hp).1; rw [e, hn] at this; cases this⟩
theorem reg_pl3_1 : True := by
  k_with_none
  k_with "cell_enter" => (refine' own_def0 ?cek1 ?cek2 ?cek3 ?cek5 ?cekA ?cekF ?cekK ?cek6 ?cek7 ?cek8 ?cek9 ?cekB ?_ ?cec2 ?cec3 ?cec4 ?cec5; (case cekA => exact rfl); (case cekF => exact rfl); (case cekK => assumption); (case cek1 => k_asm); (case cek2 => k_asm); (case cek3 => k_asm); (case cek5 => k_asm); (case cek6 => k_is); (case cek7 => k_is); (case cek8 => ktr_room); (case cek9 => exact BindsTo.of_eq rfl); (case cec5 => decide); (case cekB => exact locs rfl); (case cec2 => exact rfl); (case cec3 => exact rfl); (case cec4 => exact rfl); k_whole; intro _ _ _ Bq9 _ _; (try dsimp only); (try k_lift Bq9); (try k_fold))
  k_with "units_room" => (have hcL9 := cLine_is; (try dsimp only [ktrTop]); simp only [units_in1, units_deeper, Around.mark_units, units_caller]; omega)
  k_with "call builtin:list.index" => (k_here; (with_reducible show wpAny _ _ (call (Value.builtin _) [Value.ref _, Value.int _ _]) _ _ _); k_dflt (refine' own_index (by is_list) (by l_ints) (by tb_start) (by first | assumption | exact any_mem (by assumption)) ?_; k_whole))
  k_with "getMethod ref" => ((with_reducible show wpAny _ _ (getMethod (Value.ref _) (Str.ofString "index") _) _ _ _); k_dflt (refine getMethod_list_of PySem.F.slot_list_index PySem.F.type_list_index (by is_list) (by no_dict) ?_))
  k_with "call builtin:len" => (k_here; (with_reducible show wpAny _ _ (call (Value.builtin "len") [Value.ref _]) _ _ _); k_dflt (refine' own_len (by is_list) (by l_ints) (by tb_start) ?_; k_whole))
  k_with "subscriptTail Name Slice ref ref" => (k_here; (with_reducible show wpAny _ _ (subscriptTail _ (PySem.Expr.Slice _ _ none _) (Value.ref _) (Value.ref _)) _ _ _); k_dflt (refine' own_slice (by k_asm) (by k_asm) (by kmk_list) (by l_ints) (by tb_start) (by kmk_part) (by kmk_part) ?_ (by with_unfolding_all rfl) (by kmk_pure); k_whole); intro _ _ _ _ _ l1q _ _; (try k_lt l1q); (try k_sweep))
  k_with "binaryOp Mult ref int" => (k_here; (with_reducible show wpAny _ _ (binaryOp Operator.Mult (Value.ref _) (Value.int _ _)) _ _ _); k_dflt (refine' own_mul (by k_asm) (by k_asm) (by is_list) (by first | l_ints | l_intsW) (by tb_start) (by tb_start) (by exact mul_small (by tb_start) (by tb_start)) ?_; k_whole); intro _ _ _ _ _ l1q _ _; (try k_lt l1q); (try k_sweep))
  k_with "binaryOp Add ref ref" => (k_here; (with_reducible show wpAny _ _ (binaryOp Operator.Add (Value.ref _) (Value.ref _)) _ _ _); k_dflt (refine' own_add (by k_asm) (by k_asm) (by is_list) (by is_list) (by first | l_ints | l_intsW) (by first | l_ints | l_intsW) (by tb_start) ?_; k_whole); intro _ _ _ _ _ l1q _ _; (try k_lt l1q); (try k_sweep))
  k_with "subscriptTail Name Slice str ref" => ((with_reducible show wpAny _ _ (subscriptTail _ (Expr.Slice none (some _) none _) _ _) _ _ _); (with_reducible rename Fr _ _ _ _ => F'q); (with_reducible rename News _ _ _ _ => N'q); refine slice_strN_ns_len (hsz := (by first | exact Short.fits (by assumption) | (rw [sizeLine_eq]; omega))) (s := ⟨_, _, _, _, _⟩) F'q N'q ?_; intro _ _ _ F'q N'q _; (try k_sweep))
  k_with "subscriptTail Name Slice str ref" => ((with_reducible show wpAny _ _ (subscriptTail _ (Expr.Slice (some _) none none _) _ _) _ _ _); (with_reducible rename Fr _ _ _ _ => F'q); (with_reducible rename News _ _ _ _ => N'q); refine slice_strN_sn_len (hsz := (by first | exact Short.fits (by assumption) | (rw [sizeLine_eq]; omega))) (s := ⟨_, _, _, _, _⟩) F'q N'q ?_; intro _ _ _ F'q N'q _; (try k_sweep))
  k_with "tb_rel" => (intro _ h9q k9q; (simp only [List.forall_mem_cons, List.not_mem_nil, false_implies, implies_true, and_true, ne_eq] at h9q); (try simp only [List.contains_cons, List.contains_nil, Bool.or_false, Bool.or_eq_false_iff, beq_eq_false_iff_ne, ne_eq] at k9q); simp [kstB, h9q, k9q])
  k_with "subscriptTail Name Name ref int" => (k_here; (with_reducible show wpAny _ _ (subscriptTail _ _ (Value.ref _) (Value.int _ _)) _ _ _); k_dflt (refine' item_listR (by exact News.isList (by k_asm) (by k_mem)) (by omega) (by omega) (by assumption) ?_ (by with_unfolding_all rfl); k_whole))
  k_with "call ref" => (k_dflt (show wpAny _ _ (call (Value.ref 118) [Value.str _ _]) _ _ _); k_dflt (refine' read_c (by k_asm) (by k_asm) (by k_asm) (by k_asm) (by rfl) (by assumption) (by assumption) (by assumption) (by (try dsimp only [ktrTop]); omega) (by (try dsimp only [ktrTop]); omega) ?_); intro _ _ _ _ _ st'q e1'q e2'q _; k_dflt (obtain ⟨_, _, _⟩ := behind1 (by k_asm) (by k_asm) st'q e1'q e2'q); clear st'q e1'q e2'q; (try k_sweep))
  k_with "call ref" => (k_dflt (show wpAny _ _ (call (Value.ref 111) [Value.ref _]) _ _ _); k_dflt (refine' due_c (by k_asm) (by k_asm) (by k_asm) (by k_asm) (by rfl) (by exact News.get (by k_asm) (by k_mem)) (by assumption) (by assumption) (by (try dsimp only [ktrTop]); omega) (by (try dsimp only [ktrTop]); omega) ?_); intro _ _ _ _ _ st'q e1'q e2'q _; k_dflt (obtain ⟨_, _, _⟩ := behindD (by k_asm) (by k_asm) st'q e1'q e2'q (by k_mem)); clear st'q e1'q e2'q; (try k_sweep))
  k_with "binaryOp Mult str int" => (k_here; (refine KXi.mul (n := 1) rfl (by decide) (by omega) (by omega) ?_); intro _ _ _ kxNq; (have _ := kxNq (by assumption)); clear kxNq)
  k_with "binaryOp Add str str" => (k_here; (refine SBL.add (hsz := (by rw [sizeLine_eq]; omega)) ?_); intro _ _ _)
  trivial
set_option maxHeartbeats 8000000 in
theorem pl3_c {w : World} {p : Program} {loose : List Str} {mean : ExcName → Option Value} {mg mb : Str → Option Value} {dp un : Nat} {gd : Option (List Code)} {cn : Str} {a : Addr} {ccd : Value} {cl : List (Str × Addr)} {outer : List Env} {A₀ : Around} {base h₀ : Heap} {L : Addr} {m : Str → Option Value} {s : Shared} {Q : Flow → Shared → Prop} {led : List (Addr × Obj)}
    {R ri nm bh t : Addr} {Rv rv nmv bv tv : List Value} {rk ep bk nmk tk₀ : Nat} {pl la Ti Bi : Int} {tp v2 v3 ui bi oi : Tok} {ns nums : List Int} {tx op : Str}
    (B : Below A₀ base outer h₀) (F : Fr h₀ L s.heap m) (X : (hd.heap_1 w.params).In h₀) (T : Top p loose mean mg mb h₀) (N : News h₀ L s.heap led)
    (f_text : m (Str.ofString "text") = some (Value.str tx v2)) (f_last : m (Str.ofString "last") = some (Value.int la v3)) (f_names : m (Str.ofString "names") = some (Value.ref nm)) (f_behind : m (Str.ofString "behind") = some (Value.ref bh)) (f_totals : m (Str.ofString "totals") = some (Value.ref t)) (f_rows : m (Str.ofString "rows") = some (Value.ref R)) (f_place : m (Str.ofString "place") = some (Value.int pl tp))
    (hRl : (R, listOf Rv.toArray ep) ∈ led) (hnl : (nm, listOf nmv.toArray nmk) ∈ led) (hbl : (bh, listOf bv.toArray bk) ∈ led) (htl : (t, listOf tv.toArray tk₀) ∈ led) (hp0 : 0 ≤ pl) (hp1 : pl < 2) (hla0 : 0 ≤ la) (hla1 : la < 48) (hB0 : 0 ≤ Bi) (hB1 : Bi ≤ 6) (hT : tv.toArray[pl.toNat]? = some (.int Ti ui)) (hBi : bv.toArray[pl.toNat]? = some (.int Bi bi)) (hNi : nmv.toArray[la.toNat]? = some (.str op oi)) (hR : Rv.toArray[pl.toNat]? = some (.ref ri)) (hrl : (ri, listOf rv.toArray rk) ∈ led) (hrI : IntsAre rv ns) (hrz : ns.length ≤ 3) (htx : tx.length ≤ 100) (hop : op.length ≤ 3) (hSh : Short ((tx ++ Txt.mul (Str.ofString "~") Bi) ++ op)) (hRd : Reads' ((tx ++ Txt.mul (Str.ofString "~") Bi) ++ op) nums) (hnz : nums.length ≤ 1000) (hgb : AllBare s.gens) (hd : dp + 20 < recursionLimit) (hu : un + 300 < cLine)
    (hret : ∀ m' nl nk nv dl dk dv wl v1 h' tk', IntsAre nv nums → IntsAre dv (dueL ns) → (∀ p ∈ (dl, listOf (List.toArray dv) dk) :: (nl, listOf (List.toArray nv) nk) :: led, p.1 < wl) → (dl = ri ∨ ∀ p ∈ led, p.1 ≠ dl) → Fr h₀ L h' m' → News h₀ L h' ((wl, listOf #[] 0) :: (dl, listOf (List.toArray dv) dk) :: (nl, listOf (List.toArray nv) nk) :: led) → (∀ y, y ≠ Str.ofString "numbers" → y ≠ Str.ofString "due" → y ≠ Str.ofString "shift" → y ≠ Str.ofString "wanted" → m' y = m y) → m' (Str.ofString "numbers") = some (.ref nl) → m' (Str.ofString "due") = some (.ref dl) → m' (Str.ofString "shift") = some (.int (Ti.fdiv 343) v1) → m' (Str.ofString "wanted") = some (.ref wl) → Q .next { s with heap := h', toks := tk' }) :
    wpAny (model PySem.Challenge.rw_st0029_01.row.prog w) (ktrTop dp un gd cn lawFd.1.2 L a ccd cl outer) (execs pl3 (envX cn lawFd.1.2 L a ccd cl)) Q (fun _ _ => False) s := by
  w_top off
  revert X
  k_fill
  intro X
  simp only [lawFd, plFd, pl3, List.drop_succ_cons, List.drop_zero, List.take_succ_cons, List.take_zero]
  have eF : m = fun y => if y = Str.ofString "text" then some (Value.str tx v2) else if y = Str.ofString "last" then some (Value.int la v3) else if y = Str.ofString "names" then some (Value.ref nm) else if y = Str.ofString "behind" then some (Value.ref bh) else if y = Str.ofString "totals" then some (Value.ref t) else if y = Str.ofString "rows" then some (Value.ref R) else if y = Str.ofString "place" then some (Value.int pl tp) else m y := by
    (funext y9; (repeat (first | rfl | (split; · first | rfl | (rename_i q9; rw [q9]; assumption)))))
  rw [eF] at F
  try k_fold
  k_steps
  (rename (_ < _ ∧ _ < _ ∧ AllLt _ led) => q9)
  refine hret _ _ _ _ _ _ _ _ _ _ _ (by assumption) (by assumption) (tb_ltOf q9) (d9_of (by assumption)) (by k_asm) (by k_asm) (fun y h1 h2 h3 h4 => ?_) rfl rfl rfl rfl
  simp only [if_neg h1, if_neg h2, if_neg h3, if_neg h4]
  exact (congrFun eF y).symm
end
-- text pl4
section
noncomputable def isStrV (x : Str) : Value → Bool
  | .str y _ => y == x
  | _ => false
theorem eq_isStrV (x : Str) (t : Tok) : ∀ {vs : List Value} {ns : List Str}, StrsAre vs ns → ∀ y, y ∈ vs → MeetsSeq.EqGives y (.str x t) (isStrV x y)
  | _, _, .nil, _, hy => nomatch hy
  | _, _, .cons n u h, y, hy => by
    rcases List.mem_cons.mp hy with rfl | hy
    · exact eqGives_str n x u t
    · exact eq_isStrV x t h y hy
theorem isStrV_at (x : Str) : ∀ {vs : List Value} {ns : List Str}, StrsAre vs ns → ∀ (j : Nat) (h1 : j < vs.length) (h2 : j < ns.length), isStrV x vs[j] = (ns[j] == x)
  | _, _, .nil, _, h1, _ => absurd h1 (Nat.not_lt_zero _)
  | _, _, .cons _ _ _, 0, _, _ => rfl
  | _, _, .cons _ _ r, j + 1, h1, h2 => isStrV_at x r j (Nat.lt_of_succ_lt_succ h1) (Nat.lt_of_succ_lt_succ h2)
theorem ne_of_lt_idxS {x : Str} : ∀ {ns : List Str} {j : Nat}, j < ns.idxOf x → ∀ (h2 : j < ns.length), (ns[j] == x) = false
  | [], _, _, h2 => absurd h2 (Nat.not_lt_zero _)
  | y :: r, j, h, h2 => by
    rw [List.idxOf_cons] at h
    cases e : y == x with
    | true => rw [e] at h; exact absurd h (Nat.not_lt_zero _)
    | false =>
      rw [e] at h
      cases j with
      | zero => exact e
      | succ j => exact ne_of_lt_idxS (Nat.lt_of_succ_lt_succ h) (Nat.lt_of_succ_lt_succ h2)
theorem strs_len : ∀ {vs : List Value} {ns : List Str}, StrsAre vs ns → vs.length = ns.length
  | _, _, .nil => rfl
  | _, _, .cons _ _ r => congrArg (· + 1) (strs_len r)
theorem own_indexS {prog : Program} {w : World} {A : Around} {E : Value → Shared → Prop} {s : Shared} {l : Addr} {vs : List Value} {ns : List Str} {x : Str} {t : Tok} {Q : Value → Shared → Prop} (hl : s.heap.IsList l vs.toArray) (hi : StrsAre vs ns)
    (hb : ns.length ≤ 1000000) (hk : x ∈ ns) (h : Q (.int (ns.idxOf x : Nat) s.toks) { s with toks := s.toks + 1 }) :
    wpAny (model prog w) A (call (.builtin "list.index") [.ref l, .str x t]) Q E s := by
  obtain ⟨⟨cls, dd, data, sl⟩, ho, hc, n, hd⟩ := id hl
  dsimp only at hc hd
  subst hc hd
  have hlen := strs_len hi
  have hj : ns.idxOf x < ns.length := List.idxOf_lt_length_iff.mpr hk
  refine call_meets PySem.F.slot_list_index ⟨_, ho, rfl⟩ PySem.F.entry_list_index (PySem.F.args_list_index_2 _ _)
    (SeqAt.list_indexAt l vs.toArray n dd sl (.str x t) (isStrV x) (ns.idxOf x) (by simpa [hlen] using hj) (by omega) ?_ ?_) ⟨ho, fun y hy => (eq_isStrV x t hi y (by simpa using hy)).at _ _, h⟩
  · exact (isStrV_at x hi _ (by omega) hj).trans (by simp)
  · intro j hjs hlt
    exact (isStrV_at x hi j (by simpa using hjs) (by omega)).trans (ne_of_lt_idxS hlt _)
theorem seq_list_iadd9 : seqSlot? (.type "list") (dunderI "add") = pure (some (.builtin "list.__iadd__")) := PySem.seqSlot_of PySem.F.slot_list_iadd.lookup (by decide +kernel)
noncomputable def epI (vs us : List Value) (n : Nat) : Nat := if (vs ++ us).toArray.size == vs.toArray.size then n else n + 1
/-- xs += ys -/
theorem own_iadd {prog : Program} {w : World} {A : Around} {E : Value → Shared → Prop} {s : Shared} {h₀ : Heap} {L l b : Addr} {m : Str → Option Value} {news news' : List (Addr × Obj)} {vs us : List Value} {n n2 : Nat} {Q : Value → Shared → Prop} (F : Fr h₀ L s.heap m) (N : News h₀ L s.heap news) (hb : (b, listOf us.toArray n2) ∈ news) (U : Upd l (listOf vs.toArray n) (listOf (vs ++ us).toArray (epI vs us n)) news news') (hz : vs.length + us.length ≤ 4000)
    (h : ∀ h', Fr h₀ L h' m → News h₀ L h' news' → Q (.ref l) { s with heap := h' }) :
    wpAny (model prog w) A (inplaceOp .Add (.ref l) (.ref b)) Q E s := by
  obtain ⟨pre, post, rfl, rfl, a, b'⟩ := U.split
  have z := N (l, listOf vs.toArray n) (List.mem_append.mpr (.inr (.head _)))
  have zb := N _ hb
  have ha : s.TypeIs (.ref l) "list" := ⟨_, z.1, rfl⟩
  have hbT : s.TypeIs (.ref b) "list" := ⟨_, zb.1, rfl⟩
  unfold inplaceOp
  refine wpAny_holding ?_
  have hfi : fillsInplaceSlot (.type "list") "add" (Operator.Add == .Add) = pure false := by
    unfold fillsInplaceSlot
    show (typeLookup (.type "list") (dunderI "add") >>= fun fi => pure (fi.isSome && !isSeqSlot fi)) = pure false
    rw [PySem.F.slot_list_iadd.lookup]
    rfl
  refine wpAny_bind (wpAny_typeOf ha (wpAny_bind (wpAny_of_eq hfi ?_)))
  show wpAny _ _ (if false = true then _ else _) Q E s
  rw [if_neg Bool.false_ne_true]
  refine wpAny_bind (wpAny_binaryOp1_none (nm := "add") ha hbT noFill_list_add ?_)
  refine wpAny_bind (wpAny_of_eq seq_list_iadd9 ?_)
  refine wpAny_bind (wpAny_rule ?_)
  refine (call_meets PySem.F.slot_list_iadd ha PySem.F.entry_list_iadd (PySem.F.args_list_iadd_2 _ _) (AutoSeq1.list___iadd___list_list_0 l vs.toArray n b us.toArray n2 ?_ ?_ ?_) ⟨z.1, zb.1, ?_⟩)
  · have e : Builtin.List.listTooLong (vs.toArray.size + us.toArray.size) = false := by
      unfold Builtin.List.listTooLong
      rw [List.size_toArray, List.size_toArray, decide_eq_false_iff_not, sizeLine_eq]
      omega
    rw [e, Bool.and_false]; exact Bool.false_ne_true
  · rw [List.size_toArray, sizeLine_eq]; omega
  · rw [List.size_toArray, List.size_toArray, sizeLine_eq]; omega
  · refine (h _ (F.change (Heap.SameBut.update ..) z.2.1 z.2.2) (ki_turn _ N a b' ?_ rfl))
    simp
theorem tbOff_swap {own r : List (Addr × Obj)} {a : Addr} {o o' : Obj} (h : TbOff own ((a, o) :: r)) : TbOff own ((a, o') :: r) := fun p hp q hq => by
  rcases List.mem_cons.mp hq with rfl | hq
  · exact h p hp (a, o) (.head _)
  · exact h p hp q (.tail _ hq)
theorem pl4_end {h₀ h' : Heap} {L wl : Addr} {J : (Str → Option Value) → List (Addr × Obj) → Prop} {T2 T1 d : Addr × Obj} {o o₀ : Obj} {led own : List (Addr × Obj)} {m' : Str → Option Value} {s : Shared} {tk : Nat} {g : Array GenState}
    (F : Fr h₀ L h' m') (N : News h₀ L h' (T2 :: T1 :: (wl, o) :: d :: (led ++ own))) (off : TbOff own ((wl, o₀) :: d :: led)) (gb : AllBare g) (hJ : J m' ((wl, o) :: d :: led)) : GEnd h₀ L J own s { s with heap := h', toks := tk, gens := g } := by
  refine ⟨h', tk, g, m', _, (wl, o) :: d :: led, rfl, gb, F, N, ?_, ?_, tbOff_swap off, hJ⟩
  · intro p hp
    rcases List.mem_cons.mp hp with rfl | hp
    · exact .tail _ (.tail _ (.head _))
    · rcases List.mem_cons.mp hp with rfl | hp
      · exact .tail _ (.tail _ (.tail _ (.head _)))
      · exact .tail _ (.tail _ (.tail _ (.tail _ (List.mem_append.mpr (.inl hp)))))
  · intro p hp; exact .tail _ (.tail _ (.tail _ (.tail _ (List.mem_append.mpr (.inr hp)))))
theorem rep1_len {α : Type} (k : Nat) (y : α) : (List.replicate k [y]).flatten.length = k := by simp
theorem fdiv2_le {n : Int} (hn : n ≤ 6) : ((n - 1).fdiv 2).toNat ≤ 2 := by
  rw [Int.fdiv_eq_ediv_of_nonneg _ (by decide)]; omega
theorem wz_fits {vs : List Value} {ws : List Int} {n : Int} {y : Value} {i : Nat} (hI : IntsAre vs ws) (hl : ws.length ≤ 4 * i) (hi : i < 4) (hn : n ≤ 6) : vs.length + (List.replicate ((n - 1).fdiv 2).toNat [y]).flatten.length ≤ 4000 := by
  have := fdiv2_le hn
  rw [rep1_len, hI.length]; omega
theorem wz_fits2 {vs : List Value} {ws : List Int} {n : Int} {y : Value} {i : Nat} (hI : IntsAre vs ws) (hl : ws.length ≤ 4 * i) (hi : i < 4) (hn : n ≤ 6) : (vs ++ (List.replicate ((n - 1).fdiv 2).toNat [y]).flatten).toArray.size ≤ sizeLine := by
  have := fdiv2_le hn
  rw [List.size_toArray, List.length_append, rep1_len, hI.length, sizeLine_eq]; omega
theorem fmod4_cases (k : Int) : k.fmod 4 = 0 ∨ k.fmod 4 = 1 ∨ k.fmod 4 = 2 ∨ k.fmod 4 = 3 := by
  have h0 : 0 ≤ k.fmod 4 := Int.fmod_nonneg_of_pos _ (by decide)
  have h1 : k.fmod 4 < 4 := Int.fmod_lt_of_pos _ (by decide)
  omega
theorem fmod2_cases (k : Int) : k.fmod 2 = 0 ∨ k.fmod 2 = 1 := by
  have h0 : 0 ≤ k.fmod 2 := Int.fmod_nonneg_of_pos _ (by decide)
  have h1 : k.fmod 2 < 2 := Int.fmod_lt_of_pos _ (by decide)
  omega
theorem in_names2 (k : Int) : Txt.mul (Txt.item (Str.ofString "*/<>") (k.fmod 4)) 2 ∈ NAMES := by
  rcases fmod4_cases k with h | h | h | h <;> rw [h] <;> decide +kernel
theorem in_namesE (k n : Int) : Txt.mul (Txt.item (Str.ofString "*/<>") (k.fmod 4)) (2 - n.fmod 2) ++ Str.ofString "=" ∈ NAMES := by
  rcases fmod4_cases k with h | h | h | h <;> rcases fmod2_cases n with q | q <;> rw [h, q] <;> decide +kernel
noncomputable def idxN (x : Str) : Int := ((NAMES.idxOf x : Nat) : Int)
noncomputable def wantS (k w : Int) : List Int := repI ((w - 1).fdiv 2) [idxN (Txt.mul (sgS k) 2) + 7] ++ [idxN (Txt.mul (sgS k) (2 - w.fmod 2) ++ Str.ofString "=") + 7]
noncomputable def wantP (sh : Int) (ws : List Int) : List Int × Int := ws.foldl (fun p w => (p.1 ++ wantS p.2 w, p.2 + 1)) ([], sh)
theorem wantS_len {k n : Int} (hn : n ≤ 6) : (wantS k n).length ≤ 4 := by
  have := fdiv2_le hn
  unfold wantS
  rw [List.length_append, length_repI, List.length_singleton, List.length_singleton]; omega
theorem wantP_snoc (sh : Int) (ws : List Int) (n : Int) : wantP sh (ws ++ [n]) = ((wantP sh ws).1 ++ wantS (wantP sh ws).2 n, (wantP sh ws).2 + 1) := by
  unfold wantP; rw [List.foldl_append]; rfl
theorem reg_pl4_1 : True := by
  k_with_none
  k_with "cell_enter" => (refine' own_def0 ?cek1 ?cek2 ?cek3 ?cek5 ?cekA ?cekF ?cekK ?cek6 ?cek7 ?cek8 ?cek9 ?cekB ?_ ?cec2 ?cec3 ?cec4 ?cec5; (case cekA => exact rfl); (case cekF => exact rfl); (case cekK => assumption); (case cek1 => k_asm); (case cek2 => k_asm); (case cek3 => k_asm); (case cek5 => k_asm); (case cek6 => k_is); (case cek7 => k_is); (case cek8 => ktr_room); (case cek9 => exact BindsTo.of_eq rfl); (case cec5 => decide); (case cekB => exact locs rfl); (case cec2 => exact rfl); (case cec3 => exact rfl); (case cec4 => exact rfl); k_whole; intro _ _ _ Bq9 _ _; (try dsimp only); (try k_lift Bq9); (try k_fold))
  k_with "units_room" => (have hcL9 := cLine_is; (try dsimp only [ktrTop]); simp only [units_in1, units_deeper, Around.mark_units, units_caller]; omega)
  k_with "call builtin:list.index" => (k_here; (with_reducible show wpAny _ _ (call (Value.builtin _) [Value.ref _, Value.int _ _]) _ _ _); k_dflt (refine' own_index (by is_list) (by l_ints) (by tb_start) (by first | assumption | exact any_mem (by assumption)) ?_; k_whole))
  k_with "getMethod ref" => ((with_reducible show wpAny _ _ (getMethod (Value.ref _) (Str.ofString "index") _) _ _ _); k_dflt (refine getMethod_list_of PySem.F.slot_list_index PySem.F.type_list_index (by is_list) (by no_dict) ?_))
  k_with "call builtin:len" => (k_here; (with_reducible show wpAny _ _ (call (Value.builtin "len") [Value.ref _]) _ _ _); k_dflt (refine' own_len (by is_list) (by l_ints) (by tb_start) ?_; k_whole))
  k_with "subscriptTail Name Slice ref ref" => (k_here; (with_reducible show wpAny _ _ (subscriptTail _ (PySem.Expr.Slice _ _ none _) (Value.ref _) (Value.ref _)) _ _ _); k_dflt (refine' own_slice (by k_asm) (by k_asm) (by kmk_list) (by l_ints) (by tb_start) (by kmk_part) (by kmk_part) ?_ (by with_unfolding_all rfl) (by kmk_pure); k_whole); intro _ _ _ _ _ l1q _ _; (try k_lt l1q); (try k_sweep))
  k_with "binaryOp Mult ref int" => (k_here; (with_reducible show wpAny _ _ (binaryOp Operator.Mult (Value.ref _) (Value.int _ _)) _ _ _); k_dflt (refine' own_mul (by k_asm) (by k_asm) (by is_list) (by first | l_ints | l_intsW) (by tb_start) (by tb_start) (by exact mul_small (by tb_start) (by tb_start)) ?_; k_whole); intro _ _ _ _ _ l1q _ _; (try k_lt l1q); (try k_sweep))
  k_with "binaryOp Add ref ref" => (k_here; (with_reducible show wpAny _ _ (binaryOp Operator.Add (Value.ref _) (Value.ref _)) _ _ _); k_dflt (refine' own_add (by k_asm) (by k_asm) (by is_list) (by is_list) (by first | l_ints | l_intsW) (by first | l_ints | l_intsW) (by tb_start) ?_; k_whole); intro _ _ _ _ _ l1q _ _; (try k_lt l1q); (try k_sweep))
  k_with "subscriptTail Name Slice str ref" => ((with_reducible show wpAny _ _ (subscriptTail _ (Expr.Slice none (some _) none _) _ _) _ _ _); (with_reducible rename Fr _ _ _ _ => F'q); (with_reducible rename News _ _ _ _ => N'q); refine slice_strN_ns_len (hsz := (by first | exact Short.fits (by assumption) | (rw [sizeLine_eq]; omega))) (s := ⟨_, _, _, _, _⟩) F'q N'q ?_; intro _ _ _ F'q N'q _; (try k_sweep))
  k_with "subscriptTail Name Slice str ref" => ((with_reducible show wpAny _ _ (subscriptTail _ (Expr.Slice (some _) none none _) _ _) _ _ _); (with_reducible rename Fr _ _ _ _ => F'q); (with_reducible rename News _ _ _ _ => N'q); refine slice_strN_sn_len (hsz := (by first | exact Short.fits (by assumption) | (rw [sizeLine_eq]; omega))) (s := ⟨_, _, _, _, _⟩) F'q N'q ?_; intro _ _ _ F'q N'q _; (try k_sweep))
  k_with "tb_rel" => (intro _ h9q k9q; (simp only [List.forall_mem_cons, List.not_mem_nil, false_implies, implies_true, and_true, ne_eq] at h9q); (try simp only [List.contains_cons, List.contains_nil, Bool.or_false, Bool.or_eq_false_iff, beq_eq_false_iff_ne, ne_eq] at k9q); simp [kstB, h9q, k9q])
  k_with "loadName" => (k_dflt (refine' wpAny_loadName_local (by rfl) (by rfl) (by exact Fr.ns (by k_asm)) (by first | rfl | (with_unfolding_all rfl) | (simp; done)) ?_))
  k_with "subscriptTail" => (k_here; (with_reducible show wpAny _ _ (subscriptTail (PySem.Expr.Constant _ _ _) _ (Value.str _ _) (Value.int (Int.fmod _ 4) _)) _ _ _); (refine KXi.item (n := 4) rfl (Int.le_trans (by decide) (Int.fmod_nonneg_of_pos _ (by decide))) (Int.fmod_lt_of_pos _ (by decide)) (by decide) ?_); intro _)
  k_with "execs cons Expr cons" => ((with_reducible refine wpAny_execs_cons ?_); try dsimp only)
  k_with "execs cons" => ((with_reducible refine wpAny_execs_cons ?_); try dsimp only)
  k_with "inplaceOp Add ref ref" => (k_here; (with_reducible show wpAny _ _ (inplaceOp Operator.Add (Value.ref _) (Value.ref _)) _ _ _); k_dflt (refine' own_iadd (by k_asm) (by k_asm) (by k_mem) (by k_upd) (by exact wz_fits (by assumption) (by assumption) (by omega) (by omega)) ?_; k_whole); intro _ _ _; (try k_sweep))
  k_with "call builtin:list.append" => (k_here; (with_reducible show wpAny _ _ (call (Value.builtin _) [Value.ref _, _]) _ _ _); k_dflt (refine' append_K (its := List.toArray _) (by k_asm) (by k_asm) (by rw [List.push_toArray]; k_upd) ?_ (by exact wz_fits2 (by assumption) (by assumption) (by omega) (by omega)); k_whole); intro _ _ _; (try k_sweep))
  k_with "call builtin:list.index" => (k_here; (with_reducible show wpAny _ _ (call (Value.builtin _) [Value.ref _, Value.str _ _]) _ _ _); k_dflt (refine' own_indexS (by exact News.isList (by k_asm) (by k_mem)) (by assumption) (by decide) (by first | exact in_names2 _ | exact in_namesE _ _) ?_; k_whole))
  k_with "getMethod ref" => ((with_reducible show wpAny _ _ (getMethod (Value.ref _) (Str.ofString "index") _) _ _ _); k_dflt (refine getMethod_list_of PySem.F.slot_list_index PySem.F.type_list_index (News.isList (by k_asm) (by k_mem)) ⟨_, News.get (by k_asm) (by k_mem), rfl⟩ ?_))
  k_with "binaryOp Mult str int" => (k_here; (refine KXi.mul (n := 1) (by assumption) (by decide) (by omega) (by omega) ?_); intro _ _ _ kxNq; (have _ := kxNq (by omega)); clear kxNq)
  k_with "binaryOp Add str str" => (k_here; (refine SBL.add (hsz := (by (have e1 : (Str.ofString "=").length = 1 := rfl); rw [sizeLine_eq]; omega)) ?_); intro _ _ _)
  trivial
set_option maxHeartbeats 8000000 in
theorem pl4_c {w : World} {p : Program} {loose : List Str} {mean : ExcName → Option Value} {mg mb : Str → Option Value} {dp un : Nat} {gd : Option (List Code)} {cn : Str} {a : Addr} {ccd : Value} {cl : List (Str × Addr)} {outer : List Env} {A₀ : Around} {base h₀ : Heap} {L : Addr} {m : Str → Option Value} {s : Shared} {Q : Flow → Shared → Prop} {led : List (Addr × Obj)}
    {nm dl wl : Addr} {nmv dv : List Value} {dk nmk : Nat} {pl sh : Int} {tp v1 : Tok} {ds : List Int}
    (B : Below A₀ base outer h₀) (F : Fr h₀ L s.heap m) (X : (hd.heap_1 w.params).In h₀) (T : Top p loose mean mg mb h₀) (N : News h₀ L s.heap ((wl, listOf #[] 0) :: (dl, listOf dv.toArray dk) :: led))
    (f_shift : m (Str.ofString "shift") = some (Value.int sh v1)) (f_due : m (Str.ofString "due") = some (Value.ref dl)) (f_wanted : m (Str.ofString "wanted") = some (Value.ref wl)) (f_names : m (Str.ofString "names") = some (Value.ref nm)) (f_place : m (Str.ofString "place") = some (Value.int pl tp))
    (hnl : (nm, listOf nmv.toArray nmk) ∈ led) (hnI : StrsAre nmv NAMES) (hdI : IntsAre dv ds) (hw : ∀ n ∈ ds, 1 ≤ n ∧ n ≤ 6) (hw4 : ds.length ≤ 4) (hlt : ∀ p ∈ (dl, listOf dv.toArray dk) :: led, p.1 < wl) (hgb : AllBare s.gens) (hd : dp + 20 < recursionLimit) (hu : un + 300 < cLine)
    (hret : ∀ m' wv wk h' tk' g', IntsAre wv (wantP sh ds).1 → AllBare g' → Fr h₀ L h' m' → News h₀ L h' ((wl, listOf (List.toArray wv) wk) :: (dl, listOf dv.toArray dk) :: led) → (∀ y, y ≠ Str.ofString "sign" → y ≠ Str.ofString "shift" → y ≠ Str.ofString "width" → m' y = m y) → Q .next { s with heap := h', toks := tk', gens := g' }) :
    wpAny (model PySem.Challenge.rw_st0029_01.row.prog w) (ktrTop dp un gd cn lawFd.1.2 L a ccd cl outer) (execs pl4 (envX cn lawFd.1.2 L a ccd cl)) Q (fun _ _ => False) s := by
  w_top off
  revert X
  k_fill
  intro X
  simp only [lawFd, plFd, pl4, List.drop_succ_cons, List.drop_zero, List.take_succ_cons, List.take_zero]
  have eF : m = fun y => if y = Str.ofString "shift" then some (Value.int sh v1) else if y = Str.ofString "due" then some (Value.ref dl) else if y = Str.ofString "wanted" then some (Value.ref wl) else if y = Str.ofString "names" then some (Value.ref nm) else if y = Str.ofString "place" then some (Value.int pl tp) else m y := by
    (funext y9; (repeat (first | rfl | (split; · first | rfl | (rename_i q9; rw [q9]; assumption)))))
  rw [eF] at F
  try k_fold
  iterate 1 (first | (k_unfold; (try dsimp only)) | walk1 | (dsimp only; walk1))
  refine wpAny_For ?_
  iterate 1 (first | (k_unfold; (try dsimp only)) | walk1 | (dsimp only; walk1))
  (with_reducible rename Fr _ _ _ _ => tF)
  (with_reducible rename News _ _ _ _ => tN)
  refine own_listN (vs := dv) (k₀ := dk) (ns := ds) (fun i m₁ nx => ∃ wv wk v, nx = (wl, listOf wv.toArray wk) :: (dl, listOf dv.toArray dk) :: led ∧ IntsAre wv (wantP sh (ds.take i)).1 ∧ (wantP sh (ds.take i)).2 = sh + (i : Int) ∧ (wantP sh (ds.take i)).1.length ≤ 4 * i ∧ m₁ (Str.ofString "shift") = some (.int (sh + (i : Int)) v) ∧ ∀ y, y ≠ Str.ofString "sign" → y ≠ Str.ofString "shift" → y ≠ Str.ofString "width" → m₁ y = m y)
    rfl ?hl hdI rfl rfl tF tN hgb ?h0 ?turn ?done
  case hl => rintro i m₁ nx ⟨wv, wk, v, rfl, _⟩; exact .tail _ (.head _)
  case h0 => exact ⟨[], 0, v1, rfl, .nil, by simp [wantP], Nat.zero_le _, by simp, fun y h1 h2 h3 => (congrFun eF y).symm⟩
  case turn =>
    clear tF tN
    rintro i n t m₁ nx h tk g own hn hoff ⟨wv, wk, v, rfl, wI, w2, wl4, ms, m5⟩ gb bF bN
    have e_w : m₁ (Str.ofString "wanted") = some (.ref wl) := (m5 _ (by decide) (by decide) (by decide)).trans f_wanted
    have e_n : m₁ (Str.ofString "names") = some (.ref nm) := (m5 _ (by decide) (by decide) (by decide)).trans f_names
    have eF2 : (fun y => if y = Str.ofString "width" then some (Value.int n t) else m₁ y) = fun y => if y = Str.ofString "width" then some (Value.int n t) else if y = Str.ofString "shift" then some (.int (sh + (i : Int)) v) else if y = Str.ofString "wanted" then some (.ref wl) else if y = Str.ofString "names" then some (.ref nm) else m₁ y := by
      (funext y9; (repeat (first | rfl | (split; · first | rfl | (rename_i q9; rw [q9]; assumption)))))
    rw [eF2] at bF
    have hn6 := hw n (List.mem_of_getElem? hn)
    have hi4 : i < 4 := by have := (List.getElem?_eq_some_iff.mp hn).1; omega
    have m2a : 0 ≤ n.fmod 2 := Int.fmod_nonneg_of_pos _ (by decide)
    have m2b : n.fmod 2 < 2 := Int.fmod_lt_of_pos _ (by decide)
    have oN : OwnOff ((dl, listOf dv.toArray dk) :: (led ++ own)) [wl] := by
      intro p hp b hb
      rw [List.mem_singleton.mp hb]
      rcases List.mem_cons.mp hp with rfl | hp
      · exact Nat.ne_of_lt (hlt _ (.head _))
      · rcases List.mem_append.mp hp with hp | hp
        · exact Nat.ne_of_lt (hlt _ (.tail _ hp))
        · exact hoff p hp _ (.head _)
    dsimp only [List.cons_append] at bN
    try k_fold
    k_steps
    have hdt : ds.take (i + 1) = ds.take i ++ [n] := by rw [List.take_add_one, hn, Option.toList_some]
    have hst := wantP_snoc sh (ds.take i) n
    rw [← hdt, w2] at hst
    (with_reducible rename Fr _ _ _ _ => zF)
    (with_reducible rename News _ _ _ _ => zN)
    refine pl4_end zF zN hoff gb ⟨_, _, _, rfl, ?_, ?_, ?_, (congrArg (fun z => some (Value.int z _)) (show sh + (i : Int) + 1 = sh + ((i + 1 : Nat) : Int) by omega)), ?_⟩
    · rw [hst]
      show IntsAre _ ((wantP sh (ds.take i)).1 ++ wantS (sh + (i : Int)) n)
      unfold wantS
      rw [← List.append_assoc]
      exact (wI.append (by assumption)).append (.cons _ _ .nil)
    · rw [hst]; show sh + (i : Int) + 1 = _; rw [Int.natCast_add]; omega
    · rw [hst]
      show ((wantP sh (ds.take i)).1 ++ wantS (sh + (i : Int)) n).length ≤ _
      have := wantS_len (k := sh + (i : Int)) hn6.2
      rw [List.length_append]; omega
    · intro y h1 h2 h3
      simp only [if_neg h1, if_neg h2, if_neg h3]
      rw [← m5 y h1 h2 h3]
      split
      · rename_i q; rw [q]; exact e_w.symm
      · split
        · rename_i q; rw [q]; exact e_n.symm
        · rfl
  case done =>
    clear tF tN
    rintro m₁ nx h tk g ⟨wv, wk, v, rfl, wI, w2, wl4, ms, m5⟩ gb bF bN
    rw [List.take_length] at wI
    try k_fold
    k_steps
    exact hret _ wv wk _ _ g wI gb bF bN (fun y h1 h2 h3 => m5 y h1 h2 h3)
end
-- text pl5
section
theorem reg_pl5_1 : True := by
  k_with_none
  k_with "cell_enter" => (refine' own_def0 ?cek1 ?cek2 ?cek3 ?cek5 ?cekA ?cekF ?cekK ?cek6 ?cek7 ?cek8 ?cek9 ?cekB ?_ ?cec2 ?cec3 ?cec4 ?cec5; (case cekA => exact rfl); (case cekF => exact rfl); (case cekK => assumption); (case cek1 => k_asm); (case cek2 => k_asm); (case cek3 => k_asm); (case cek5 => k_asm); (case cek6 => k_is); (case cek7 => k_is); (case cek8 => ktr_room); (case cek9 => exact BindsTo.of_eq rfl); (case cec5 => decide); (case cekB => exact locs rfl); (case cec2 => exact rfl); (case cec3 => exact rfl); (case cec4 => exact rfl); k_whole; intro _ _ _ Bq9 _ _; (try dsimp only); (try k_lift Bq9); (try k_fold))
  k_with "units_room" => (have hcL9 := cLine_is; (try dsimp only [ktrTop]); simp only [units_in1, units_deeper, Around.mark_units, units_caller]; omega)
  k_with "call builtin:list.index" => (k_here; (with_reducible show wpAny _ _ (call (Value.builtin _) [Value.ref _, Value.int _ _]) _ _ _); k_dflt (refine' own_index (by is_list) (by l_ints) (by tb_start) (by first | assumption | exact any_mem (by assumption)) ?_; k_whole))
  k_with "getMethod ref" => ((with_reducible show wpAny _ _ (getMethod (Value.ref _) (Str.ofString "index") _) _ _ _); k_dflt (refine getMethod_list_of PySem.F.slot_list_index PySem.F.type_list_index (by is_list) (by no_dict) ?_))
  k_with "call builtin:len" => (k_here; (with_reducible show wpAny _ _ (call (Value.builtin "len") [Value.ref _]) _ _ _); k_dflt (refine' own_len (by is_list) (by l_ints) (by tb_start) ?_; k_whole))
  k_with "subscriptTail Name Slice ref ref" => (k_here; (with_reducible show wpAny _ _ (subscriptTail _ (PySem.Expr.Slice _ _ none _) (Value.ref _) (Value.ref _)) _ _ _); k_dflt (refine' own_slice (by k_asm) (by k_asm) (by kmk_list) (by l_ints) (by tb_start) (by kmk_part) (by kmk_part) ?_ (by with_unfolding_all rfl) (by kmk_pure); k_whole); intro _ _ _ _ _ l1q _ _; (try k_lt l1q); (try k_sweep))
  k_with "binaryOp Mult ref int" => (k_here; (with_reducible show wpAny _ _ (binaryOp Operator.Mult (Value.ref _) (Value.int _ _)) _ _ _); k_dflt (refine' own_mul (by k_asm) (by k_asm) (by is_list) (by first | l_ints | l_intsW) (by tb_start) (by tb_start) (by exact mul_small (by tb_start) (by tb_start)) ?_; k_whole); intro _ _ _ _ _ l1q _ _; (try k_lt l1q); (try k_sweep))
  k_with "binaryOp Add ref ref" => (k_here; (with_reducible show wpAny _ _ (binaryOp Operator.Add (Value.ref _) (Value.ref _)) _ _ _); k_dflt (refine' own_add (by k_asm) (by k_asm) (by is_list) (by is_list) (by first | l_ints | l_intsW) (by first | l_ints | l_intsW) (by tb_start) ?_; k_whole); intro _ _ _ _ _ l1q _ _; (try k_lt l1q); (try k_sweep))
  k_with "subscriptTail Name Slice str ref" => ((with_reducible show wpAny _ _ (subscriptTail _ (Expr.Slice none (some _) none _) _ _) _ _ _); (with_reducible rename Fr _ _ _ _ => F'q); (with_reducible rename News _ _ _ _ => N'q); refine slice_strN_ns_len (hsz := (by first | exact Short.fits (by assumption) | (rw [sizeLine_eq]; omega))) (s := ⟨_, _, _, _, _⟩) F'q N'q ?_; intro _ _ _ F'q N'q _; (try k_sweep))
  k_with "subscriptTail Name Slice str ref" => ((with_reducible show wpAny _ _ (subscriptTail _ (Expr.Slice (some _) none none _) _ _) _ _ _); (with_reducible rename Fr _ _ _ _ => F'q); (with_reducible rename News _ _ _ _ => N'q); refine slice_strN_sn_len (hsz := (by first | exact Short.fits (by assumption) | (rw [sizeLine_eq]; omega))) (s := ⟨_, _, _, _, _⟩) F'q N'q ?_; intro _ _ _ F'q N'q _; (try k_sweep))
  k_with "tb_rel" => (intro _ h9q k9q; (simp only [List.forall_mem_cons, List.not_mem_nil, false_implies, implies_true, and_true, ne_eq] at h9q); (try simp only [List.contains_cons, List.contains_nil, Bool.or_false, Bool.or_eq_false_iff, beq_eq_false_iff_ne, ne_eq] at k9q); simp [kstB, h9q, k9q])
  k_with "subscriptTail Name Name ref int" => (k_here; (with_reducible show wpAny _ _ (subscriptTail _ _ (Value.ref _) (Value.int _ _)) _ _ _); k_dflt (refine' item_listR (by exact News.isList (by k_asm) (by k_mem)) (by omega) (by omega) (by assumption) ?_ (by with_unfolding_all rfl); k_whole))
  k_with "execs cons Expr cons" => ((with_reducible refine wpAny_execs_cons ?_); try dsimp only)
  k_with "execs cons" => ((with_reducible refine wpAny_execs_cons ?_); try dsimp only)
  trivial
set_option maxHeartbeats 8000000 in
theorem pl5_c {w : World} {p : Program} {loose : List Str} {mean : ExcName → Option Value} {mg mb : Str → Option Value} {dp un : Nat} {gd : Option (List Code)} {cn : Str} {a : Addr} {ccd : Value} {cl : List (Str × Addr)} {outer : List Env} {A₀ : Around} {base h₀ : Heap} {L : Addr} {m : Str → Option Value} {s : Shared} {Q : Flow → Shared → Prop} {led : List (Addr × Obj)}
    {bh nl wl : Addr} {bv nv wv : List Value} {bk nk wk : Nat} {pl la Bi : Int} {tp v3 bi : Tok} {nums wants : List Int}
    (B : Below A₀ base outer h₀) (F : Fr h₀ L s.heap m) (X : (hd.heap_1 w.params).In h₀) (T : Top p loose mean mg mb h₀) (N : News h₀ L s.heap ((wl, listOf wv.toArray wk) :: (nl, listOf nv.toArray nk) :: led))
    (f_numbers : m (Str.ofString "numbers") = some (Value.ref nl)) (f_wanted : m (Str.ofString "wanted") = some (Value.ref wl)) (f_last : m (Str.ofString "last") = some (Value.int la v3)) (f_behind : m (Str.ofString "behind") = some (Value.ref bh)) (f_place : m (Str.ofString "place") = some (Value.int pl tp))
    (hbl : (bh, listOf bv.toArray bk) ∈ led) (hp0 : 0 ≤ pl) (hp1 : pl < 2) (hla0 : 0 ≤ la) (hla1 : la < 48) (hB0 : 0 ≤ Bi) (hB1 : Bi ≤ 6) (hBi : bv.toArray[pl.toNat]? = some (.int Bi bi)) (hnI : IntsAre nv nums) (hwI : IntsAre wv wants) (hnum : nums = (wants ++ repI Bi [31]) ++ [la + 7]) (hwz : wants.length ≤ 16) (hnz : nums.length ≤ 1000) (hgb : AllBare s.gens) (hd : dp + 20 < recursionLimit) (hu : un + 300 < cLine)
    (hret : ∀ h' tk', Fr h₀ L h' m → News h₀ L h' ((wl, listOf wv.toArray wk) :: (nl, listOf nv.toArray nk) :: led) → Q .next { s with heap := h', toks := tk' }) :
    wpAny (model PySem.Challenge.rw_st0029_01.row.prog w) (ktrTop dp un gd cn lawFd.1.2 L a ccd cl outer) (execs pl5 (envX cn lawFd.1.2 L a ccd cl)) Q (fun _ _ => False) s := by
  w_top off
  revert X
  k_fill
  intro X
  simp only [lawFd, plFd, pl5, List.drop_succ_cons, List.drop_zero, List.take_succ_cons, List.take_zero]
  have eF : m = fun y => if y = Str.ofString "numbers" then some (Value.ref nl) else if y = Str.ofString "wanted" then some (Value.ref wl) else if y = Str.ofString "last" then some (Value.int la v3) else if y = Str.ofString "behind" then some (Value.ref bh) else if y = Str.ofString "place" then some (Value.int pl tp) else m y := by
    (funext y9; (repeat (first | rfl | (split; · first | rfl | (rename_i q9; rw [q9]; assumption)))))
  rw [eF] at F
  try k_fold
  k_steps
  (with_reducible rename Fr _ _ _ _ => zF)
  (with_reducible rename News _ _ _ _ => zN)
  rw [← eF] at zF
  refine hret _ _ zF fun p hp => zN p ?_
  rcases List.mem_cons.mp hp with rfl | hp
  · k_mem
  · rcases List.mem_cons.mp hp with rfl | hp
    · k_mem
    · k_mem
end
-- text pl6
section
theorem zO_of {x : Addr × Obj} {r four : List (Addr × Obj)} (h : ∀ p ∈ x :: r, ∀ q ∈ four, p.1 ≠ q.1) : ∀ p ∈ r, ∀ q ∈ four, p.1 ≠ q.1 := fun p hp => h p (.tail _ hp)
theorem behindW {w : World} {h₀ h' : Heap} {L l : Addr} {m : Str → Option Value} {news : List (Addr × Obj)} {s : Shared} {q : List Int × Int × Int × Int} (F : Fr h₀ L s.heap m) (N : News h₀ L s.heap news) (st : s.heap.StaysIn h') (W : WsNew w s.heap h' l q) :
    ∃ dx nT cT od on oc, Fr h₀ L h' m ∧ News h₀ L h' ((l, instObj 76 dx) :: (dx, od) :: (nT, on) :: (cT, oc) :: news) ∧ (∀ p ∈ news, ∀ q ∈ [(l, instObj 76 dx), (dx, od), (nT, on), (cT, oc)], p.1 ≠ q.1) ∧ ∀ h'' : Heap, (∀ p ∈ [(l, instObj 76 dx), (dx, od), (nT, on), (cT, oc)], h''.get? p.1 = some p.2) → WsAt w h'' l q := by
  obtain ⟨dx, nT, cT, od, on, oc, hl, hW⟩ := W
  obtain ⟨F', N'⟩ := behind F N st
  refine ⟨dx, nT, cT, od, on, oc, F', ?_, fun p hp q hq e => (by have := (hl q hq).2; rw [← e, (N p hp).1] at this; cases this), hW⟩
  have key : ∀ p ∈ [(l, instObj 76 dx), (dx, od), (nT, on), (cT, oc)], h'.get? p.1 = some p.2 ∧ p.1 ≠ L ∧ h₀.get? p.1 = none := fun p hp => by
    refine ⟨(hl p hp).1, fun q => ?_, ?_⟩
    · obtain ⟨oL, _, _, hL, _⟩ := F.ns
      have := (hl p hp).2
      rw [q, hL] at this; cases this
    · cases e : h₀.get? p.1 with
      | none => rfl
      | some o' => have := F.keep _ _ e; rw [(hl p hp).2] at this; cases this
  intro p hp
  rcases List.mem_cons.mp hp with rfl | hp
  · exact key _ (.head _)
  · rcases List.mem_cons.mp hp with rfl | hp
    · exact key _ (.tail _ (.head _))
    · rcases List.mem_cons.mp hp with rfl | hp
      · exact key _ (.tail _ (.tail _ (.head _)))
      · rcases List.mem_cons.mp hp with rfl | hp
        · exact key _ (.tail _ (.tail _ (.tail _ (.head _))))
        · exact N' p hp
theorem wsOf {w : World} {h₀ h : Heap} {L l : Addr} {news lw : List (Addr × Obj)} {q : List Int × Int × Int × Int} (N : News h₀ L h news) (hW : ∀ h'' : Heap, (∀ p ∈ lw, h''.get? p.1 = some p.2) → WsAt w h'' l q) (hm : ∀ p ∈ lw, p ∈ news) : WsAt w h l q := hW h fun p hp => (N p (hm p hp)).1
theorem own_lastI {prog : Program} {w : World} {A : Around} {E : Value → Shared → Prop} {s : Shared} {value slice : PySem.Expr} {l : Addr} {vs : List Value} {ns : List Int} {x k : Int} {u : Tok} {Q : Value → Shared → Prop} (hl : s.heap.IsList l vs.toArray) (hi : IntsAre vs (ns ++ [x])) (hk : k = -1) (hb : ns.length ≤ 1000) (h : ∀ t, Q (.int x t) s)
    (hs : subscripted slice false (.ref l) (.int k u) = operate [.ref l, .int k u] (getItem (.ref l) (.int k u)) := by with_unfolding_all rfl) :
    wpAny (model prog w) A (subscriptTail value slice (.ref l) (.int k u)) Q E s := by
  have e : (k + ((ns ++ [x]).length : Int)).toNat = ns.length := by rw [List.length_append, List.length_singleton]; omega
  refine item_list_ints_negR hl hi (by omega) (by rw [List.length_append, List.length_singleton]; omega) (by omega) (fun t => ?_) hs
  rw [e]
  have : (ns ++ [x]).getD ns.length 0 = x := by simp
  rw [this]; exact h t
theorem wsOf4 {w : World} {h₀ h : Heap} {L l dx nT cT : Addr} {news : List (Addr × Obj)} {q : List Int × Int × Int × Int} {od on oc : Obj} (N : News h₀ L h news) (hW : ∀ h'' : Heap, (∀ p ∈ [(l, instObj 76 dx), (dx, od), (nT, on), (cT, oc)], h''.get? p.1 = some p.2) → WsAt w h'' l q)
    (m1 : (l, instObj 76 dx) ∈ news) (m2 : (dx, od) ∈ news) (m3 : (nT, on) ∈ news) (m4 : (cT, oc) ∈ news) : WsAt w h l q := hW h fun p hp => by
  simp only [List.mem_cons, List.not_mem_nil, or_false] at hp
  rcases hp with rfl | rfl | rfl | rfl
  · exact (N _ m1).1
  · exact (N _ m2).1
  · exact (N _ m3).1
  · exact (N _ m4).1
theorem ws_method {prog : Program} {w : World} {A : Around} {E : Value → Shared → Prop} {s : Shared} {K : Frag} {h₀ : Heap} {L l f : Addr} {m : Str → Option Value} {name : Str} {pl : Sem Bool} {Q : Value × List Value → Shared → Prop} {q : List Int × Int × Int × Int} (W : WsAt w s.heap l q) (F : Fr h₀ L s.heap m) (X₀ : K.In h₀) (hg : plainGet K 76 name = true)
    (hf : findIn K (.ref 76) name = some (some (.ref f))) (ht : isFn K (.ref f) = true) (hl : ∀ t1 t2 t3 t4 t5 v1 v2 v3 v4 v5, getL name [wsEnt w.params (Str.ofString "raw") t1 v1, wsEnt w.params (Str.ofString "n") t2 v2, wsEnt w.params (Str.ofString "nt") t3 v3, wsEnt w.params (Str.ofString "norm") t4 v4, wsEnt w.params (Str.ofString "is_simple") t5 v5] = some none)
    (h : Q (.ref f, [.ref l]) s) : wpAny (model prog w) A (getMethod (.ref l) name pl) Q E s := by
  obtain ⟨dx, nT, cT, cvs, wx, wtx, t1, t2, t3, t4, t5, u1, u2, u3, w1, w2, w3, w4, w5⟩ := W
  exact method_inst F X₀ ⟨w1, rfl, rfl, w2⟩ hg hf ht (hl ..) h
theorem reg_pl6_1 : True := by
  k_with_none
  k_with "cell_enter" => (refine' own_def0 ?cek1 ?cek2 ?cek3 ?cek5 ?cekA ?cekF ?cekK ?cek6 ?cek7 ?cek8 ?cek9 ?cekB ?_ ?cec2 ?cec3 ?cec4 ?cec5; (case cekA => exact rfl); (case cekF => exact rfl); (case cekK => assumption); (case cek1 => k_asm); (case cek2 => k_asm); (case cek3 => k_asm); (case cek5 => k_asm); (case cek6 => k_is); (case cek7 => k_is); (case cek8 => ktr_room); (case cek9 => exact BindsTo.of_eq rfl); (case cec5 => decide); (case cekB => exact locs rfl); (case cec2 => exact rfl); (case cec3 => exact rfl); (case cec4 => exact rfl); k_whole; intro _ _ _ Bq9 _ _; (try dsimp only); (try k_lift Bq9); (try k_fold))
  k_with "units_room" => (have hcL9 := cLine_is; (try dsimp only [ktrTop]); simp only [units_in1, units_deeper, Around.mark_units, units_caller]; omega)
  k_with "call builtin:list.index" => (k_here; (with_reducible show wpAny _ _ (call (Value.builtin _) [Value.ref _, Value.int _ _]) _ _ _); k_dflt (refine' own_index (by is_list) (by l_ints) (by tb_start) (by first | assumption | exact any_mem (by assumption)) ?_; k_whole))
  k_with "getMethod ref" => ((with_reducible show wpAny _ _ (getMethod (Value.ref _) (Str.ofString "index") _) _ _ _); k_dflt (refine getMethod_list_of PySem.F.slot_list_index PySem.F.type_list_index (by is_list) (by no_dict) ?_))
  k_with "call builtin:len" => (k_here; (with_reducible show wpAny _ _ (call (Value.builtin "len") [Value.ref _]) _ _ _); k_dflt (refine' own_len (by is_list) (by l_ints) (by tb_start) ?_; k_whole))
  k_with "subscriptTail Name Slice ref ref" => (k_here; (with_reducible show wpAny _ _ (subscriptTail _ (PySem.Expr.Slice _ _ none _) (Value.ref _) (Value.ref _)) _ _ _); k_dflt (refine' own_slice (by k_asm) (by k_asm) (by kmk_list) (by l_ints) (by tb_start) (by kmk_part) (by kmk_part) ?_ (by with_unfolding_all rfl) (by kmk_pure); k_whole); intro _ _ _ _ _ l1q _ _; (try k_lt l1q); (try k_sweep))
  k_with "binaryOp Mult ref int" => (k_here; (with_reducible show wpAny _ _ (binaryOp Operator.Mult (Value.ref _) (Value.int _ _)) _ _ _); k_dflt (refine' own_mul (by k_asm) (by k_asm) (by is_list) (by first | l_ints | l_intsW) (by tb_start) (by tb_start) (by exact mul_small (by tb_start) (by tb_start)) ?_; k_whole); intro _ _ _ _ _ l1q _ _; (try k_lt l1q); (try k_sweep))
  k_with "binaryOp Add ref ref" => (k_here; (with_reducible show wpAny _ _ (binaryOp Operator.Add (Value.ref _) (Value.ref _)) _ _ _); k_dflt (refine' own_add (by k_asm) (by k_asm) (by is_list) (by is_list) (by first | l_ints | l_intsW) (by first | l_ints | l_intsW) (by tb_start) ?_; k_whole); intro _ _ _ _ _ l1q _ _; (try k_lt l1q); (try k_sweep))
  k_with "subscriptTail Name Slice str ref" => ((with_reducible show wpAny _ _ (subscriptTail _ (Expr.Slice none (some _) none _) _ _) _ _ _); (with_reducible rename Fr _ _ _ _ => F'q); (with_reducible rename News _ _ _ _ => N'q); refine slice_strN_ns_len (hsz := (by first | exact Short.fits (by assumption) | (rw [sizeLine_eq]; omega))) (s := ⟨_, _, _, _, _⟩) F'q N'q ?_; intro _ _ _ F'q N'q _; (try k_sweep))
  k_with "subscriptTail Name Slice str ref" => ((with_reducible show wpAny _ _ (subscriptTail _ (Expr.Slice (some _) none none _) _ _) _ _ _); (with_reducible rename Fr _ _ _ _ => F'q); (with_reducible rename News _ _ _ _ => N'q); refine slice_strN_sn_len (hsz := (by first | exact Short.fits (by assumption) | (rw [sizeLine_eq]; omega))) (s := ⟨_, _, _, _, _⟩) F'q N'q ?_; intro _ _ _ F'q N'q _; (try k_sweep))
  k_with "tb_rel" => (intro _ h9q k9q; (simp only [List.forall_mem_cons, List.not_mem_nil, false_implies, implies_true, and_true, ne_eq] at h9q); (try simp only [List.contains_cons, List.contains_nil, Bool.or_false, Bool.or_eq_false_iff, beq_eq_false_iff_ne, ne_eq] at k9q); simp [kstB, h9q, k9q])
  k_with "subscriptTail Name UnaryOp ref int" => (k_here; (with_reducible show wpAny _ _ (subscriptTail (PySem.Expr.Name _ _) (PySem.Expr.UnaryOp _ _ _) (Value.ref _) (Value.int _ _)) _ _ _); k_dflt (refine' own_lastI (by exact News.isList (by k_asm) (by k_mem)) (by assumption) (by rfl) (by assumption) ?_ (by with_unfolding_all rfl)); intro _)
  k_with "subscriptTail Name Name ref int" => (k_here; (with_reducible show wpAny _ _ (subscriptTail _ _ (Value.ref _) (Value.int _ _)) _ _ _); k_dflt (refine' item_listR (by exact News.isList (by k_asm) (by k_mem)) (by omega) (by omega) (by assumption) ?_ (by with_unfolding_all rfl); k_whole))
  k_with "subscriptTail Name BinOp ref int" => (k_here; (with_reducible show wpAny _ _ (subscriptTail _ _ (Value.ref _) (Value.int _ _)) _ _ _); k_dflt (refine' item_listR (by exact News.isList (by k_asm) (by k_mem)) (by omega) (by omega) (by assumption) ?_ (by with_unfolding_all rfl); k_whole))
  k_with "execs cons Expr cons" => ((with_reducible refine wpAny_execs_cons ?_); try dsimp only)
  k_with "execs cons" => ((with_reducible refine wpAny_execs_cons ?_); try dsimp only)
  k_with "getMethod ref" => (k_here; k_dflt (refine' ws_method (by exact wsOf4 (by k_asm) (by assumption) (by k_mem) (by k_mem) (by k_mem) (by k_mem)) (by k_asm) (by k_asm) (by k_is) (by k_is) (by k_is) (by intros; rfl) ?_; k_whole))
  k_with "call ref" => (k_dflt (show wpAny _ _ (call (Value.ref 125) [Value.ref _]) _ _ _); k_dflt (refine' lead_c (by k_asm) (by k_asm) (by k_asm) (by k_asm) (by rfl) (by exact News.get (by k_asm) (by k_mem)) (by assumption) (by exact Nat.le_trans (length_cutI_le _ _ _) (by assumption)) (by (try dsimp only [ktrTop]); omega) (by (try dsimp only [ktrTop]); omega) ?_); intro _ _ _ st'q; k_dflt (obtain ⟨_, _⟩ := behind (by k_asm) (by k_asm) st'q); clear st'q; (try k_sweep); (rw [‹leadF _ = _›]))
  k_with "call ref" => (k_dflt (show wpAny _ _ (call (Value.ref 76) [Value.str _ _]) _ _ _); k_dflt (refine' ws_c (by k_asm) (by k_asm) (by k_asm) (by k_asm) (by rfl) (by assumption) (by (try dsimp only [ktrTop]); omega) (by (try dsimp only [ktrTop]); omega) ?_); intro _ _ _ st'q _ hWnq; k_dflt (obtain ⟨_, _, _, _, _, _, _, _, _, hW9⟩ := behindW (by k_asm) (by k_asm) st'q hWnq); clear st'q hWnq; (rw [‹wsRun _ _ _ _ _ = _›] at hW9); (try k_sweep))
  k_with "call ref" => (k_dflt (show wpAny _ _ (call (Value.ref 45) [Value.ref _, Value.int _ _]) _ _ _); k_dflt (refine' indent_c (by k_asm) (by k_asm) (by k_asm) (by k_asm) (by rfl) (by exact wsOf4 (by k_asm) (by assumption) (by k_mem) (by k_mem) (by k_mem) (by k_mem)) (by assumption) (by omega) (by omega) (by (try dsimp only [ktrTop]); omega) (by (try dsimp only [ktrTop]); omega) ?_); intro _ _ _ st'q; k_dflt (obtain ⟨_, _⟩ := behind (by k_asm) (by k_asm) st'q); clear st'q; (try k_sweep))
  k_with "binaryOp Add str str" => (k_here; (refine SBL.add (hsz := (by (have e1 : (Str.ofString " \t").length = 2 := rfl); rw [sizeLine_eq]; omega)) ?_); intro _ _ _)
  trivial
set_option maxHeartbeats 8000000 in
theorem pl6_c {w : World} {p : Program} {loose : List Str} {mean : ExcName → Option Value} {mg mb : Str → Option Value} {dp un : Nat} {gd : Option (List Code)} {cn : Str} {a : Addr} {ccd : Value} {cl : List (Str × Addr)} {outer : List Env} {A₀ : Around} {base h₀ : Heap} {L : Addr} {m : Str → Option Value} {s : Shared} {Q : Flow → Shared → Prop} {led : List (Addr × Obj)}
    {nm bh nl wl : Addr} {nmv bv nv wv : List Value} {nmk bk nk wk : Nat} {pl la Bi : Int} {tp bi oi : Tok} {pre wants : List Int} {op ld : Str} {q : List Int × Int × Int × Int}
    (B : Below A₀ base outer h₀) (F : Fr h₀ L s.heap m) (X : (hd.heap_1 w.params).In h₀) (T : Top p loose mean mg mb h₀) (N : News h₀ L s.heap ((wl, listOf wv.toArray wk) :: (nl, listOf nv.toArray nk) :: led))
    (f_numbers : m (Str.ofString "numbers") = some (Value.ref nl)) (f_wanted : m (Str.ofString "wanted") = some (Value.ref wl)) (f_names : m (Str.ofString "names") = some (Value.ref nm)) (f_behind : m (Str.ofString "behind") = some (Value.ref bh)) (f_place : m (Str.ofString "place") = some (Value.int pl tp))
    (hnl : (nm, listOf nmv.toArray nmk) ∈ led) (hbl : (bh, listOf bv.toArray bk) ∈ led) (hp0 : 0 ≤ pl) (hp1 : pl < 2) (hla0 : 0 ≤ la) (hla1 : la < 48) (hB0 : 0 ≤ Bi) (hB1 : Bi ≤ 6) (hBi : bv.toArray[pl.toNat]? = some (.int Bi bi)) (hNi : nmv.toArray[(la + 7 - 7).toNat]? = some (.str op oi)) (hnI : IntsAre nv (pre ++ [la + 7])) (hwI : IntsAre wv wants) (hwz : wants.length ≤ 16) (hnz : pre.length ≤ 1000) (hnz2 : (pre ++ [la + 7]).length ≤ 1000) (hL : leadF (cutI (pre ++ [la + 7]) none (some (-1))) = ld) (hll : ld.length ≤ 150) (hop : op.length ≤ 3) (hTy : Tiny ((ld ++ op) ++ Str.ofString " \t")) (hq : wsRun (PySem.W.KStt.codes ((ld ++ op) ++ Str.ofString " \t")) [] 0 0 0 = q) (hqz : q.1.length ≤ 200) (hqi : indF q 2 = 2 * (wants.length : Int) + Bi) (hgb : AllBare s.gens) (hd : dp + 20 < recursionLimit) (hu : un + 300 < cLine)
    (hret : ∀ m' l dx nT cT od on oc h' tk', (∀ h'' : Heap, (∀ p ∈ [(l, instObj 76 dx), (dx, od), (nT, on), (cT, oc)], h''.get? p.1 = some p.2) → WsAt w h'' l q) → (∀ p ∈ ((wl, listOf wv.toArray wk) :: (nl, listOf nv.toArray nk) :: led), ∀ q ∈ [(l, instObj 76 dx), (dx, od), (nT, on), (cT, oc)], p.1 ≠ q.1) → Fr h₀ L h' m' → News h₀ L h' ((l, instObj 76 dx) :: (dx, od) :: (nT, on) :: (cT, oc) :: ((wl, listOf wv.toArray wk) :: (nl, listOf nv.toArray nk) :: led)) → (∀ y, y ≠ Str.ofString "line" → m' y = m y) → m' (Str.ofString "line") = some (.ref l) → Q .next { s with heap := h', toks := tk' }) :
    wpAny (model PySem.Challenge.rw_st0029_01.row.prog w) (ktrTop dp un gd cn lawFd.1.2 L a ccd cl outer) (execs pl6 (envX cn lawFd.1.2 L a ccd cl)) Q (fun _ _ => False) s := by
  w_top off
  revert X
  k_fill
  intro X
  simp only [lawFd, plFd, pl6, List.drop_succ_cons, List.drop_zero, List.take_succ_cons, List.take_zero]
  have eF : m = fun y => if y = Str.ofString "numbers" then some (Value.ref nl) else if y = Str.ofString "wanted" then some (Value.ref wl) else if y = Str.ofString "names" then some (Value.ref nm) else if y = Str.ofString "behind" then some (Value.ref bh) else if y = Str.ofString "place" then some (Value.int pl tp) else m y := by
    (funext y9; (repeat (first | rfl | (split; · first | rfl | (rename_i q9; rw [q9]; assumption)))))
  rw [eF] at F
  try k_fold
  k_steps
  · exact absurd hqi (by assumption)
  (with_reducible rename Fr _ _ _ _ => zF)
  (with_reducible rename News _ _ _ _ => zN)
  refine hret _ _ _ _ _ _ _ _ _ _ (by assumption) (zO_of (by assumption)) zF (fun p hp => zN p ?_) (fun y h1 => ?_) rfl
  · rcases List.mem_cons.mp hp with rfl | hp
    · k_mem
    · rcases List.mem_cons.mp hp with rfl | hp
      · k_mem
      · rcases List.mem_cons.mp hp with rfl | hp
        · k_mem
        · rcases List.mem_cons.mp hp with rfl | hp
          · k_mem
          · exact .tail _ (.tail _ (.tail _ (.tail _ (.tail _ hp))))
  · simp only [if_neg h1]
    exact (congrFun eF y).symm
end
-- text pl7
section
theorem reg_pl7_1 : True := by
  k_with_none
  k_with "cell_enter" => (refine' own_def0 ?cek1 ?cek2 ?cek3 ?cek5 ?cekA ?cekF ?cekK ?cek6 ?cek7 ?cek8 ?cek9 ?cekB ?_ ?cec2 ?cec3 ?cec4 ?cec5; (case cekA => exact rfl); (case cekF => exact rfl); (case cekK => assumption); (case cek1 => k_asm); (case cek2 => k_asm); (case cek3 => k_asm); (case cek5 => k_asm); (case cek6 => k_is); (case cek7 => k_is); (case cek8 => ktr_room); (case cek9 => exact BindsTo.of_eq rfl); (case cec5 => decide); (case cekB => exact locs rfl); (case cec2 => exact rfl); (case cec3 => exact rfl); (case cec4 => exact rfl); k_whole; intro _ _ _ Bq9 _ _; (try dsimp only); (try k_lift Bq9); (try k_fold))
  k_with "units_room" => (have hcL9 := cLine_is; (try dsimp only [ktrTop]); simp only [units_in1, units_deeper, Around.mark_units, units_caller]; omega)
  k_with "call builtin:list.index" => (k_here; (with_reducible show wpAny _ _ (call (Value.builtin _) [Value.ref _, Value.int _ _]) _ _ _); k_dflt (refine' own_index (by is_list) (by l_ints) (by tb_start) (by first | assumption | exact any_mem (by assumption)) ?_; k_whole))
  k_with "getMethod ref" => ((with_reducible show wpAny _ _ (getMethod (Value.ref _) (Str.ofString "index") _) _ _ _); k_dflt (refine getMethod_list_of PySem.F.slot_list_index PySem.F.type_list_index (by is_list) (by no_dict) ?_))
  k_with "call builtin:len" => (k_here; (with_reducible show wpAny _ _ (call (Value.builtin "len") [Value.ref _]) _ _ _); k_dflt (refine' own_len (by is_list) (by l_ints) (by tb_start) ?_; k_whole))
  k_with "subscriptTail Name Slice ref ref" => (k_here; (with_reducible show wpAny _ _ (subscriptTail _ (PySem.Expr.Slice _ _ none _) (Value.ref _) (Value.ref _)) _ _ _); k_dflt (refine' own_slice (by k_asm) (by k_asm) (by kmk_list) (by l_ints) (by tb_start) (by kmk_part) (by kmk_part) ?_ (by with_unfolding_all rfl) (by kmk_pure); k_whole); intro _ _ _ _ _ l1q _ _; (try k_lt l1q); (try k_sweep))
  k_with "binaryOp Mult ref int" => (k_here; (with_reducible show wpAny _ _ (binaryOp Operator.Mult (Value.ref _) (Value.int _ _)) _ _ _); k_dflt (refine' own_mul (by k_asm) (by k_asm) (by is_list) (by first | l_ints | l_intsW) (by tb_start) (by tb_start) (by exact mul_small (by tb_start) (by tb_start)) ?_; k_whole); intro _ _ _ _ _ l1q _ _; (try k_lt l1q); (try k_sweep))
  k_with "binaryOp Add ref ref" => (k_here; (with_reducible show wpAny _ _ (binaryOp Operator.Add (Value.ref _) (Value.ref _)) _ _ _); k_dflt (refine' own_add (by k_asm) (by k_asm) (by is_list) (by is_list) (by first | l_ints | l_intsW) (by first | l_ints | l_intsW) (by tb_start) ?_; k_whole); intro _ _ _ _ _ l1q _ _; (try k_lt l1q); (try k_sweep))
  k_with "subscriptTail Name Slice str ref" => ((with_reducible show wpAny _ _ (subscriptTail _ (Expr.Slice none (some _) none _) _ _) _ _ _); (with_reducible rename Fr _ _ _ _ => F'q); (with_reducible rename News _ _ _ _ => N'q); refine slice_strN_ns_len (hsz := (by first | exact Short.fits (by assumption) | (rw [sizeLine_eq]; omega))) (s := ⟨_, _, _, _, _⟩) F'q N'q ?_; intro _ _ _ F'q N'q _; (try k_sweep))
  k_with "subscriptTail Name Slice str ref" => ((with_reducible show wpAny _ _ (subscriptTail _ (Expr.Slice (some _) none none _) _ _) _ _ _); (with_reducible rename Fr _ _ _ _ => F'q); (with_reducible rename News _ _ _ _ => N'q); refine slice_strN_sn_len (hsz := (by first | exact Short.fits (by assumption) | (rw [sizeLine_eq]; omega))) (s := ⟨_, _, _, _, _⟩) F'q N'q ?_; intro _ _ _ F'q N'q _; (try k_sweep))
  k_with "tb_rel" => (intro _ h9q k9q; (simp only [List.forall_mem_cons, List.not_mem_nil, false_implies, implies_true, and_true, ne_eq] at h9q); (try simp only [List.contains_cons, List.contains_nil, Bool.or_false, Bool.or_eq_false_iff, beq_eq_false_iff_ne, ne_eq] at k9q); simp [kstB, h9q, k9q])
  k_with "execs cons Expr cons" => ((with_reducible refine wpAny_execs_cons ?_); try dsimp only)
  k_with "execs cons" => ((with_reducible refine wpAny_execs_cons ?_); try dsimp only)
  k_with "call builtin:list.append" => (k_here; (with_reducible show wpAny _ _ (call (Value.builtin _) [Value.ref _, _]) _ _ _); k_dflt (refine' append_K (its := List.toArray _) (by k_asm) (by k_asm) (by rw [List.push_toArray]; k_upd) ?_ (by rw [List.size_toArray, sizeLine_eq]; omega); k_whole); intro _ _ _; (try k_sweep))
  trivial
set_option maxHeartbeats 8000000 in
theorem pl7_c {w : World} {p : Program} {loose : List Str} {mean : ExcName → Option Value} {mg mb : Str → Option Value} {dp un : Nat} {gd : Option (List Code)} {cn : Str} {a : Addr} {ccd : Value} {cl : List (Str × Addr)} {outer : List Env} {A₀ : Around} {base h₀ : Heap} {L : Addr} {m : Str → Option Value} {s : Shared} {Q : Flow → Shared → Prop} {led : List (Addr × Obj)}
    {l dl DU LN : Addr} {duv lnv : List Value} {duk lnk : Nat}
    (B : Below A₀ base outer h₀) (F : Fr h₀ L s.heap m) (X : (hd.heap_1 w.params).In h₀) (T : Top p loose mean mg mb h₀) (N : News h₀ L s.heap ((DU, listOf duv.toArray duk) :: (LN, listOf lnv.toArray lnk) :: led))
    (f_due : m (Str.ofString "due") = some (Value.ref dl)) (f_line : m (Str.ofString "line") = some (Value.ref l)) (f_dues : m (Str.ofString "dues") = some (Value.ref DU)) (f_lines : m (Str.ofString "lines") = some (Value.ref LN))
    (hdz : duv.length ≤ 2) (hlz : lnv.length ≤ 2) (hne : @Ne Nat DU LN) (hof : OwnOff led [DU, LN]) (hgb : AllBare s.gens) (hd : dp + 20 < recursionLimit) (hu : un + 300 < cLine)
    (hret : ∀ h' tk', Fr h₀ L h' m → News h₀ L h' ((DU, listOf (duv ++ [Value.ref dl]).toArray (duk + 1)) :: (LN, listOf (lnv ++ [Value.ref l]).toArray (lnk + 1)) :: led) → Q .next { s with heap := h', toks := tk' }) :
    wpAny (model PySem.Challenge.rw_st0029_01.row.prog w) (ktrTop dp un gd cn lawFd.1.2 L a ccd cl outer) (execs pl7 (envX cn lawFd.1.2 L a ccd cl)) Q (fun _ _ => False) s := by
  w_top off
  revert X
  k_fill
  intro X
  simp only [lawFd, plFd, pl7, List.drop_succ_cons, List.drop_zero, List.take_succ_cons, List.take_zero]
  have eF : m = fun y => if y = Str.ofString "due" then some (Value.ref dl) else if y = Str.ofString "line" then some (Value.ref l) else if y = Str.ofString "dues" then some (Value.ref DU) else if y = Str.ofString "lines" then some (Value.ref LN) else m y := by
    (funext y9; (repeat (first | rfl | (split; · first | rfl | (rename_i q9; rw [q9]; assumption)))))
  rw [eF] at F
  try k_fold
  k_steps
  (with_reducible rename Fr _ _ _ _ => zF)
  rw [← eF] at zF
  exact hret _ _ zF (by k_asm)
end
-- text plc
section
theorem execs_seq {A : Around} {env : Env} {M : Model} {E : Value → Shared → Prop} {Q : Flow → Shared → Prop} {s : Shared} (ss₁ ss₂ : List Stmt)
    (h1 : wpAny M A (execs ss₁ env) (fun f s' => f = .next ∧ wpAny M A (execs ss₂ env) Q E s') E s) : wpAny M A (execs (ss₁ ++ ss₂) env) Q E s :=
  execs_cut (Mid := fun s' => wpAny M A (execs ss₂ env) Q E s') ss₁ ss₂ h1 fun _ h => h
/-- what one place's line needs of its numbers, and what it is read to -/
structure PlOk (T : Int) (ns : List Int) (Bi : Int) (op tx ld : Str) (wants : List Int) (q : List Int × Int × Int × Int) : Prop where
  dig : DigRow ns
  T0 : 0 ≤ T
  len : ns.length ≤ 3
  w : ∀ n ∈ dueL ns, 1 ≤ n ∧ n ≤ 6
  w4 : (dueL ns).length ≤ 4
  B0 : 0 ≤ Bi
  B6 : Bi ≤ 6
  op3 : op.length ≤ 3
  name : NAMES[((T.fdiv 9604).fmod 48).toNat]? = some op
  etx : (textP (T.fdiv 343) (dueL ns)).1 = tx
  txl : tx.length ≤ 100
  sh : Short ((tx ++ Txt.mul (Str.ofString "~") Bi) ++ op)
  rd : Reads' ((tx ++ Txt.mul (Str.ofString "~") Bi) ++ op) ((wants ++ repI Bi [31]) ++ [(T.fdiv 9604).fmod 48 + 7])
  ewa : (wantP (T.fdiv 343) (dueL ns)).1 = wants
  wa16 : wants.length ≤ 16
  eld : leadF (cutI ((wants ++ repI Bi [31]) ++ [(T.fdiv 9604).fmod 48 + 7]) none (some (-1))) = ld
  ldl : ld.length ≤ 150
  tiny : Tiny ((ld ++ op) ++ Str.ofString " \t")
  eq : wsRun (PySem.W.KStt.codes ((ld ++ op) ++ Str.ofString " \t")) [] 0 0 0 = q
  q200 : q.1.length ≤ 200
  qi : indF q 2 = 2 * (wants.length : Int) + Bi
theorem PlOk.lenB {T : Int} {ns : List Int} {Bi : Int} {op tx ld : Str} {wants : List Int} {q : List Int × Int × Int × Int} (H : PlOk T ns Bi op tx ld wants q) : (wants ++ repI Bi [31]).length ≤ 1000 := by
  have := H.wa16; have := H.B0; have := H.B6
  rw [List.length_append, length_repI, List.length_singleton]; omega
theorem strs_at {nmv : List Value} {k : Nat} {op : Str} (h : StrsAre nmv NAMES) (e : NAMES[k]? = some op) : ∃ t, nmv.toArray[k]? = some (.str op t) := by
  obtain ⟨t, ht⟩ := h.get k _ e
  exact ⟨t, by simpa using ht⟩
theorem news_of {h₀ h : Heap} {L : Addr} {a b : List (Addr × Obj)} (N : News h₀ L h a) (s : ∀ p ∈ b, p ∈ a) : News h₀ L h b := fun p hp => N p (s p hp)
theorem off_app {a b : List (Addr × Obj)} {l : List Addr} (ha : OwnOff a l) (hb : OwnOff b l) : OwnOff (a ++ b) l := fun p hp => (List.mem_append.mp hp).elim (ha p) (hb p)

set_option maxHeartbeats 4000000 in
theorem pl_c {w : World} {p : Program} {loose : List Str} {mean : ExcName → Option Value} {mg mb : Str → Option Value} {dp un : Nat} {gd : Option (List Code)} {cn : Str} {a : Addr} {ccd : Value} {cl : List (Str × Addr)} {A₀ : Around} {base h₀ : Heap} {L : Addr} {m : Str → Option Value} {s : Shared} {Q : Flow → Shared → Prop} {led : List (Addr × Obj)}
    {R ri nm bh t DU LN : Addr} {Rv rv nmv bv tv duv lnv : List Value} {rk ep bk nmk tk₀ duk lnk : Nat} {pl T Bi : Int} {tp ui bi : Tok} {ns wants : List Int} {op tx ld : Str} {q : List Int × Int × Int × Int}
    (B : Below A₀ base [] h₀) (F : Fr h₀ L s.heap m) (X : (hd.heap_1 w.params).In h₀) (T₀ : Top p loose mean mg mb h₀) (N : News h₀ L s.heap ((DU, listOf duv.toArray duk) :: (LN, listOf lnv.toArray lnk) :: led))
    (f_totals : m (Str.ofString "totals") = some (Value.ref t)) (f_place : m (Str.ofString "place") = some (Value.int pl tp)) (f_names : m (Str.ofString "names") = some (Value.ref nm)) (f_rows : m (Str.ofString "rows") = some (Value.ref R)) (f_behind : m (Str.ofString "behind") = some (Value.ref bh)) (f_dues : m (Str.ofString "dues") = some (Value.ref DU)) (f_lines : m (Str.ofString "lines") = some (Value.ref LN))
    (ht : (t, listOf tv.toArray tk₀) ∈ led) (hRl : (R, listOf Rv.toArray ep) ∈ led) (hnl : (nm, listOf nmv.toArray nmk) ∈ led) (hbl : (bh, listOf bv.toArray bk) ∈ led) (hrl : (ri, listOf rv.toArray rk) ∈ led)
    (hp0 : 0 ≤ pl) (hp1 : pl < 2) (hT : tv.toArray[pl.toNat]? = some (.int T ui)) (hR : Rv.toArray[pl.toNat]? = some (.ref ri)) (hBi : bv.toArray[pl.toNat]? = some (.int Bi bi)) (hnI : StrsAre nmv NAMES) (hrI : IntsAre rv ns)
    (H : PlOk T ns Bi op tx ld wants q) (hdz : duv.length ≤ 2) (hlz : lnv.length ≤ 2) (hne : @Ne Nat DU LN) (hof : OwnOff led [DU, LN]) (hgb : AllBare s.gens) (hd : dp + 20 < recursionLimit) (hu : un + 300 < cLine)
    (hret : ∀ m' l dx nT cT od on oc dl dk dv h' tk' g', (∀ h'' : Heap, (∀ p ∈ [(l, instObj 76 dx), (dx, od), (nT, on), (cT, oc)], h''.get? p.1 = some p.2) → WsAt w h'' l q) → IntsAre dv (dueL ns) → AllBare g' → Fr h₀ L h' m' →
      News h₀ L h' ((DU, listOf (duv ++ [Value.ref dl]).toArray (duk + 1)) :: (LN, listOf (lnv ++ [Value.ref l]).toArray (lnk + 1)) :: ((l, instObj 76 dx) :: (dx, od) :: (nT, on) :: (cT, oc) :: (dl, listOf dv.toArray dk) :: led)) →
      OwnOff ((l, instObj 76 dx) :: (dx, od) :: (nT, on) :: (cT, oc) :: (dl, listOf dv.toArray dk) :: led) [DU, LN] →
      (∀ p ∈ led, ∀ q ∈ [(l, instObj 76 dx), (dx, od), (nT, on), (cT, oc)], p.1 ≠ q.1) → (dl = ri ∨ ∀ p ∈ led, p.1 ≠ dl) → (∀ y, y ∈ [Str.ofString "totals", Str.ofString "names", Str.ofString "rows", Str.ofString "behind", Str.ofString "dues", Str.ofString "lines"] → m' y = m y) → Q .next { s with heap := h', toks := tk', gens := g' }) :
    wpAny (model PySem.Challenge.rw_st0029_01.row.prog w) (ktrTop dp un gd cn lawFd.1.2 L a ccd cl []) (execs plFd.1 (envX cn lawFd.1.2 L a ccd cl)) Q (fun _ _ => False) s := by
  obtain ⟨op3, hop⟩ := strs_at hnI H.name
  have l0 : 0 ≤ (T.fdiv 9604).fmod 48 := Int.fmod_nonneg_of_pos _ (by decide)
  have l1 : (T.fdiv 9604).fmod 48 < 48 := Int.fmod_lt_of_pos _ (by decide)
  have s0 : 0 ≤ T.fdiv 343 := by have := H.T0; exact Int.fdiv_nonneg this (by decide)
  have hnz := H.lenB
  have up : ∀ p ∈ led, p ∈ ((DU, listOf duv.toArray duk) :: (LN, listOf lnv.toArray lnk) :: led) := fun p hp => .tail _ (.tail _ hp)
  rw [pl_secs]
  refine execs_seq _ _ (pl1_c B F X T₀ N f_totals f_place (up _ ht) hp0 hp1 hT hgb hd hu fun m1 v1 v2 v3 h1 k1 F1 N1 e1 g1 g2 g3 => ⟨rfl, ?_⟩)
  have z1 : ∀ y ∈ ["totals", "names", "rows", "behind", "dues", "lines", "place"].map Str.ofString, m1 y = m y := fun y hy => e1 y (by rintro rfl; exact absurd hy (by decide)) (by rintro rfl; exact absurd hy (by decide)) (by rintro rfl; exact absurd hy (by decide))
  refine execs_seq _ _ (pl2_c (s := { s with heap := h1, toks := k1 }) B F1 X T₀ N1 g1 g3 ((z1 _ (by decide)).trans f_rows) ((z1 _ (by decide)).trans f_place) (up _ hRl) hp0 hp1 s0 hR (up _ hrl) hrI H.dig H.w H.w4 hgb hd hu fun m2 v4 h2 k2 gn2 hb2 F2 N2 e2 g4 => ⟨rfl, ?_⟩)
  have z2 : ∀ y ∈ ["totals", "names", "rows", "behind", "dues", "lines", "place", "last"].map Str.ofString, m2 y = m1 y := fun y hy => e2 y (by rintro rfl; exact absurd hy (by decide)) (by rintro rfl; exact absurd hy (by decide)) (by rintro rfl; exact absurd hy (by decide))
  have y2 : ∀ y ∈ ["totals", "names", "rows", "behind", "dues", "lines", "place"].map Str.ofString, m2 y = m y := fun y hy => (z2 y ((by decide : ∀ y ∈ (["totals", "names", "rows", "behind", "dues", "lines", "place"]).map Str.ofString, y ∈ (["totals", "names", "rows", "behind", "dues", "lines", "place", "last"]).map Str.ofString) y hy)).trans (z1 y hy)
  rw [H.etx] at g4
  refine execs_seq _ _ (pl3_c (s := { s with heap := h2, toks := k2, gens := gn2 }) B F2 X T₀ N2 g4 ((z2 _ (by decide)).trans g2) ((y2 _ (by decide)).trans f_names) ((y2 _ (by decide)).trans f_behind) ((y2 _ (by decide)).trans f_totals) ((y2 _ (by decide)).trans f_rows) ((y2 _ (by decide)).trans f_place) (up _ hRl) (up _ hnl) (up _ hbl) (up _ ht) hp0 hp1 l0 l1 H.B0 H.B6 hT hBi hop hR (up _ hrl) hrI H.len H.txl H.op3 H.sh H.rd (by rw [List.length_append, List.length_singleton]; have := H.wa16; have := H.B6; have := H.B0; rw [List.length_append, length_repI, List.length_singleton]; omega) hb2 hd hu fun m3 nl nk nv dl dk dv wl v5 h3 k3 nI dI hwl hdl F3 N3 e3 g5 g6 g7 g8 => ⟨rfl, ?_⟩)
  have z3 : ∀ y ∈ ["totals", "names", "rows", "behind", "dues", "lines", "place", "last"].map Str.ofString, m3 y = m2 y := fun y hy => e3 y (by rintro rfl; exact absurd hy (by decide)) (by rintro rfl; exact absurd hy (by decide)) (by rintro rfl; exact absurd hy (by decide)) (by rintro rfl; exact absurd hy (by decide))
  refine execs_seq _ _ (pl4_c (s := { s with heap := h3, toks := k3, gens := gn2 }) (led := (nl, listOf nv.toArray nk) :: (DU, listOf duv.toArray duk) :: (LN, listOf lnv.toArray lnk) :: led) B F3 X T₀ N3 g7 g6 g8 ((z3 _ (by decide)).trans ((y2 _ (by decide)).trans f_names)) ((z3 _ (by decide)).trans ((y2 _ (by decide)).trans f_place)) (.tail _ (up _ hnl)) hnI dI H.w H.w4 hwl hb2 hd hu fun m4 wv wk h4 k4 gn4 wI hb4 F4 N4 e4 => ⟨rfl, ?_⟩)
  have z4 : ∀ y ∈ ["totals", "names", "rows", "behind", "dues", "lines", "place", "last", "numbers", "due", "wanted"].map Str.ofString, m4 y = m3 y := fun y hy => e4 y (by rintro rfl; exact absurd hy (by decide)) (by rintro rfl; exact absurd hy (by decide)) (by rintro rfl; exact absurd hy (by decide))
  rw [H.ewa] at wI
  have N4' : News h₀ L h4 ((wl, listOf wv.toArray wk) :: (nl, listOf nv.toArray nk) :: (dl, listOf dv.toArray dk) :: (DU, listOf duv.toArray duk) :: (LN, listOf lnv.toArray lnk) :: led) := news_of N4 fun p hp => by
    simp only [List.mem_cons] at hp ⊢
    rcases hp with h | h | h | h <;> simp [h]
  refine execs_seq _ _ (pl5_c (s := { s with heap := h4, toks := k4, gens := gn4 }) B F4 X T₀ N4' ((z4 _ (by decide)).trans g5) ((z4 _ (by decide)).trans g8) ((z4 _ (by decide)).trans ((z3 _ (by decide)).trans ((z2 _ (by decide)).trans g2))) ((z4 _ (by decide)).trans ((z3 _ (by decide)).trans ((y2 _ (by decide)).trans f_behind))) ((z4 _ (by decide)).trans ((z3 _ (by decide)).trans ((y2 _ (by decide)).trans f_place))) (.tail _ (up _ hbl)) hp0 hp1 l0 l1 H.B0 H.B6 hBi nI wI rfl H.wa16 (by rw [List.length_append, List.length_singleton]; have := H.wa16; have := H.B6; have := H.B0; rw [List.length_append, length_repI, List.length_singleton]; omega) hb4 hd hu fun h5 k5 F5 N5 => ⟨rfl, ?_⟩)
  have eop : nmv.toArray[((T.fdiv 9604).fmod 48 + 7 - 7).toNat]? = some (.str op op3) := by rw [Int.add_sub_cancel]; exact hop
  refine execs_seq _ _ (pl6_c (s := { s with heap := h5, toks := k5, gens := gn4 }) B F5 X T₀ N5 ((z4 _ (by decide)).trans g5) ((z4 _ (by decide)).trans g8) ((z4 _ (by decide)).trans ((z3 _ (by decide)).trans ((y2 _ (by decide)).trans f_names))) ((z4 _ (by decide)).trans ((z3 _ (by decide)).trans ((y2 _ (by decide)).trans f_behind))) ((z4 _ (by decide)).trans ((z3 _ (by decide)).trans ((y2 _ (by decide)).trans f_place))) (.tail _ (up _ hnl)) (.tail _ (up _ hbl)) hp0 hp1 l0 l1 H.B0 H.B6 hBi eop nI wI H.wa16 hnz (by rw [List.length_append, List.length_singleton]; have := H.wa16; have := H.B6; have := H.B0; rw [List.length_append, length_repI, List.length_singleton]; omega) H.eld H.ldl H.op3 H.tiny H.eq H.q200 H.qi hb4 hd hu fun m6 l dx nT cT od on oc h6 k6 hW hOff F6 N6 e6 g9 => ⟨rfl, ?_⟩)
  have z6 : ∀ y ∈ ["totals", "names", "rows", "behind", "dues", "lines", "place", "last", "numbers", "due", "wanted"].map Str.ofString, m6 y = m4 y := fun y hy => e6 y (by rintro rfl; exact absurd hy (by decide))
  have zz : ∀ y ∈ ["totals", "names", "rows", "behind", "dues", "lines", "place"].map Str.ofString, m6 y = m y := fun y hy => by
    rw [z6 y ((by decide : ∀ y ∈ (["totals", "names", "rows", "behind", "dues", "lines", "place"]).map Str.ofString, y ∈ (["totals", "names", "rows", "behind", "dues", "lines", "place", "last", "numbers", "due", "wanted"]).map Str.ofString) y hy), z4 y ((by decide : ∀ y ∈ (["totals", "names", "rows", "behind", "dues", "lines", "place"]).map Str.ofString, y ∈ (["totals", "names", "rows", "behind", "dues", "lines", "place", "last", "numbers", "due", "wanted"]).map Str.ofString) y hy), z3 y ((by decide : ∀ y ∈ (["totals", "names", "rows", "behind", "dues", "lines", "place"]).map Str.ofString, y ∈ (["totals", "names", "rows", "behind", "dues", "lines", "place", "last"]).map Str.ofString) y hy), y2 y hy]
  have hdl' : ∀ b ∈ [DU, LN], dl ≠ b := fun b hb => by
    rcases hdl with rfl | hdl
    · exact hof _ hrl b hb
    · simp only [List.mem_cons, List.not_mem_nil, or_false] at hb
      rcases hb with rfl | rfl
      · exact (hdl _ (.head _)).symm
      · exact (hdl _ (.tail _ (.head _))).symm
  have hof' : OwnOff ((l, instObj 76 dx) :: (dx, od) :: (nT, on) :: (cT, oc) :: (dl, listOf dv.toArray dk) :: led) [DU, LN] := by
    refine off_app (a := [(l, instObj 76 dx), (dx, od), (nT, on), (cT, oc)]) (fun p hp b hb => ?_) fun p hp b hb => ?_
    · simp only [List.mem_cons, List.not_mem_nil, or_false] at hb
      rcases hb with rfl | rfl
      · exact (hOff (_, listOf duv.toArray duk) (by simp) p hp).symm
      · exact (hOff (_, listOf lnv.toArray lnk) (by simp) p hp).symm
    · rcases List.mem_cons.mp hp with rfl | hp
      · exact hdl' b hb
      · exact hof p hp b hb
  have N6' : News h₀ L h6 ((DU, listOf duv.toArray duk) :: (LN, listOf lnv.toArray lnk) :: ((l, instObj 76 dx) :: (dx, od) :: (nT, on) :: (cT, oc) :: (dl, listOf dv.toArray dk) :: led)) := news_of N6 fun p hp => by
    simp only [List.mem_cons] at hp ⊢
    rcases hp with h | h | h | h | h | h | h | h <;> simp [h]
  refine pl7_c (s := { s with heap := h6, toks := k6, gens := gn4 }) B F6 X T₀ N6' ((z6 _ (by decide)).trans ((z4 _ (by decide)).trans g6)) g9 ((zz _ (by decide)).trans f_dues) ((zz _ (by decide)).trans f_lines) hdz hlz hne hof' hb4 hd hu fun h7 k7 F7 N7 => ?_
  exact hret _ _ _ _ _ _ _ _ _ _ _ _ _ _ hW dI hb4 F7 N7 hof' (fun p hp => hOff p (.tail _ (.tail _ (.tail _ (up _ hp))))) (hdl.imp id fun h p hp => h p (up _ hp)) fun y hy => zz y ((by decide : ∀ y ∈ [Str.ofString "totals", Str.ofString "names", Str.ofString "rows", Str.ofString "behind", Str.ofString "dues", Str.ofString "lines"], y ∈ (["totals", "names", "rows", "behind", "dues", "lines", "place"]).map Str.ofString) y hy)
end
-- text plt
section
/-- what a turn of the loop over places has left of a place -/
noncomputable def PLd (w : World) (duv lnv : List Value) (led' : List (Addr × Obj)) (k : Nat) (ds : List Int) (q : List Int × Int × Int × Int) : Prop :=
  ∃ l dx nT cT od on oc dl dk dv, lnv[k]? = some (Value.ref l) ∧ duv[k]? = some (Value.ref dl) ∧ (∀ h'' : Heap, (∀ p ∈ [(l, instObj 76 dx), (dx, od), (nT, on), (cT, oc)], h''.get? p.1 = some p.2) → WsAt w h'' l q) ∧ IntsAre dv ds ∧ (∀ p ∈ [(l, instObj 76 dx), (dx, od), (nT, on), (cT, oc)], p ∈ led') ∧ (dl, listOf dv.toArray dk) ∈ led'
theorem PLd.mono {w : World} {duv lnv : List Value} {led₁ led₂ : List (Addr × Obj)} {k : Nat} {ds : List Int} {q : List Int × Int × Int × Int} {v1 v2 : Value} (h : PLd w duv lnv led₁ k ds q) (s : ∀ p ∈ led₁, p ∈ led₂) : PLd w (duv ++ [v1]) (lnv ++ [v2]) led₂ k ds q := by
  obtain ⟨l, dx, nT, cT, od, on, oc, dl, dk, dv, a, b, c, d, e, f⟩ := h
  exact ⟨l, dx, nT, cT, od, on, oc, dl, dk, dv, by rw [List.getElem?_append_left (List.getElem?_eq_some_iff.mp a).1]; exact a, by rw [List.getElem?_append_left (List.getElem?_eq_some_iff.mp b).1]; exact b, c, d, fun p hp => s p (e p hp), s _ f⟩
/-- the loop over places, behind i turns -/
noncomputable def PlJ (w : World) (DU LN : Addr) (led : List (Addr × Obj)) (m : Str → Option Value) (ds0 ds1 : List Int) (q0 q1 : List Int × Int × Int × Int) (i : Nat) (m₁ : Str → Option Value) (nx : List (Addr × Obj)) : Prop :=
  ∃ duv lnv led', nx = (DU, listOf (List.toArray duv) i) :: (LN, listOf (List.toArray lnv) i) :: led' ∧ (∀ p ∈ led, p ∈ led') ∧ OwnOff led' [DU, LN] ∧ duv.length = i ∧ lnv.length = i ∧ (1 ≤ i → PLd w duv lnv led' 0 ds0 q0) ∧ (2 ≤ i → PLd w duv lnv led' 1 ds1 q1) ∧
    m₁ (Str.ofString "dues") = some (.ref DU) ∧ m₁ (Str.ofString "lines") = some (.ref LN) ∧ ∀ y ∈ [Str.ofString "totals", Str.ofString "names", Str.ofString "rows", Str.ofString "behind"], m₁ y = m y
set_option maxHeartbeats 4000000 in
theorem pl_turn {w : World} {p : Program} {loose : List Str} {mean : ExcName → Option Value} {mg mb : Str → Option Value} {dp un : Nat} {gd : Option (List Code)} {cn : Str} {a : Addr} {ccd : Value} {cl : List (Str × Addr)} {A₀ : Around} {base h₀ : Heap} {L : Addr} {m : Str → Option Value} {s : Shared} {Q : Flow → Shared → Prop} {led : List (Addr × Obj)}
    {R ri nm bh t DU LN : Addr} {Rv rv nmv bv tv duv lnv : List Value} {rk ep bk nmk tk₀ i tk : Nat} {pl T Bi : Int} {tp ui bi : Tok} {ns wants ds0 ds1 : List Int} {op tx ld : Str} {q q0 q1 : List Int × Int × Int × Int} {m₁ : Str → Option Value} {led' own : List (Addr × Obj)} {h : Heap} {g : Array GenState}
    (B : Below A₀ base [] h₀) (X : (hd.heap_1 w.params).In h₀) (T₀ : Top p loose mean mg mb h₀)
    (f_totals : m (Str.ofString "totals") = some (Value.ref t)) (f_names : m (Str.ofString "names") = some (Value.ref nm)) (f_rows : m (Str.ofString "rows") = some (Value.ref R)) (f_behind : m (Str.ofString "behind") = some (Value.ref bh))
    (ht : (t, listOf tv.toArray tk₀) ∈ led) (hRl : (R, listOf Rv.toArray ep) ∈ led) (hnl : (nm, listOf nmv.toArray nmk) ∈ led) (hbl : (bh, listOf bv.toArray bk) ∈ led) (hrl : (ri, listOf rv.toArray rk) ∈ led)
    (hT : tv.toArray[i]? = some (.int T ui)) (hR : Rv.toArray[i]? = some (.ref ri)) (hBi : bv.toArray[i]? = some (.int Bi bi)) (hnI : StrsAre nmv NAMES) (hrI : IntsAre rv ns)
    (H : PlOk T ns Bi op tx ld wants q) (hsel : (i = 0 ∧ dueL ns = ds0 ∧ q = q0) ∨ (i = 1 ∧ dueL ns = ds1 ∧ q = q1)) (hne : @Ne Nat DU LN)
    (hsub : ∀ p ∈ led, p ∈ led') (hof : OwnOff led' [DU, LN]) (hdl : duv.length = i) (hll : lnv.length = i) (p0 : 1 ≤ i → PLd w duv lnv led' 0 ds0 q0)
    (m1 : m₁ (Str.ofString "dues") = some (.ref DU)) (m2 : m₁ (Str.ofString "lines") = some (.ref LN)) (m3 : ∀ y ∈ [Str.ofString "totals", Str.ofString "names", Str.ofString "rows", Str.ofString "behind"], m₁ y = m y)
    (hoff : TbOff own ((DU, listOf duv.toArray i) :: (LN, listOf lnv.toArray i) :: led')) (gb : AllBare g) (bF : Fr h₀ L h (fun y => if y = Str.ofString "place" then some (Value.int pl tp) else m₁ y)) (bN : News h₀ L h (((DU, listOf duv.toArray i) :: (LN, listOf lnv.toArray i) :: led') ++ own)) (hpl : pl = (i : Int)) (hd : dp + 20 < recursionLimit) (hu : un + 300 < cLine) :
    wpAny (model PySem.Challenge.rw_st0029_01.row.prog w) (ktrTop dp un gd cn lawFd.1.2 L a ccd cl []) (execs plFd.1 (envX cn lawFd.1.2 L a ccd cl)) (GPost h₀ L (PlJ w DU LN led m ds0 ds1 q0 q1 (i + 1)) own s Q) (fun _ _ => False) { s with heap := h, toks := tk, gens := g } := by
  have hi2 : i < 2 := by rcases hsel with h | h <;> omega
  have epl : pl.toNat = i := by omega
  have hof2 : OwnOff (led' ++ own) [DU, LN] := off_app hof fun p hp b hb => by
    simp only [List.mem_cons, List.not_mem_nil, or_false] at hb
    rcases hb with rfl | rfl
    · exact hoff p hp _ (.head _)
    · exact hoff p hp _ (.tail _ (.head _))
  have hal : ∀ {p : Addr × Obj}, p ∈ led → p ∈ led' ++ own := fun hp => List.mem_append.mpr (.inl (hsub _ hp))
  have gm : ∀ {y v}, y ≠ Str.ofString "place" → m₁ y = v → (fun y => if y = Str.ofString "place" then some (Value.int pl tp) else m₁ y) y = v := fun hy hv => by simp only [if_neg hy]; exact hv
  refine pl_c (s := { s with heap := h, toks := tk, gens := g }) B bF X T₀ bN (gm (by decide) ((m3 _ (by decide)).trans f_totals)) (if_pos rfl) (gm (by decide) ((m3 _ (by decide)).trans f_names)) (gm (by decide) ((m3 _ (by decide)).trans f_rows)) (gm (by decide) ((m3 _ (by decide)).trans f_behind)) (gm (by decide) m1) (gm (by decide) m2)
    (hal ht) (hal hRl) (hal hnl) (hal hbl) (hal hrl) (by omega) (by omega) (by rw [epl]; exact hT) (by rw [epl]; exact hR) (by rw [epl]; exact hBi) hnI hrI H (by omega) (by omega) hne hof2 gb hd hu fun m' l dx nT cT od on oc dl dk dv h' tk' g' hW dI gb' F' N' hof' hq hdq hm' => ?_
  have new : PLd w (duv ++ [Value.ref dl]) (lnv ++ [Value.ref l]) ((l, instObj 76 dx) :: (dx, od) :: (nT, on) :: (cT, oc) :: (dl, listOf dv.toArray dk) :: led') i (dueL ns) q :=
    ⟨l, dx, nT, cT, od, on, oc, dl, dk, dv, by rw [← hll]; simp, by rw [← hdl]; simp, hW, dI, fun p hp => by simp only [List.mem_cons, List.not_mem_nil, or_false] at hp ⊢; rcases hp with h | h | h | h <;> simp [h], by simp⟩
  refine ⟨h', tk', g', m', _, (DU, listOf (duv ++ [Value.ref dl]).toArray (i + 1)) :: (LN, listOf (lnv ++ [Value.ref l]).toArray (i + 1)) :: ((l, instObj 76 dx) :: (dx, od) :: (nT, on) :: (cT, oc) :: (dl, listOf dv.toArray dk) :: led'), rfl, gb', F', N', ?_, ?_, ?_, duv ++ [Value.ref dl], lnv ++ [Value.ref l], _, rfl, ?_, ?_, ?_, ?_, ?_, ?_, (hm' _ (by decide)).trans (gm (by decide) m1), (hm' _ (by decide)).trans (gm (by decide) m2), fun y hy => ?_⟩
  · intro p hp
    simp only [List.mem_cons, List.mem_append] at hp ⊢
    rcases hp with h | h | h | h | h | h | h | h <;> simp [h]
  · intro p hp
    simp only [List.mem_cons, List.mem_append]
    simp [hp]
  · intro p hp q' hq'
    have hp' : p ∈ led' ++ own := List.mem_append.mpr (.inr hp)
    rcases List.mem_cons.mp hq' with rfl | hq'
    · exact hoff p hp (DU, listOf duv.toArray i) (.head _)
    · rcases List.mem_cons.mp hq' with rfl | hq'
      · exact hoff p hp (LN, listOf lnv.toArray i) (.tail _ (.head _))
      · have : q' ∈ [(l, instObj 76 dx), (dx, od), (nT, on), (cT, oc)] ∨ q' = (dl, listOf dv.toArray dk) ∨ q' ∈ led' := by
          simp only [List.mem_cons, List.not_mem_nil, or_false] at hq' ⊢
          rcases hq' with h | h | h | h | h | h <;> simp [h]
        rcases this with h4 | rfl | h6
        · exact hq p hp' q' h4
        · rcases hdq with e | e
          · show p.1 ≠ dl
            rw [e]
            exact hoff p hp _ (.tail _ (.tail _ (hsub _ hrl)))
          · exact e p hp'
        · exact hoff p hp _ (.tail _ (.tail _ h6))
  · intro p hp
    exact .tail _ (.tail _ (.tail _ (.tail _ (.tail _ (hsub p hp)))))
  · intro p hp
    refine hof' p ?_
    simp only [List.mem_cons, List.mem_append] at hp ⊢
    rcases hp with h | h | h | h | h | h <;> simp [h]
  · rw [List.length_append, hdl]; rfl
  · rw [List.length_append, hll]; rfl
  · intro _
    rcases hsel with ⟨rfl, rfl, rfl⟩ | ⟨rfl, rfl, rfl⟩
    · exact new
    · exact (p0 (by decide)).mono fun p hp => .tail _ (.tail _ (.tail _ (.tail _ (.tail _ hp))))
  · intro h2
    rcases hsel with ⟨rfl, rfl, rfl⟩ | ⟨rfl, rfl, rfl⟩
    · exact absurd h2 (by decide)
    · exact new
  · rw [← m3 y hy, hm' y ((by decide : ∀ y ∈ [Str.ofString "totals", Str.ofString "names", Str.ofString "rows", Str.ofString "behind"], y ∈ [Str.ofString "totals", Str.ofString "names", Str.ofString "rows", Str.ofString "behind", Str.ofString "dues", Str.ofString "lines"]) y hy)]
    exact gm (fun e => absurd hy (by rw [e]; decide)) rfl
end
-- text secC
section
theorem reg_secC_1 : True := by
  k_with_none
  k_with "cell_enter" => (refine' own_def0 ?cek1 ?cek2 ?cek3 ?cek5 ?cekA ?cekF ?cekK ?cek6 ?cek7 ?cek8 ?cek9 ?cekB ?_ ?cec2 ?cec3 ?cec4 ?cec5; (case cekA => exact rfl); (case cekF => exact rfl); (case cekK => assumption); (case cek1 => k_asm); (case cek2 => k_asm); (case cek3 => k_asm); (case cek5 => k_asm); (case cek6 => k_is); (case cek7 => k_is); (case cek8 => ktr_room); (case cek9 => exact BindsTo.of_eq rfl); (case cec5 => decide); (case cekB => exact locs rfl); (case cec2 => exact rfl); (case cec3 => exact rfl); (case cec4 => exact rfl); k_whole; intro _ _ _ Bq9 _ _; (try dsimp only); (try k_lift Bq9); (try k_fold))
  k_with "units_room" => (have hcL9 := cLine_is; (try dsimp only [ktrTop]); simp only [units_in1, units_deeper, Around.mark_units, units_caller]; omega)
  k_with "call builtin:list.index" => (k_here; (with_reducible show wpAny _ _ (call (Value.builtin _) [Value.ref _, Value.int _ _]) _ _ _); k_dflt (refine' own_index (by is_list) (by l_ints) (by tb_start) (by first | assumption | exact any_mem (by assumption)) ?_; k_whole))
  k_with "getMethod ref" => ((with_reducible show wpAny _ _ (getMethod (Value.ref _) (Str.ofString "index") _) _ _ _); k_dflt (refine getMethod_list_of PySem.F.slot_list_index PySem.F.type_list_index (by is_list) (by no_dict) ?_))
  k_with "call builtin:len" => (k_here; (with_reducible show wpAny _ _ (call (Value.builtin "len") [Value.ref _]) _ _ _); k_dflt (refine' own_len (by is_list) (by l_ints) (by tb_start) ?_; k_whole))
  k_with "subscriptTail Name Slice ref ref" => (k_here; (with_reducible show wpAny _ _ (subscriptTail _ (PySem.Expr.Slice _ _ none _) (Value.ref _) (Value.ref _)) _ _ _); k_dflt (refine' own_slice (by k_asm) (by k_asm) (by kmk_list) (by l_ints) (by tb_start) (by kmk_part) (by kmk_part) ?_ (by with_unfolding_all rfl) (by kmk_pure); k_whole); intro _ _ _ _ _ l1q _ _; (try k_lt l1q); (try k_sweep))
  k_with "binaryOp Mult ref int" => (k_here; (with_reducible show wpAny _ _ (binaryOp Operator.Mult (Value.ref _) (Value.int _ _)) _ _ _); k_dflt (refine' own_mul (by k_asm) (by k_asm) (by is_list) (by first | l_ints | l_intsW) (by tb_start) (by tb_start) (by exact mul_small (by tb_start) (by tb_start)) ?_; k_whole); intro _ _ _ _ _ l1q _ _; (try k_lt l1q); (try k_sweep))
  k_with "binaryOp Add ref ref" => (k_here; (with_reducible show wpAny _ _ (binaryOp Operator.Add (Value.ref _) (Value.ref _)) _ _ _); k_dflt (refine' own_add (by k_asm) (by k_asm) (by is_list) (by is_list) (by first | l_ints | l_intsW) (by first | l_ints | l_intsW) (by tb_start) ?_; k_whole); intro _ _ _ _ _ l1q _ _; (try k_lt l1q); (try k_sweep))
  k_with "subscriptTail Name Slice str ref" => ((with_reducible show wpAny _ _ (subscriptTail _ (Expr.Slice none (some _) none _) _ _) _ _ _); (with_reducible rename Fr _ _ _ _ => F'q); (with_reducible rename News _ _ _ _ => N'q); refine slice_strN_ns_len (hsz := (by first | exact Short.fits (by assumption) | (rw [sizeLine_eq]; omega))) (s := ⟨_, _, _, _, _⟩) F'q N'q ?_; intro _ _ _ F'q N'q _; (try k_sweep))
  k_with "subscriptTail Name Slice str ref" => ((with_reducible show wpAny _ _ (subscriptTail _ (Expr.Slice (some _) none none _) _ _) _ _ _); (with_reducible rename Fr _ _ _ _ => F'q); (with_reducible rename News _ _ _ _ => N'q); refine slice_strN_sn_len (hsz := (by first | exact Short.fits (by assumption) | (rw [sizeLine_eq]; omega))) (s := ⟨_, _, _, _, _⟩) F'q N'q ?_; intro _ _ _ F'q N'q _; (try k_sweep))
  k_with "tb_rel" => (intro _ h9q k9q; (simp only [List.forall_mem_cons, List.not_mem_nil, false_implies, implies_true, and_true, ne_eq] at h9q); (try simp only [List.contains_cons, List.contains_nil, Bool.or_false, Bool.or_eq_false_iff, beq_eq_false_iff_ne, ne_eq] at k9q); simp [kstB, h9q, k9q])
  k_with "execs cons Expr cons" => ((with_reducible refine wpAny_execs_cons ?_); try dsimp only)
  k_with "execs cons" => ((with_reducible refine wpAny_execs_cons ?_); try dsimp only)
  trivial
set_option maxHeartbeats 8000000 in
theorem secC_c {w : World} {p : Program} {loose : List Str} {mean : ExcName → Option Value} {mg mb : Str → Option Value} {dp un : Nat} {gd : Option (List Code)} {cn : Str} {a : Addr} {ccd : Value} {cl : List (Str × Addr)} {A₀ : Around} {base h₀ : Heap} {L : Addr} {m : Str → Option Value} {s : Shared} {Q : Flow → Shared → Prop} {led : List (Addr × Obj)}
    {R r0 r1 nm bh t : Addr} {rv0 rv1 nmv : List Value} {rk0 rk1 ep bk nmk tk₀ : Nat} {T0 T1 B0 B1 : Int} {u0 u1 b0 b1 : Tok} {ns0 ns1 wants0 wants1 : List Int} {op0 tx0 ld0 op1 tx1 ld1 : Str} {q0 q1 : List Int × Int × Int × Int}
    (B : Below A₀ base [] h₀) (F : Fr h₀ L s.heap m) (X : (hd.heap_1 w.params).In h₀) (T : Top p loose mean mg mb h₀) (N : News h₀ L s.heap led)
    (f_totals : m (Str.ofString "totals") = some (Value.ref t)) (f_names : m (Str.ofString "names") = some (Value.ref nm)) (f_rows : m (Str.ofString "rows") = some (Value.ref R)) (f_behind : m (Str.ofString "behind") = some (Value.ref bh))
    (ht : (t, listOf #[Value.int T0 u0, Value.int T1 u1] tk₀) ∈ led) (hRl : (R, listOf #[Value.ref r0, Value.ref r1] ep) ∈ led) (hnl : (nm, listOf nmv.toArray nmk) ∈ led) (hbl : (bh, listOf #[Value.int B0 b0, Value.int B1 b1] bk) ∈ led) (hrl0 : (r0, listOf rv0.toArray rk0) ∈ led) (hrl1 : (r1, listOf rv1.toArray rk1) ∈ led) (hnI : StrsAre nmv NAMES) (hI0 : IntsAre rv0 ns0) (hI1 : IntsAre rv1 ns1) (H0 : PlOk T0 ns0 B0 op0 tx0 ld0 wants0 q0) (H1 : PlOk T1 ns1 B1 op1 tx1 ld1 wants1 q1) (hgb : AllBare s.gens) (hd : dp + 20 < recursionLimit) (hu : un + 300 < cLine)
    (hret : ∀ m' DU LN duv lnv led' h' tk' g', (∀ p ∈ led, p ∈ led') → duv.length = 2 → lnv.length = 2 → PLd w duv lnv led' 0 (dueL ns0) q0 → PLd w duv lnv led' 1 (dueL ns1) q1 → AllBare g' → Fr h₀ L h' m' → News h₀ L h' ((DU, listOf (List.toArray duv) 2) :: (LN, listOf (List.toArray lnv) 2) :: led') → m' (Str.ofString "dues") = some (.ref DU) → m' (Str.ofString "lines") = some (.ref LN) → m' (Str.ofString "behind") = some (.ref bh) → Q .next { s with heap := h', toks := tk', gens := g' }) :
    wpAny (model PySem.Challenge.rw_st0029_01.row.prog w) (ktrTop dp un gd cn lawFd.1.2 L a ccd cl []) (execs secC (envX cn lawFd.1.2 L a ccd cl)) Q (fun _ _ => False) s := by
  w_top off
  revert X
  k_fill
  intro X
  simp only [lawFd, plFd, secC, List.drop_succ_cons, List.drop_zero, List.take_succ_cons, List.take_zero]
  have eF : m = fun y => if y = Str.ofString "totals" then some (Value.ref t) else if y = Str.ofString "names" then some (Value.ref nm) else if y = Str.ofString "rows" then some (Value.ref R) else if y = Str.ofString "behind" then some (Value.ref bh) else m y := by
    (funext y9; (repeat (first | rfl | (split; · first | rfl | (rename_i q9; rw [q9]; assumption)))))
  rw [eF] at F
  try k_fold
  iterate 13 (first | (k_unfold; (try dsimp only)) | walk1 | (dsimp only; walk1))
  refine wpAny_For ?_
  iterate 7 (first | (k_unfold; (try dsimp only)) | walk1 | (dsimp only; walk1))
  (with_reducible rename Fr _ _ _ _ => tF)
  (with_reducible rename News _ _ _ _ => tN)
  rename IsRange _ _ _ _ _ _ _ _ => rg9
  rename (_ < _ ∧ AllLt _ led) => lt1
  rename (∀ p, p ∈ led → _ < _) => lt0
  rename_i DU _ _ LN _ _ _ _ _ _ _ _ _ _
  have tN' := news_of (b := (DU, listOf #[] 0) :: (LN, listOf #[] 0) :: led) tN fun p hp => by
    simp only [List.mem_cons] at hp ⊢
    rcases hp with h | h | h <;> simp [h]
  refine own_rangeG (n := 2) (PlJ w DU LN led m (dueL ns0) (dueL ns1) q0 q1) rfl rg9 (by decide) (by decide) rfl rfl tF tN' hgb ?h0 ?turn ?done
  case h0 =>
    refine ⟨[], [], led, rfl, fun _ hp => hp, fun p hp b hb => ?_, rfl, rfl, fun h => absurd h (by decide), fun h => absurd h (by decide), rfl, rfl, fun y hy => ?_⟩
    · simp only [List.mem_cons, List.not_mem_nil, or_false] at hb
      rcases hb with rfl | rfl
      · exact Nat.ne_of_lt (lt0 p hp)
      · exact Nat.ne_of_lt (tb_ltOf lt1.2 p hp)
    · have k1 : y ≠ Str.ofString "lines" := by rintro rfl; exact absurd hy (by decide)
      have k2 : y ≠ Str.ofString "dues" := by rintro rfl; exact absurd hy (by decide)
      simp only [if_neg k1, if_neg k2]
      exact (congrFun eF y).symm
  case turn =>
    clear tF tN tN'
    rintro i t9 m₁ nx h tk g own hin hoff ⟨duv, lnv, led', rfl, hsub, hof, hdl, hll, p0, p1, m1, m2, m3⟩ gb bF bN
    have hne : @Ne Nat DU LN := Nat.ne_of_lt lt1.1
    have hi : i = 0 ∨ i = 1 := by omega
    rcases hi with rfl | rfl
    · exact pl_turn (tv := [_, _]) (Rv := [_, _]) (bv := [_, _]) B X T f_totals f_names f_rows f_behind ht hRl hnl hbl hrl0 rfl rfl rfl hnI hI0 H0 (.inl ⟨rfl, rfl, rfl⟩) hne hsub hof hdl hll p0 m1 m2 m3 hoff gb bF bN rfl hd hu
    · exact pl_turn (tv := [_, _]) (Rv := [_, _]) (bv := [_, _]) B X T f_totals f_names f_rows f_behind ht hRl hnl hbl hrl1 rfl rfl rfl hnI hI1 H1 (.inr ⟨rfl, rfl, rfl⟩) hne hsub hof hdl hll p0 m1 m2 m3 hoff gb bF bN rfl hd hu
  case done =>
    clear tF tN tN'
    rintro m₁ nx h tk g ⟨duv, lnv, led', rfl, hsub, hof, hdl, hll, p0, p1, m1, m2, m3⟩ gb bF bN
    try k_fold
    k_steps
    exact hret _ _ _ _ _ _ _ _ g hsub hdl hll (p0 (by decide)) (p1 (by decide)) gb bF bN m1 m2 ((m3 _ (by decide)).trans f_behind)
end
-- text td
section
noncomputable def tdFd : { b : List Stmt // ∃ t i o p, lawFd.1.1[13]? = some (Stmt.For t i b o p) } := ⟨_, _, _, _, _, rfl⟩
noncomputable def td1 : List Stmt := tdFd.1
theorem reg_td_1 : True := by
  k_with_none
  k_with "cell_enter" => (refine' own_def0 ?cek1 ?cek2 ?cek3 ?cek5 ?cekA ?cekF ?cekK ?cek6 ?cek7 ?cek8 ?cek9 ?cekB ?_ ?cec2 ?cec3 ?cec4 ?cec5; (case cekA => exact rfl); (case cekF => exact rfl); (case cekK => assumption); (case cek1 => k_asm); (case cek2 => k_asm); (case cek3 => k_asm); (case cek5 => k_asm); (case cek6 => k_is); (case cek7 => k_is); (case cek8 => ktr_room); (case cek9 => exact BindsTo.of_eq rfl); (case cec5 => decide); (case cekB => exact locs rfl); (case cec2 => exact rfl); (case cec3 => exact rfl); (case cec4 => exact rfl); k_whole; intro _ _ _ Bq9 _ _; (try dsimp only); (try k_lift Bq9); (try k_fold))
  k_with "units_room" => (have hcL9 := cLine_is; (try dsimp only [ktrTop]); simp only [units_in1, units_deeper, Around.mark_units, units_caller]; omega)
  k_with "call builtin:list.index" => (k_here; (with_reducible show wpAny _ _ (call (Value.builtin _) [Value.ref _, Value.int _ _]) _ _ _); k_dflt (refine' own_index (by is_list) (by l_ints) (by tb_start) (by first | assumption | exact any_mem (by assumption)) ?_; k_whole))
  k_with "getMethod ref" => ((with_reducible show wpAny _ _ (getMethod (Value.ref _) (Str.ofString "index") _) _ _ _); k_dflt (refine getMethod_list_of PySem.F.slot_list_index PySem.F.type_list_index (by is_list) (by no_dict) ?_))
  k_with "call builtin:len" => (k_here; (with_reducible show wpAny _ _ (call (Value.builtin "len") [Value.ref _]) _ _ _); k_dflt (refine' own_len (by is_list) (by l_ints) (by tb_start) ?_; k_whole))
  k_with "subscriptTail Name Slice ref ref" => (k_here; (with_reducible show wpAny _ _ (subscriptTail _ (PySem.Expr.Slice _ _ none _) (Value.ref _) (Value.ref _)) _ _ _); k_dflt (refine' own_slice (by k_asm) (by k_asm) (by kmk_list) (by l_ints) (by tb_start) (by kmk_part) (by kmk_part) ?_ (by with_unfolding_all rfl) (by kmk_pure); k_whole); intro _ _ _ _ _ l1q _ _; (try k_lt l1q); (try k_sweep))
  k_with "binaryOp Mult ref int" => (k_here; (with_reducible show wpAny _ _ (binaryOp Operator.Mult (Value.ref _) (Value.int _ _)) _ _ _); k_dflt (refine' own_mul (by k_asm) (by k_asm) (by is_list) (by first | l_ints | l_intsW) (by tb_start) (by tb_start) (by exact mul_small (by tb_start) (by tb_start)) ?_; k_whole); intro _ _ _ _ _ l1q _ _; (try k_lt l1q); (try k_sweep))
  k_with "binaryOp Add ref ref" => (k_here; (with_reducible show wpAny _ _ (binaryOp Operator.Add (Value.ref _) (Value.ref _)) _ _ _); k_dflt (refine' own_add (by k_asm) (by k_asm) (by is_list) (by is_list) (by first | l_ints | l_intsW) (by first | l_ints | l_intsW) (by tb_start) ?_; k_whole); intro _ _ _ _ _ l1q _ _; (try k_lt l1q); (try k_sweep))
  k_with "subscriptTail Name Slice str ref" => ((with_reducible show wpAny _ _ (subscriptTail _ (Expr.Slice none (some _) none _) _ _) _ _ _); (with_reducible rename Fr _ _ _ _ => F'q); (with_reducible rename News _ _ _ _ => N'q); refine slice_strN_ns_len (hsz := (by first | exact Short.fits (by assumption) | (rw [sizeLine_eq]; omega))) (s := ⟨_, _, _, _, _⟩) F'q N'q ?_; intro _ _ _ F'q N'q _; (try k_sweep))
  k_with "subscriptTail Name Slice str ref" => ((with_reducible show wpAny _ _ (subscriptTail _ (Expr.Slice (some _) none none _) _ _) _ _ _); (with_reducible rename Fr _ _ _ _ => F'q); (with_reducible rename News _ _ _ _ => N'q); refine slice_strN_sn_len (hsz := (by first | exact Short.fits (by assumption) | (rw [sizeLine_eq]; omega))) (s := ⟨_, _, _, _, _⟩) F'q N'q ?_; intro _ _ _ F'q N'q _; (try k_sweep))
  k_with "tb_rel" => (intro _ h9q k9q; (simp only [List.forall_mem_cons, List.not_mem_nil, false_implies, implies_true, and_true, ne_eq] at h9q); (try simp only [List.contains_cons, List.contains_nil, Bool.or_false, Bool.or_eq_false_iff, beq_eq_false_iff_ne, ne_eq] at k9q); simp [kstB, h9q, k9q])
  k_with "execs cons Expr cons" => ((with_reducible refine wpAny_execs_cons ?_); try dsimp only)
  k_with "execs cons" => ((with_reducible refine wpAny_execs_cons ?_); try dsimp only)
  k_with "call ref" => (k_dflt (show wpAny _ _ (call (Value.ref 132) [Value.ref _, Value.int _ _, Value.int _ _]) _ _ _); k_dflt (refine' col_c (by k_asm) (by k_asm) (by k_asm) (by k_asm) (by rfl) (by exact News.get (by k_asm) (by k_mem)) (by assumption) (by assumption) (by assumption) (by omega) (by omega) (by assumption) (by (try dsimp only [ktrTop]); omega) (by (try dsimp only [ktrTop]); omega) ?_); intro _ _ _ _ st'q _; k_dflt (obtain ⟨_, _⟩ := behind (by k_asm) (by k_asm) st'q); clear st'q; (try k_sweep))
  k_with "subscriptTail Name Constant ref int" => (k_here; (with_reducible show wpAny _ _ (subscriptTail _ _ (Value.ref _) (Value.int _ _)) _ _ _); k_dflt (refine' item_listR (by exact News.isList (by k_asm) (by k_mem)) (by decide) (by decide) (by rfl) ?_ (by with_unfolding_all rfl); k_whole))
  k_with "call builtin:list.append" => (k_here; (with_reducible show wpAny _ _ (call (Value.builtin _) [Value.ref _, _]) _ _ _); k_dflt (refine' append_K (its := List.toArray _) (by k_asm) (by k_asm) (by rw [List.push_toArray]; k_upd) ?_ (by rw [List.size_toArray, sizeLine_eq]; omega); k_whole); intro _ _ _; (try k_sweep))
  trivial
set_option maxHeartbeats 8000000 in
theorem td_c {w : World} {p : Program} {loose : List Str} {mean : ExcName → Option Value} {mg mb : Str → Option Value} {dp un : Nat} {gd : Option (List Code)} {cn : Str} {a : Addr} {ccd : Value} {cl : List (Str × Addr)} {outer : List Env} {A₀ : Around} {base h₀ : Heap} {L : Addr} {m : Str → Option Value} {s : Shared} {Q : Flow → Shared → Prop} {led : List (Addr × Obj)}
    {DU bh d0 d1 TB : Addr} {dv0 dv1 vs : List Value} {dk0 dk1 du9 bk ep : Nat} {B0 B1 ts : Int} {b0 b1 tt : Tok} {ds0 ds1 : List Int}
    (B : Below A₀ base outer h₀) (F : Fr h₀ L s.heap m) (X : (hd.heap_1 w.params).In h₀) (T : Top p loose mean mg mb h₀) (N : News h₀ L s.heap ((TB, listOf vs.toArray ep) :: led))
    (f_tabsize : m (Str.ofString "tabsize") = some (Value.int ts tt)) (f_dues : m (Str.ofString "dues") = some (Value.ref DU)) (f_behind : m (Str.ofString "behind") = some (Value.ref bh)) (f_table : m (Str.ofString "table") = some (Value.ref TB))
    (hDl : (DU, listOf #[Value.ref d0, Value.ref d1] du9) ∈ led) (hbl : (bh, listOf #[Value.int B0 b0, Value.int B1 b1] bk) ∈ led) (hd0 : (d0, listOf dv0.toArray dk0) ∈ led) (hd1 : (d1, listOf dv1.toArray dk1) ∈ led) (hI0 : IntsAre dv0 ds0) (hI1 : IntsAre dv1 ds1) (hz0 : ds0.length ≤ 4) (hz1 : ds1.length ≤ 4) (hw0 : ∀ n ∈ ds0, 1 ≤ n ∧ n ≤ 6) (hw1 : ∀ n ∈ ds1, 1 ≤ n ∧ n ≤ 6) (hT1 : 1 ≤ ts) (hT2 : ts ≤ 100) (hof : OwnOff led [TB]) (hvz : vs.length ≤ 100) (hgb : AllBare s.gens) (hd : dp + 20 < recursionLimit) (hu : un + 300 < cLine)
    (hret : ∀ TT t1 t2 t3 h' tk' g', AllBare g' → Fr h₀ L h' m → News h₀ L h' ((TT, tupO [.int ts t1, .int (colF B0 ts ds0) t2, .int (colF B1 ts ds1) t3]) :: (TB, listOf (vs ++ [Value.ref TT]).toArray (ep + 1)) :: led) → (TB < TT ∧ AllLt TT led) → Q .next { s with heap := h', toks := tk', gens := g' }) :
    wpAny (model PySem.Challenge.rw_st0029_01.row.prog w) (ktrTop dp un gd cn lawFd.1.2 L a ccd cl outer) (execs td1 (envX cn lawFd.1.2 L a ccd cl)) Q (fun _ _ => False) s := by
  w_top off
  revert X
  k_fill
  intro X
  simp only [lawFd, tdFd, td1, List.drop_succ_cons, List.drop_zero, List.take_succ_cons, List.take_zero]
  have eF : m = fun y => if y = Str.ofString "tabsize" then some (Value.int ts tt) else if y = Str.ofString "dues" then some (Value.ref DU) else if y = Str.ofString "behind" then some (Value.ref bh) else if y = Str.ofString "table" then some (Value.ref TB) else m y := by
    (funext y9; (repeat (first | rfl | (split; · first | rfl | (rename_i q9; rw [q9]; assumption)))))
  rw [eF] at F
  try k_fold
  k_steps
  (with_reducible rename Fr _ _ _ _ => zF)
  (with_reducible rename News _ _ _ _ => zN)
  rw [← eF] at zF
  exact hret _ _ _ _ _ _ _ (by assumption) zF zN (by assumption)
end
-- text tdl
section
noncomputable def triF (B0 B1 : Int) (ds0 ds1 : List Int) (k : Int) : Int × Int × Int := (k, colF B0 k ds0, colF B1 k ds1)
theorem rangeKs_snoc (a : Int) (i : Nat) : rangeKs a (i + 1) = rangeKs a i ++ [a + (i : Int)] := by
  unfold rangeKs; rw [List.range_succ, List.map_append]; rfl
/-- the loop over tab sizes, behind i turns -/
noncomputable def TdJ (TB DU bh LN : Addr) (led : List (Addr × Obj)) (B0 B1 : Int) (ds0 ds1 : List Int) (i : Nat) (m₁ : Str → Option Value) (nx : List (Addr × Obj)) : Prop :=
  ∃ vs tl, nx = (TB, listOf (List.toArray vs) i) :: (tl ++ led) ∧ TriAll tl vs ((rangeKs 1 i).map (triF B0 B1 ds0 ds1)) ∧ OwnOff tl [TB] ∧ vs.length = i ∧
    m₁ (Str.ofString "table") = some (.ref TB) ∧ m₁ (Str.ofString "dues") = some (.ref DU) ∧ m₁ (Str.ofString "behind") = some (.ref bh) ∧ m₁ (Str.ofString "lines") = some (.ref LN)
set_option maxHeartbeats 4000000 in
theorem td_loop {w : World} {p : Program} {loose : List Str} {mean : ExcName → Option Value} {mg mb : Str → Option Value} {dp un : Nat} {gd : Option (List Code)} {cn : Str} {a : Addr} {ccd : Value} {cl : List (Str × Addr)} {outer : List Env} {A₀ : Around} {base h₀ : Heap} {L : Addr} {m : Str → Option Value} {s : Shared} {Q : Flow → Shared → Prop} {led : List (Addr × Obj)}
    {DU bh d0 d1 TB LN rg : Addr} {dv0 dv1 : List Value} {dk0 dk1 du9 bk : Nat} {B0 B1 M : Int} {b0 b1 t₀ u₀ v₀ : Tok} {ds0 ds1 : List Int} {px : Pos}
    (B : Below A₀ base outer h₀) (X : (hd.heap_1 w.params).In h₀) (T₀ : Top p loose mean mg mb h₀) (F : Fr h₀ L s.heap m) (N : News h₀ L s.heap ((TB, listOf #[] 0) :: led))
    (hDl : (DU, listOf #[Value.ref d0, Value.ref d1] du9) ∈ led) (hbl : (bh, listOf #[Value.int B0 b0, Value.int B1 b1] bk) ∈ led) (hd0 : (d0, listOf dv0.toArray dk0) ∈ led) (hd1 : (d1, listOf dv1.toArray dk1) ∈ led) (hI0 : IntsAre dv0 ds0) (hI1 : IntsAre dv1 ds1) (hz0 : ds0.length ≤ 4) (hz1 : ds1.length ≤ 4) (hw0 : ∀ n ∈ ds0, 1 ≤ n ∧ n ≤ 6) (hw1 : ∀ n ∈ ds1, 1 ≤ n ∧ n ≤ 6)
    (hof : OwnOff led [TB]) (hM : 0 ≤ M ∧ M ≤ 6) (hr : IsRange s.heap rg 1 (M + 2) 1 t₀ u₀ v₀) (k1 : m (Str.ofString "table") = some (.ref TB)) (k2 : m (Str.ofString "dues") = some (.ref DU)) (k3 : m (Str.ofString "behind") = some (.ref bh)) (k4 : m (Str.ofString "lines") = some (.ref LN))
    (hgb : AllBare s.gens) (hd : dp + 20 < recursionLimit) (hu : un + 300 < cLine)
    (hret : ∀ m' vs tl k h' tk' g', AllBare g' → Fr h₀ L h' m' → News h₀ L h' ((TB, listOf (List.toArray vs) k) :: (tl ++ led)) → TriAll tl vs ((rangeKs 1 (M + 2 - 1).toNat).map (triF B0 B1 ds0 ds1)) → m' (Str.ofString "table") = some (.ref TB) → m' (Str.ofString "lines") = some (.ref LN) → Q .next { s with heap := h', toks := tk', gens := g' }) :
    wpAny (model PySem.Challenge.rw_st0029_01.row.prog w) (ktrTop dp un gd cn lawFd.1.2 L a ccd cl outer) (pyIter (.ref rg)) (fun it s₂ => codeAny (model PySem.Challenge.rw_st0029_01.row.prog w) (ktrTop dp un gd cn lawFd.1.2 L a ccd cl outer) (.forLoop (.Name (Str.ofString "tabsize") px) it td1 [] (envX cn lawFd.1.2 L a ccd cl)) (fun r s' => match r with | .ok f => Q f s' | .error e => cameBackBy (model PySem.Challenge.rw_st0029_01.row.prog w) (ktrTop dp un gd cn lawFd.1.2 L a ccd cl outer) (envX cn lawFd.1.2 L a ccd cl) (fun _ _ => False) e s') s₂) (fun _ _ => False) s := by
  refine own_rangeG (n := (M + 2 - 1).toNat) (TdJ TB DU bh LN led B0 B1 ds0 ds1) rfl hr (small_one (by omega) (by omega) (by omega) (by omega)) (rangeSize_nat _ _) rfl rfl F N hgb ⟨[], [], rfl, .nil, fun p hp => (nomatch hp), rfl, k1, k2, k3, k4⟩ ?turn ?done
  case turn =>
    rintro i t m₁ nx h tk g own hin hoff ⟨vs, tl, rfl, hT, hO, hl, m1, m2, m3, m4⟩ gb bF bN
    have gm : ∀ {y v}, y ≠ Str.ofString "tabsize" → m₁ y = v → (fun y => if y = Str.ofString "tabsize" then some (Value.int (1 + (i : Int)) t) else m₁ y) y = v := fun hy hv => by simp only [if_neg hy]; exact hv
    have hO2 : OwnOff (tl ++ led ++ own) [TB] := off_app (off_app hO hof) fun p hp b hb => by
      rw [List.mem_singleton.mp hb]; exact hoff p hp _ (.head _)
    have hal : ∀ {p : Addr × Obj}, p ∈ led → p ∈ tl ++ led ++ own := fun hp => List.mem_append.mpr (.inl (List.mem_append.mpr (.inr hp)))
    refine td_c (s := { s with heap := h, toks := tk, gens := g }) B bF X T₀ bN (if_pos rfl) (gm (by decide) m2) (gm (by decide) m3) (gm (by decide) m1) (hal hDl) (hal hbl) (hal hd0) (hal hd1) hI0 hI1 hz0 hz1 hw0 hw1 (by omega) (by omega) hO2 (by omega) gb hd hu fun TT t1 t2 t3 h' tk' g' gb' F' N' hlt => ?_
    have lt := tb_ltOf hlt.2
    refine ⟨h', tk', g', _, _, (TB, listOf (vs ++ [Value.ref TT]).toArray (i + 1)) :: (((TT, tupO [.int (1 + (i : Int)) t1, .int (colF B0 (1 + (i : Int)) ds0) t2, .int (colF B1 (1 + (i : Int)) ds1) t3]) :: tl) ++ led), rfl, gb', F', N', ?_, ?_, ?_, vs ++ [Value.ref TT], (TT, tupO [.int (1 + (i : Int)) t1, .int (colF B0 (1 + (i : Int)) ds0) t2, .int (colF B1 (1 + (i : Int)) ds1) t3]) :: tl, rfl, ?_, ?_, ?_, gm (by decide) m1, gm (by decide) m2, gm (by decide) m3, gm (by decide) m4⟩
    · intro p hp
      simp only [List.mem_cons, List.mem_append] at hp ⊢
      rcases hp with h | (h | h) | h <;> simp [h]
    · intro p hp
      simp only [List.mem_cons, List.mem_append]
      simp [hp]
    · intro p hp q hq
      rcases List.mem_cons.mp hq with rfl | hq
      · exact hoff p hp (TB, listOf vs.toArray i) (.head _)
      · rcases List.mem_cons.mp hq with rfl | hq
        · exact Nat.ne_of_lt (lt p (List.mem_append.mpr (.inr hp)))
        · exact hoff p hp q (.tail _ hq)
    · rw [rangeKs_snoc, List.map_append]
      exact (hT.mono fun p hp => .tail _ hp).snoc ⟨TT, t1, t2, t3, rfl, .head _⟩
    · intro p hp b hb
      rcases List.mem_cons.mp hp with rfl | hp
      · rw [List.mem_singleton.mp hb]; exact (Nat.ne_of_lt hlt.1).symm
      · exact hO p hp b hb
    · rw [List.length_append, hl]; rfl
  case done =>
    rintro m₁ nx h tk g ⟨vs, tl, rfl, hT, hO, hl, m1, m2, m3, m4⟩ gb bF bN
    exact hret _ vs tl _ _ _ g gb bF bN hT m1 m4
end
-- text secD
section
theorem zs_len {ds0 ds1 : List Int} {zs : List Int} (e : zs = (ds0 ++ ds1).map (· - 1)) (h0 : ds0.length ≤ 4) (h1 : ds1.length ≤ 4) : zs.length ≤ 8 := by
  rw [e, List.length_map, List.length_append]; omega
theorem zs_all {ds0 ds1 : List Int} {zs : List Int} (e : zs = (ds0 ++ ds1).map (· - 1)) (h0 : ∀ n ∈ ds0, 1 ≤ n ∧ n ≤ 6) (h1 : ∀ n ∈ ds1, 1 ≤ n ∧ n ≤ 6) : ∀ z ∈ zs, 0 ≤ z ∧ z ≤ 5 := fun z hz => by
  rw [e] at hz
  obtain ⟨n, hn, rfl⟩ := List.mem_map.mp hz
  rcases List.mem_append.mp hn with h | h
  · have := h0 n h; omega
  · have := h1 n h; omega
theorem max_rng {B0 B1 M : Int} {zs : List Int} (hz : ∀ z ∈ zs, 0 ≤ z ∧ z ≤ 5) (h0 : 0 ≤ B0 ∧ B0 ≤ 6) (h1 : 0 ≤ B1 ∧ B1 ≤ 6) (hM : M ∈ [B0, B1] ++ zs) : 0 ≤ M ∧ M ≤ 6 := by
  rcases List.mem_append.mp hM with h | h
  · simp only [List.mem_cons, List.not_mem_nil, or_false] at h
    rcases h with rfl | rfl <;> omega
  · have := hz M h; omega
theorem reg_secD_1 : True := by
  k_with_none
  k_with "cell_enter" => (refine' own_def0 ?cek1 ?cek2 ?cek3 ?cek5 ?cekA ?cekF ?cekK ?cek6 ?cek7 ?cek8 ?cek9 ?cekB ?_ ?cec2 ?cec3 ?cec4 ?cec5; (case cekA => exact rfl); (case cekF => exact rfl); (case cekK => assumption); (case cek1 => k_asm); (case cek2 => k_asm); (case cek3 => k_asm); (case cek5 => k_asm); (case cek6 => k_is); (case cek7 => k_is); (case cek8 => ktr_room); (case cek9 => exact BindsTo.of_eq rfl); (case cec5 => decide); (case cekB => exact locs rfl); (case cec2 => exact rfl); (case cec3 => exact rfl); (case cec4 => exact rfl); k_whole; intro _ _ _ Bq9 _ _; (try dsimp only); (try k_lift Bq9); (try k_fold))
  k_with "units_room" => (have hcL9 := cLine_is; (try dsimp only [ktrTop]); simp only [units_in1, units_deeper, Around.mark_units, units_caller]; omega)
  k_with "call builtin:list.index" => (k_here; (with_reducible show wpAny _ _ (call (Value.builtin _) [Value.ref _, Value.int _ _]) _ _ _); k_dflt (refine' own_index (by is_list) (by l_ints) (by tb_start) (by first | assumption | exact any_mem (by assumption)) ?_; k_whole))
  k_with "getMethod ref" => ((with_reducible show wpAny _ _ (getMethod (Value.ref _) (Str.ofString "index") _) _ _ _); k_dflt (refine getMethod_list_of PySem.F.slot_list_index PySem.F.type_list_index (by is_list) (by no_dict) ?_))
  k_with "call builtin:len" => (k_here; (with_reducible show wpAny _ _ (call (Value.builtin "len") [Value.ref _]) _ _ _); k_dflt (refine' own_len (by is_list) (by l_ints) (by tb_start) ?_; k_whole))
  k_with "subscriptTail Name Slice ref ref" => (k_here; (with_reducible show wpAny _ _ (subscriptTail _ (PySem.Expr.Slice _ _ none _) (Value.ref _) (Value.ref _)) _ _ _); k_dflt (refine' own_slice (by k_asm) (by k_asm) (by kmk_list) (by l_ints) (by tb_start) (by kmk_part) (by kmk_part) ?_ (by with_unfolding_all rfl) (by kmk_pure); k_whole); intro _ _ _ _ _ l1q _ _; (try k_lt l1q); (try k_sweep))
  k_with "binaryOp Mult ref int" => (k_here; (with_reducible show wpAny _ _ (binaryOp Operator.Mult (Value.ref _) (Value.int _ _)) _ _ _); k_dflt (refine' own_mul (by k_asm) (by k_asm) (by is_list) (by first | l_ints | l_intsW) (by tb_start) (by tb_start) (by exact mul_small (by tb_start) (by tb_start)) ?_; k_whole); intro _ _ _ _ _ l1q _ _; (try k_lt l1q); (try k_sweep))
  k_with "binaryOp Add ref ref" => (k_here; (with_reducible show wpAny _ _ (binaryOp Operator.Add (Value.ref _) (Value.ref _)) _ _ _); k_dflt (refine' own_add (by k_asm) (by k_asm) (by is_list) (by is_list) (by first | l_ints | l_intsW) (by first | l_ints | l_intsW) (by tb_start) ?_; k_whole); intro _ _ _ _ _ l1q _ _; (try k_lt l1q); (try k_sweep))
  k_with "subscriptTail Name Slice str ref" => ((with_reducible show wpAny _ _ (subscriptTail _ (Expr.Slice none (some _) none _) _ _) _ _ _); (with_reducible rename Fr _ _ _ _ => F'q); (with_reducible rename News _ _ _ _ => N'q); refine slice_strN_ns_len (hsz := (by first | exact Short.fits (by assumption) | (rw [sizeLine_eq]; omega))) (s := ⟨_, _, _, _, _⟩) F'q N'q ?_; intro _ _ _ F'q N'q _; (try k_sweep))
  k_with "subscriptTail Name Slice str ref" => ((with_reducible show wpAny _ _ (subscriptTail _ (Expr.Slice (some _) none none _) _ _) _ _ _); (with_reducible rename Fr _ _ _ _ => F'q); (with_reducible rename News _ _ _ _ => N'q); refine slice_strN_sn_len (hsz := (by first | exact Short.fits (by assumption) | (rw [sizeLine_eq]; omega))) (s := ⟨_, _, _, _, _⟩) F'q N'q ?_; intro _ _ _ F'q N'q _; (try k_sweep))
  k_with "tb_rel" => (intro _ h9q k9q; (simp only [List.forall_mem_cons, List.not_mem_nil, false_implies, implies_true, and_true, ne_eq] at h9q); (try simp only [List.contains_cons, List.contains_nil, Bool.or_false, Bool.or_eq_false_iff, beq_eq_false_iff_ne, ne_eq] at k9q); simp [kstB, h9q, k9q])
  k_with "execs cons Expr cons" => ((with_reducible refine wpAny_execs_cons ?_); try dsimp only)
  k_with "execs cons" => ((with_reducible refine wpAny_execs_cons ?_); try dsimp only)
  k_with "call ref" => (k_dflt (show wpAny _ _ (call (Value.ref 132) [Value.ref _, Value.int _ _, Value.int _ _]) _ _ _); k_dflt (refine' col_c (by k_asm) (by k_asm) (by k_asm) (by k_asm) (by rfl) (by exact News.get (by k_asm) (by k_mem)) (by assumption) (by assumption) (by assumption) (by omega) (by omega) (by assumption) (by (try dsimp only [ktrTop]); omega) (by (try dsimp only [ktrTop]); omega) ?_); intro _ _ _ _ st'q _; k_dflt (obtain ⟨_, _⟩ := behind (by k_asm) (by k_asm) st'q); clear st'q; (try k_sweep))
  k_with "subscriptTail Name Constant ref int" => (k_here; (with_reducible show wpAny _ _ (subscriptTail _ _ (Value.ref _) (Value.int _ _)) _ _ _); k_dflt (refine' item_listR (by exact News.isList (by k_asm) (by k_mem)) (by decide) (by decide) (by rfl) ?_ (by with_unfolding_all rfl); k_whole))
  k_with "exec For Name Call cons nil" => k_dflt (refine wpAny_For ?_)
  trivial
set_option maxHeartbeats 8000000 in
theorem secD_c {w : World} {p : Program} {loose : List Str} {mean : ExcName → Option Value} {mg mb : Str → Option Value} {dp un : Nat} {gd : Option (List Code)} {cn : Str} {a : Addr} {ccd : Value} {cl : List (Str × Addr)} {outer : List Env} {A₀ : Around} {base h₀ : Heap} {L : Addr} {m : Str → Option Value} {s : Shared} {Q : Flow → Shared → Prop} {led : List (Addr × Obj)}
    {DU LN bh d0 d1 : Addr} {dv0 dv1 : List Value} {dk0 dk1 du9 bk : Nat} {B0 B1 : Int} {b0 b1 : Tok} {ds0 ds1 : List Int}
    (B : Below A₀ base outer h₀) (F : Fr h₀ L s.heap m) (X : (hd.heap_1 w.params).In h₀) (T : Top p loose mean mg mb h₀) (N : News h₀ L s.heap led)
    (f_dues : m (Str.ofString "dues") = some (Value.ref DU)) (f_lines : m (Str.ofString "lines") = some (Value.ref LN)) (f_behind : m (Str.ofString "behind") = some (Value.ref bh))
    (hDl : (DU, listOf #[Value.ref d0, Value.ref d1] du9) ∈ led) (hbl : (bh, listOf #[Value.int B0 b0, Value.int B1 b1] bk) ∈ led) (hd0 : (d0, listOf dv0.toArray dk0) ∈ led) (hd1 : (d1, listOf dv1.toArray dk1) ∈ led) (hI0 : IntsAre dv0 ds0) (hI1 : IntsAre dv1 ds1) (hz0 : ds0.length ≤ 4) (hz1 : ds1.length ≤ 4) (hw0 : ∀ n ∈ ds0, 1 ≤ n ∧ n ≤ 6) (hw1 : ∀ n ∈ ds1, 1 ≤ n ∧ n ≤ 6) (hB0 : 0 ≤ B0 ∧ B0 ≤ 6) (hB1 : 0 ≤ B1 ∧ B1 ≤ 6) (hgb : AllBare s.gens) (hd : dp + 20 < recursionLimit) (hu : un + 300 < cLine)
    (hret : ∀ m' M TB vs tl k h' tk' g', M ∈ [B0, B1] ++ (ds0 ++ ds1).map (· - 1) → (∀ a, a ∈ [B0, B1] ++ (ds0 ++ ds1).map (· - 1) → a ≤ M) → AllBare g' → Fr h₀ L h' m' → News h₀ L h' ((TB, listOf (List.toArray vs) k) :: (tl ++ led)) → TriAll tl vs ((rangeKs 1 (M + 2 - 1).toNat).map (triF B0 B1 ds0 ds1)) → m' (Str.ofString "table") = some (.ref TB) → m' (Str.ofString "lines") = some (.ref LN) → Q .next { s with heap := h', toks := tk', gens := g' }) :
    wpAny (model PySem.Challenge.rw_st0029_01.row.prog w) (ktrTop dp un gd cn lawFd.1.2 L a ccd cl outer) (execs secD (envX cn lawFd.1.2 L a ccd cl)) Q (fun _ _ => False) s := by
  w_top off
  revert X
  k_fill
  intro X
  simp only [lawFd, plFd, secD, List.drop_succ_cons, List.drop_zero, List.take_succ_cons, List.take_zero]
  have eF : m = fun y => if y = Str.ofString "dues" then some (Value.ref DU) else if y = Str.ofString "lines" then some (Value.ref LN) else if y = Str.ofString "behind" then some (Value.ref bh) else m y := by
    (funext y9; (repeat (first | rfl | (split; · first | rfl | (rename_i q9; rw [q9]; assumption)))))
  rw [eF] at F
  try k_fold
  k_steps
  (with_reducible rename Fr _ _ _ _ => tF)
  (with_reducible rename News _ _ _ _ => tN)
  refine own_two (ls := [(d0, dv0, ds0), (d1, dv1, ds1)]) rfl tF tN (by k_mem) rfl ?hls ?hsz rfl rfl (by decide) (by decide) (by with_unfolding_all rfl) rfl (by decide) (by decide) rfl rfl ?helt ?_
  case hls =>
    intro p hp
    simp only [List.mem_cons, List.not_mem_nil, or_false] at hp
    rcases hp with rfl | rfl
    · exact ⟨hI0, dk0, by k_mem⟩
    · exact ⟨hI1, dk1, by k_mem⟩
  case hsz => simp only [List.flatMap_cons, List.flatMap_nil, List.length_append, List.length_nil]; omega
  case helt => exact fun C n t s₂ m₁ Q' E' hn hm hQ => wpAny_BinOp (wpAny_Name (wpAny_loadName_local rfl rfl hn hm (wpAny_Constant_int (sub_int (hQ _ _)))))
  intro D ys h9 tk9 st9 e1 e2 hI
  obtain ⟨zs, ez⟩ : ∃ zs, zs = (ds0 ++ ds1).map (· - 1) := ⟨_, rfl⟩
  rw [show (List.flatMap (fun x => x.2.2) [(d0, dv0, ds0), (d1, dv1, ds1)] : List Int) = ds0 ++ ds1 by simp, ← ez] at hI
  have hzl := zs_len ez hz0 hz1
  have hza := zs_all ez hw0 hw1
  obtain ⟨F9, N9, _⟩ := behind1 (o := listOf ys.toArray ys.length) tF tN st9 e2 e1
  clear tF tN st9 e1 e2
  have hbI : IntsAre [Value.int B0 b0, Value.int B1 b1] [B0, B1] := .cons _ _ (.cons _ _ .nil)
  try k_fold
  k_steps
  (with_reducible rename Fr _ _ _ _ => tF)
  (with_reducible rename News _ _ _ _ => tN)
  rename IsRange _ _ _ _ _ _ _ _ => rg9
  rename (_ ∈ [B0, B1] ++ zs) => hM
  rename (∀ a, a ∈ [B0, B1] ++ zs → a ≤ _) => hMa
  rename (_ < _ ∧ _ < _ ∧ AllLt _ led) => lt9
  have hMr := max_rng hza hB0 hB1 hM
  rw [ez] at hM hMa
  refine td_loop B X T tF (news_of tN fun p hp => ?_) hDl hbl hd0 hd1 hI0 hI1 hz0 hz1 hw0 hw1 ?hof hMr rg9 rfl rfl rfl rfl hgb hd hu fun m' vs tl k h' tk' g' gb' F' N' hT m1 m2 => ?_
  case hof => exact fun p hp b hb => by rw [List.mem_singleton.mp hb]; exact Nat.ne_of_lt (tb_ltOf lt9.2.2 p hp)
  · rcases List.mem_cons.mp hp with rfl | hp
    · exact .head _
    · exact .tail _ (.tail _ (.tail _ hp))
  · try k_fold
    k_steps
    exact hret _ _ _ vs tl _ _ _ g' hM hMa gb' F' N' hT m1 m2
end
-- text secE1
section
noncomputable def secE1 : List Stmt := secE.take 3
noncomputable def secE2 : List Stmt := secE.drop 3
theorem secE_secs : secE = secE1 ++ secE2 := rfl
section
variable {prog : Program} {w : World} {A : Around} {s₂ : Shared} {cenv : Env} {C : Addr} {x y : Str} {px py pos : Pos} {m₁ : Str → Option Value} {a b : Int} {t u : Tok} {Q' : Bool → Shared → Prop} {E' : Value → Shared → Prop}
theorem test_ge (hk : cenv.scope.kind = .function) (hx : cenv.kindOf x = some .local) (hy : cenv.kindOf y = some .local) (dx : (x == ("__debug__" : Str)) = false) (dy : (y == ("__debug__" : Str)) = false) (hn : s₂.heap.Ns cenv.locals m₁) (ex : m₁ x = some (.int a t)) (ey : m₁ y = some (.int b u)) (h : ∀ tk', Q' (decide (b ≤ a)) { s₂ with toks := tk' }) :
    wpAny (model prog w) A (isTrue (.Compare (.Name x px) [.GtE] [.Name y py] pos) cenv (eval (.Compare (.Name x px) [.GtE] [.Name y py] pos) cenv)) Q' E' s₂ :=
  wpAny_isTrue_Compare1 (wpAny_Name (wpAny_loadName_local hk hx hn ex (wpAny_Name (wpAny_loadName_local hk hy hn ey (ge_int (wpAny_pure (h s₂.toks)))) dy)) dx)
theorem test_ne (hk : cenv.scope.kind = .function) (hx : cenv.kindOf x = some .local) (hy : cenv.kindOf y = some .local) (dx : (x == ("__debug__" : Str)) = false) (dy : (y == ("__debug__" : Str)) = false) (hn : s₂.heap.Ns cenv.locals m₁) (ex : m₁ x = some (.int a t)) (ey : m₁ y = some (.int b u)) (h : ∀ tk', Q' (a != b) { s₂ with toks := tk' }) :
    wpAny (model prog w) A (isTrue (.Compare (.Name x px) [.NotEq] [.Name y py] pos) cenv (eval (.Compare (.Name x px) [.NotEq] [.Name y py] pos) cenv)) Q' E' s₂ :=
  wpAny_isTrue_Compare1 (wpAny_Name (wpAny_loadName_local hk hx hn ex (wpAny_Name (wpAny_loadName_local hk hy hn ey (ne_int (wpAny_pure (h s₂.toks)))) dy)) dx)
theorem elt_tri {z : Str} {pz : Pos} {k : Nat} {c : Int} {v : Tok} {Q' : Value → Shared → Prop} (hk : cenv.scope.kind = .function) (hx : cenv.kindOf x = some .local) (hy : cenv.kindOf y = some .local) (hz : cenv.kindOf z = some .local) (dx : (x == ("__debug__" : Str)) = false) (dy : (y == ("__debug__" : Str)) = false) (dz : (z == ("__debug__" : Str)) = false) (hn : s₂.heap.Ns cenv.locals m₁) (ex : m₁ x = some (.int a t)) (ey : m₁ y = some (.int b u)) (ez : m₁ z = some (.int c v))
    (h : ∀ u1 u2 u3 tk', Q' (.ref s₂.heap.objs.size) { s₂ with heap := s₂.heap.push (tupO [.int a u1, .int b u2, .int c u3]), toks := tk' }) :
    wpAny (model prog w) A (eval (.Tuple [.Name x px, .Name y py, .Name z pz] k pos) cenv) Q' E' s₂ :=
  wpAny_Tuple_spliced (spliced_more (wpAny_Name (wpAny_loadName_local hk hx hn ex (spliced_more (wpAny_Name (wpAny_loadName_local hk hy hn ey (spliced_more (wpAny_Name (wpAny_loadName_local hk hz hn ez (spliced_none ⟨by rw [sizeLine_eq]; show 3 ≤ _; omega, h t u v s₂.toks⟩)) dz))) dy))) dx))
end
set_option maxHeartbeats 8000000 in
theorem secE1_c {w : World} {p : Program} {loose : List Str} {mean : ExcName → Option Value} {mg mb : Str → Option Value} {dp un : Nat} {gd : Option (List Code)} {cn : Str} {a : Addr} {ccd : Value} {cl : List (Str × Addr)} {outer : List Env} {A₀ : Around} {base h₀ : Heap} {L : Addr} {m : Str → Option Value} {s : Shared} {Q : Flow → Shared → Prop} {led : List (Addr × Obj)}
    {TB : Addr} {vs : List Value} {ep : Nat} {rs : List (Int × Int × Int)}
    (B : Below A₀ base outer h₀) (F : Fr h₀ L s.heap m) (X : (hd.heap_1 w.params).In h₀) (T : Top p loose mean mg mb h₀) (N : News h₀ L s.heap led)
    (f_table : m (Str.ofString "table") = some (Value.ref TB))
    (hm : (TB, listOf vs.toArray ep) ∈ led) (hT : TriAll led vs rs) (hsz : rs.length ≤ 1000) (hgb : AllBare s.gens) (hd : dp + 20 < recursionLimit) (hu : un + 300 < cLine)
    (hret : ∀ m' D1 D2 D3 ws1 ws2 ws3 tl1 tl2 tl3 h' tk', TriAll tl1 ws1 ((rs.filter fun r => decide (r.2.2 ≤ r.2.1)).map fun r => r) → TriAll tl2 ws2 ((rs.filter fun r => decide (r.2.1 ≤ r.2.2)).map fun r => (r.1, r.2.2, r.2.1)) → TriAll tl3 ws3 ((rs.filter fun r => r.2.1 != r.2.2).map fun r => r) → Fr h₀ L h' m' → News h₀ L h' ((D3, LCg.lst ws3) :: (tl3 ++ ((D2, LCg.lst ws2) :: (tl2 ++ ((D1, LCg.lst ws1) :: (tl1 ++ led)))))) → m' (Str.ofString "forth") = some (.ref D1) → m' (Str.ofString "back") = some (.ref D2) → m' (Str.ofString "apart") = some (.ref D3) → (∀ y, y ≠ Str.ofString "apart" → y ≠ Str.ofString "back" → y ≠ Str.ofString "forth" → m' y = m y) → Q .next { s with heap := h', toks := tk' }) :
    wpAny (model PySem.Challenge.rw_st0029_01.row.prog w) (ktrTop dp un gd cn lawFd.1.2 L a ccd cl outer) (execs secE1 (envX cn lawFd.1.2 L a ccd cl)) Q (fun _ _ => False) s := by
  have mem2 : ∀ {x : Addr × Obj} {tl l : List (Addr × Obj)} {q : Addr × Obj}, q ∈ l → q ∈ x :: (tl ++ l) := fun h => .tail _ (List.mem_append.mpr (.inr h))
  simp only [lawFd, secE1, secE, List.drop_succ_cons, List.drop_zero, List.take_succ_cons, List.take_zero]
  refine wpAny_execs_cons ?_
  refine own_tri (ax := TB) (rs := rs) (fun r => decide (r.2.2 ≤ r.2.1)) (fun r => r) rfl F N hm f_table hT hsz rfl rfl (by decide) (by with_unfolding_all rfl) (by with_unfolding_all rfl) rfl (by decide) (by decide) rfl rfl rfl (by decide) (by decide) (by decide) rfl rfl ?te ?el ?nx
  case te => exact fun C a b c t1 t2 t3 s₂ m₁ Q' E' hn e1 e2 e3 h => test_ge rfl rfl rfl (by decide) (by decide) hn e2 e3 h
  case el => exact fun C a b c t1 t2 t3 s₂ m₁ Q' E' hn e1 e2 e3 h => elt_tri rfl rfl rfl rfl (by decide) (by decide) (by decide) hn e1 e2 e3 h
  case nx =>
  intro D1 ws1 tl1 h1 k1 F1 N1 W1
  refine wpAny_execs_cons ?_
  refine own_tri (ax := TB) (rs := rs) (fun r => decide (r.2.1 ≤ r.2.2)) (fun r => (r.1, r.2.2, r.2.1)) rfl F1 N1 (mem2 hm) ((if_neg (by decide)).trans f_table) (hT.mono fun _ hp => mem2 hp) hsz rfl rfl (by decide) (by with_unfolding_all rfl) (by with_unfolding_all rfl) rfl (by decide) (by decide) rfl rfl rfl (by decide) (by decide) (by decide) rfl rfl ?te ?el ?nx
  case te => exact fun C a b c t1 t2 t3 s₂ m₁ Q' E' hn e1 e2 e3 h => test_ge rfl rfl rfl (by decide) (by decide) hn e3 e2 h
  case el => exact fun C a b c t1 t2 t3 s₂ m₁ Q' E' hn e1 e2 e3 h => elt_tri rfl rfl rfl rfl (by decide) (by decide) (by decide) hn e1 e3 e2 h
  case nx =>
  intro D2 ws2 tl2 h2 k2 F2 N2 W2
  refine wpAny_execs_cons ?_
  refine own_tri (ax := TB) (rs := rs) (fun r => r.2.1 != r.2.2) (fun r => r) rfl F2 N2 (mem2 (mem2 hm)) ((if_neg (by decide)).trans ((if_neg (by decide)).trans f_table)) (hT.mono fun _ hp => mem2 (mem2 hp)) hsz rfl rfl (by decide) (by with_unfolding_all rfl) (by with_unfolding_all rfl) rfl (by decide) (by decide) rfl rfl rfl (by decide) (by decide) (by decide) rfl rfl ?te ?el ?nx
  case te => exact fun C a b c t1 t2 t3 s₂ m₁ Q' E' hn e1 e2 e3 h => test_ne rfl rfl rfl (by decide) (by decide) hn e2 e3 h
  case el => exact fun C a b c t1 t2 t3 s₂ m₁ Q' E' hn e1 e2 e3 h => elt_tri rfl rfl rfl rfl (by decide) (by decide) (by decide) hn e1 e2 e3 h
  case nx =>
  intro D3 ws3 tl3 h3 k3 F3 N3 W3
  refine wpAny_execs_nil ?_
  exact hret _ D1 D2 D3 ws1 ws2 ws3 tl1 tl2 tl3 _ _ W1 W2 W3 F3 N3 rfl rfl rfl (fun y h1 h2 h3 => by simp only [if_neg h1, if_neg h2, if_neg h3])
end
-- text secE2
section
theorem equal_c' {w : World} {p : Program} {loose : List Str} {mean : ExcName → Option Value} {mg mb : Str → Option Value} {dp un : Nat} {gd : Option (List Code)} {cn : Str} {cs : Scope} {a : Addr} {ccd : Value} {cl : List (Str × Addr)} {outer : List Env} {A₀ : Around} {base h₀ : Heap} {L : Addr} {m : Str → Option Value} {s : Shared} {Q E : Value → Shared → Prop}
    {l l2 : Addr} {q q2 : List Int × Int × Int × Int} {v : Bool}
    (B : Below A₀ base outer h₀) (F : Fr h₀ L s.heap m) (X : (hd.heap_1 w.params).In h₀) (T : Top p loose mean mg mb h₀) (hk : cs.kind = .function)
    (W : WsAt w s.heap l q) (W2 : WsAt w s.heap l2 q2) (e : decide (q.1 = q2.1 ∧ q.2.1 = q2.2.1) = v) (hd : dp + 5 < recursionLimit) (hu : un + 100 < cLine)
    (hret : ∀ h' tk', s.heap.StaysIn h' → Q (.bool v) { s with heap := h', toks := tk' }) :
    wpAny (model PySem.Challenge.rw_st0029_01.row.prog w) (ktrTop dp un gd cn cs L a ccd cl outer) (call (.ref 52) [.ref l, .ref l2]) Q E s :=
  equal_c B F X T hk W W2 hd hu fun h' tk' st => by rw [e]; exact hret h' tk' st
section
variable {prog : Program} {w : World} {A : Around} {E : Value → Shared → Prop} {s : Shared}
theorem own_neT {a b : Addr} {ns ms : List (Int × Int × Int)} {as bs : List Addr} {Q : Value → Shared → Prop} (ra : Reads s.heap (.ref a) (trisD ns) as) (rb : Reads s.heap (.ref b) (trisD ms) bs) (hu : A.units + 64 < cLine) (e : ns = ms)
    (h : Q (.bool false) s) : wpAny (model prog w) A (compareOp .NotEq (.ref a) (.ref b)) Q E s :=
  own_neTris ra rb hu (by subst e; simpa using h)
theorem own_eqT {a b : Addr} {ns ms : List (Int × Int × Int)} {as bs : List Addr} {v : Bool} {Q : Value → Shared → Prop} (ra : Reads s.heap (.ref a) (trisD ns) as) (rb : Reads s.heap (.ref b) (trisD ms) bs) (hu : A.units + 64 < cLine) (e : decide (ns = ms) = v)
    (h : Q (.bool v) s) : wpAny (model prog w) A (compareOp .Eq (.ref a) (.ref b)) Q E s :=
  own_eqTris ra rb hu (by rw [e]; exact h)
theorem triReads {h₀ h : Heap} {L b : Addr} {led led' : List (Addr × Obj)} {ws : List Value} {n : Nat} {rs : List (Int × Int × Int)} (N : News h₀ L h led') (hm : (b, listOf ws.toArray n) ∈ led') (hT : TriAll led ws rs) (hs : ∀ p ∈ led, p ∈ led') : Reads h (.ref b) (trisD rs) [b] :=
  (hT.mono hs).list (fun p hp => (N p hp).1) (N _ hm).1
theorem nilReads {h₀ h : Heap} {L b : Addr} {led' : List (Addr × Obj)} {n : Nat} (N : News h₀ L h led') (hm : (b, listOf #[] n) ∈ led') : Reads h (.ref b) (trisD []) [b] :=
  triReads (ws := []) (led := []) N hm .nil (fun p hp => (nomatch hp))
end
theorem reg_secE2_1 : True := by
  k_with_none
  k_with "cell_enter" => (refine' own_def0 ?cek1 ?cek2 ?cek3 ?cek5 ?cekA ?cekF ?cekK ?cek6 ?cek7 ?cek8 ?cek9 ?cekB ?_ ?cec2 ?cec3 ?cec4 ?cec5; (case cekA => exact rfl); (case cekF => exact rfl); (case cekK => assumption); (case cek1 => k_asm); (case cek2 => k_asm); (case cek3 => k_asm); (case cek5 => k_asm); (case cek6 => k_is); (case cek7 => k_is); (case cek8 => ktr_room); (case cek9 => exact BindsTo.of_eq rfl); (case cec5 => decide); (case cekB => exact locs rfl); (case cec2 => exact rfl); (case cec3 => exact rfl); (case cec4 => exact rfl); k_whole; intro _ _ _ Bq9 _ _; (try dsimp only); (try k_lift Bq9); (try k_fold))
  k_with "units_room" => (have hcL9 := cLine_is; (try dsimp only [ktrTop]); simp only [units_in1, units_deeper, Around.mark_units, units_caller]; omega)
  k_with "call builtin:list.index" => (k_here; (with_reducible show wpAny _ _ (call (Value.builtin _) [Value.ref _, Value.int _ _]) _ _ _); k_dflt (refine' own_index (by is_list) (by l_ints) (by tb_start) (by first | assumption | exact any_mem (by assumption)) ?_; k_whole))
  k_with "getMethod ref" => ((with_reducible show wpAny _ _ (getMethod (Value.ref _) (Str.ofString "index") _) _ _ _); k_dflt (refine getMethod_list_of PySem.F.slot_list_index PySem.F.type_list_index (by is_list) (by no_dict) ?_))
  k_with "call builtin:len" => (k_here; (with_reducible show wpAny _ _ (call (Value.builtin "len") [Value.ref _]) _ _ _); k_dflt (refine' own_len (by is_list) (by l_ints) (by tb_start) ?_; k_whole))
  k_with "subscriptTail Name Slice ref ref" => (k_here; (with_reducible show wpAny _ _ (subscriptTail _ (PySem.Expr.Slice _ _ none _) (Value.ref _) (Value.ref _)) _ _ _); k_dflt (refine' own_slice (by k_asm) (by k_asm) (by kmk_list) (by l_ints) (by tb_start) (by kmk_part) (by kmk_part) ?_ (by with_unfolding_all rfl) (by kmk_pure); k_whole); intro _ _ _ _ _ l1q _ _; (try k_lt l1q); (try k_sweep))
  k_with "binaryOp Mult ref int" => (k_here; (with_reducible show wpAny _ _ (binaryOp Operator.Mult (Value.ref _) (Value.int _ _)) _ _ _); k_dflt (refine' own_mul (by k_asm) (by k_asm) (by is_list) (by first | l_ints | l_intsW) (by tb_start) (by tb_start) (by exact mul_small (by tb_start) (by tb_start)) ?_; k_whole); intro _ _ _ _ _ l1q _ _; (try k_lt l1q); (try k_sweep))
  k_with "binaryOp Add ref ref" => (k_here; (with_reducible show wpAny _ _ (binaryOp Operator.Add (Value.ref _) (Value.ref _)) _ _ _); k_dflt (refine' own_add (by k_asm) (by k_asm) (by is_list) (by is_list) (by first | l_ints | l_intsW) (by first | l_ints | l_intsW) (by tb_start) ?_; k_whole); intro _ _ _ _ _ l1q _ _; (try k_lt l1q); (try k_sweep))
  k_with "subscriptTail Name Slice str ref" => ((with_reducible show wpAny _ _ (subscriptTail _ (Expr.Slice none (some _) none _) _ _) _ _ _); (with_reducible rename Fr _ _ _ _ => F'q); (with_reducible rename News _ _ _ _ => N'q); refine slice_strN_ns_len (hsz := (by first | exact Short.fits (by assumption) | (rw [sizeLine_eq]; omega))) (s := ⟨_, _, _, _, _⟩) F'q N'q ?_; intro _ _ _ F'q N'q _; (try k_sweep))
  k_with "subscriptTail Name Slice str ref" => ((with_reducible show wpAny _ _ (subscriptTail _ (Expr.Slice (some _) none none _) _ _) _ _ _); (with_reducible rename Fr _ _ _ _ => F'q); (with_reducible rename News _ _ _ _ => N'q); refine slice_strN_sn_len (hsz := (by first | exact Short.fits (by assumption) | (rw [sizeLine_eq]; omega))) (s := ⟨_, _, _, _, _⟩) F'q N'q ?_; intro _ _ _ F'q N'q _; (try k_sweep))
  k_with "tb_rel" => (intro _ h9q k9q; (simp only [List.forall_mem_cons, List.not_mem_nil, false_implies, implies_true, and_true, ne_eq] at h9q); (try simp only [List.contains_cons, List.contains_nil, Bool.or_false, Bool.or_eq_false_iff, beq_eq_false_iff_ne, ne_eq] at k9q); simp [kstB, h9q, k9q])
  k_with "compareOp NotEq ref ref" => (k_here; k_dflt (refine' own_neT (by assumption) (by exact triReads (by k_asm) (by k_mem) (by assumption) (fun p hp => by k_mem)) (by units_room) (by assumption) ?_))
  k_with "compareOp Eq ref ref" => (k_here; k_dflt (refine' own_eqT (by exact triReads (by k_asm) (by k_mem) (by assumption) (fun p hp => by k_mem)) (by exact nilReads (by k_asm) (by exact List.Mem.head _)) (by units_room) (by assumption) ?_))
  k_with "execs cons Expr cons" => ((with_reducible refine wpAny_execs_cons ?_); try dsimp only)
  k_with "execs cons" => ((with_reducible refine wpAny_execs_cons ?_); try dsimp only)
  k_with "getMethod ref" => (k_here; k_dflt (refine' ws_method (by exact wsOf4 (by k_asm) (by assumption) (by k_mem) (by k_mem) (by k_mem) (by k_mem)) (by k_asm) (by k_asm) (by k_is) (by k_is) (by k_is) (by intros; rfl) ?_; k_whole))
  k_with "call ref" => (k_dflt (show wpAny _ _ (call (Value.ref 52) [Value.ref _, Value.ref _]) _ _ _); k_dflt (refine' equal_c' (by k_asm) (by k_asm) (by k_asm) (by k_asm) (by rfl) (by exact wsOf4 (by k_asm) (by assumption) (by k_mem) (by k_mem) (by k_mem) (by k_mem)) (by exact wsOf4 (by k_asm) (by assumption) (by k_mem) (by k_mem) (by k_mem) (by k_mem)) (by assumption) (by (try dsimp only [ktrTop]); omega) (by (try dsimp only [ktrTop]); omega) ?_); intro _ _ st'q; k_dflt (obtain ⟨_, _⟩ := behind (by k_asm) (by k_asm) st'q); clear st'q; (try k_sweep))
  k_with "call ref" => (k_dflt (show wpAny _ _ (call (Value.ref 73) [Value.ref _, Value.ref _]) _ _ _); k_dflt (refine' nlw_c (by k_asm) (by k_asm) (by k_asm) (by k_asm) (by rfl) (by exact wsOf4 (by k_asm) (by assumption) (by k_mem) (by k_mem) (by k_mem) (by k_mem)) (by exact wsOf4 (by k_asm) (by assumption) (by k_mem) (by k_mem) (by k_mem) (by k_mem)) (by assumption) (by assumption) (by assumption) (by assumption) (by (try dsimp only [ktrTop]); omega) (by (try dsimp only [ktrTop]); omega) ?_); intro _ _ _ _ st'q fr'q _; k_dflt (obtain ⟨_, _⟩ := behind (by k_asm) (by k_asm) st'q); clear st'q fr'q; (try k_sweep))
  k_with "call ref" => (k_dflt (show wpAny _ _ (call (Value.ref 59) [Value.ref _, Value.ref _]) _ _ _); k_dflt (refine' new_c (by k_asm) (by k_asm) (by k_asm) (by k_asm) (by rfl) (by exact wsOf4 (by k_asm) (by assumption) (by k_mem) (by k_mem) (by k_mem) (by k_mem)) (by exact wsOf4 (by k_asm) (by assumption) (by k_mem) (by k_mem) (by k_mem) (by k_mem)) (by assumption) (by assumption) (by assumption) (by assumption) (by (try dsimp only [ktrTop]); omega) (by (try dsimp only [ktrTop]); omega) ?_); intro _ _ _ _ st'q fr'q _; k_dflt (obtain ⟨_, _⟩ := behind (by k_asm) (by k_asm) st'q); clear st'q fr'q; (try k_sweep))
  k_with "call ref" => (k_dflt (show wpAny _ _ (call (Value.ref 66) [Value.ref _, Value.ref _]) _ _ _); k_dflt (refine' less_c (by k_asm) (by k_asm) (by k_asm) (by k_asm) (by rfl) (by exact wsOf4 (by k_asm) (by assumption) (by k_mem) (by k_mem) (by k_mem) (by k_mem)) (by exact wsOf4 (by k_asm) (by assumption) (by k_mem) (by k_mem) (by k_mem) (by k_mem)) (by assumption) (by assumption) (by assumption) (by assumption) (by (try dsimp only [ktrTop]); omega) (by (try dsimp only [ktrTop]); omega) ?_); intro _ _ _ e'q st'q; k_dflt (obtain ⟨_, _⟩ := behind (by k_asm) (by k_asm) st'q); clear st'q; (first | rw [‹lessF _ _ = _›] at e'q | skip); subst e'q; (try k_sweep))
  trivial
set_option maxHeartbeats 8000000 in
theorem secE2_c {w : World} {p : Program} {loose : List Str} {mean : ExcName → Option Value} {mg mb : Str → Option Value} {dp un : Nat} {gd : Option (List Code)} {cn : Str} {a : Addr} {ccd : Value} {cl : List (Str × Addr)} {outer : List Env} {A₀ : Around} {base h₀ : Heap} {L : Addr} {m : Str → Option Value} {s : Shared} {Q : Flow → Shared → Prop} {led : List (Addr × Obj)}
    {LN D1 D2 D3 l0 dx0 nT0 cT0 l1 dx1 nT1 cT1 : Addr} {od0 on0 oc0 od1 on1 oc1 : Obj} {ws1 ws2 ws3 : List Value} {ep n1 n2 n3 : Nat} {r1 r2 r3 : List (Int × Int × Int)} {q0 q1 : List Int × Int × Int × Int} {bF bB bA : Bool}
    (B : Below A₀ base outer h₀) (F : Fr h₀ L s.heap m) (X : (hd.heap_1 w.params).In h₀) (T : Top p loose mean mg mb h₀) (N : News h₀ L s.heap led)
    (f_lines : m (Str.ofString "lines") = some (Value.ref LN)) (f_forth : m (Str.ofString "forth") = some (Value.ref D1)) (f_back : m (Str.ofString "back") = some (Value.ref D2)) (f_apart : m (Str.ofString "apart") = some (Value.ref D3))
    (hLN : (LN, listOf #[Value.ref l0, Value.ref l1] ep) ∈ led) (a0 : (l0, instObj 76 dx0) ∈ led) (a1 : (dx0, od0) ∈ led) (a2 : (nT0, on0) ∈ led) (a3 : (cT0, oc0) ∈ led) (b0 : (l1, instObj 76 dx1) ∈ led) (b1 : (dx1, od1) ∈ led) (b2 : (nT1, on1) ∈ led) (b3 : (cT1, oc1) ∈ led) (hW0 : ∀ h'' : Heap, (∀ p ∈ [(l0, instObj 76 dx0), (dx0, od0), (nT0, on0), (cT0, oc0)], h''.get? p.1 = some p.2) → WsAt w h'' l0 q0) (hW1 : ∀ h'' : Heap, (∀ p ∈ [(l1, instObj 76 dx1), (dx1, od1), (nT1, on1), (cT1, oc1)], h''.get? p.1 = some p.2) → WsAt w h'' l1 q1) (c1 : (D1, listOf ws1.toArray n1) ∈ led) (c2 : (D2, listOf ws2.toArray n2) ∈ led) (c3 : (D3, listOf ws3.toArray n3) ∈ led) (T1 : TriAll led ws1 r1) (T2 : TriAll led ws2 r2) (T3 : TriAll led ws3 r3) (z0 : q0.1.length ≤ 200) (z1 : q1.1.length ≤ 200) (y0 : q0.2.1 ≤ 200) (y1 : q1.2.1 ≤ 200) (e1 : nlR q0 q1 (rangeKs 1 (topN q0 q1 + 1 - 1).toNat) = r1) (e2 : nlR q1 q0 (rangeKs 1 (topN q1 q0 + 1 - 1).toNat) = r2) (e3 : neR q0 q1 (rangeKs 1 (topN q0 q1 + 1 - 1).toNat) = r3) (e4 : lessF q0 q1 = bF) (e5 : lessF q1 q0 = bB) (e6 : decide (q0.1 = q1.1 ∧ q0.2.1 = q1.2.1) = bA) (e7 : decide (q1.1 = q0.1 ∧ q1.2.1 = q0.2.1) = bA) (e8 : decide (r1 = []) = bF) (e9 : decide (r2 = []) = bB) (e10 : decide (r3 = []) = bA) (hgb : AllBare s.gens) (hd : dp + 20 < recursionLimit) (hu : un + 300 < cLine)
    (hret : ∀ m' h' tk', Fr h₀ L h' m' → Q (.ret (.bool true)) { s with heap := h', toks := tk' }) :
    wpAny (model PySem.Challenge.rw_st0029_01.row.prog w) (ktrTop dp un gd cn lawFd.1.2 L a ccd cl outer) (execs secE2 (envX cn lawFd.1.2 L a ccd cl)) Q (fun _ _ => False) s := by
  w_top off
  revert X
  k_fill
  intro X
  simp only [lawFd, secE, secE2, List.drop_succ_cons, List.drop_zero, List.take_succ_cons, List.take_zero]
  have eF : m = fun y => if y = Str.ofString "lines" then some (Value.ref LN) else if y = Str.ofString "forth" then some (Value.ref D1) else if y = Str.ofString "back" then some (Value.ref D2) else if y = Str.ofString "apart" then some (Value.ref D3) else m y := by
    (funext y9; (repeat (first | rfl | (split; · first | rfl | (rename_i q9; rw [q9]; assumption)))))
  rw [eF] at F
  try k_fold
  k_steps
  all_goals (first | (exfalso; rename ((_ != _) = true) => x9; simp at x9; done) | skip)
  · rw [beq_self_eq_true]
    exact hret _ _ _ (by k_asm)
  · exfalso
    rename ((_ == _) = false) => x9
    simp at x9
end
-- text pureA
section
/-- the lead's codes, of the sizes and the blanks -/
noncomputable def ldL (ds : List Int) (B : Int) : List Int := ds.flatMap (fun w => List.replicate (w - 1).toNat 32 ++ [9]) ++ List.replicate B.toNat 32
noncomputable def QL (ds : List Int) (B : Int) : List Int × Int × Int × Int := wsRun (ldL ds B) [] 0 0 0
noncomputable def cs (q : List Int × Int × Int × Int) (i : Nat) : Int := q.1.getD i 0
noncomputable def trim : List Int → List Int
  | [] => []
  | x :: r => match trim r with
    | [] => if x = 0 then [] else [x]
    | y :: t => x :: y :: t
noncomputable def colS (c0 c1 c2 c3 c4 c5 b k : Int) : Int := b + (c0 * k + c1 * (k * (1 / k + 1)) + c2 * (k * (2 / k + 1)) + c3 * (k * (3 / k + 1)) + c4 * (k * (4 / k + 1)) + c5 * (k * (5 / k + 1)))
noncomputable def wlen (ds : List Int) : Int := ds.foldl (fun a w => a + ((w - 1) / 2 + 1)) 0
/-- the check of a ruler's line without blanks behind it -/
noncomputable def ckQ (ds : List Int) (q : List Int × Int × Int × Int) : Bool :=
  decide (q.1.length ≤ 6) && decide (q.2.1 = 0) && ([1, 2, 3, 4, 5, 6, 7] : List Int).all (fun k => decide (indF q k = colF 0 k ds) && decide (indF q k = colS (cs q 0) (cs q 1) (cs q 2) (cs q 3) (cs q 4) (cs q 5) 0 k)) &&
  decide (indF q 2 = 2 * wlen ds) && decide (q.1 = trim [cs q 0, cs q 1, cs q 2, cs q 3, cs q 4, cs q 5]) && decide (q.2.2.2 = cs q 0 + cs q 1 + cs q 2 + cs q 3 + cs q 4 + cs q 5) && decide (q.2.2.1 = indF q 1) &&
  (decide (((q.1.length : Nat) : Int) - 1 ∈ ds.map (· - 1)) || decide (q.1.length = 0)) && (ds.map (· - 1)).all (fun x => decide (x ≤ ((q.1.length : Nat) : Int) - 1)) && ds.all (fun w => decide (1 ≤ w) && decide (w ≤ 6)) && decide (ds.length ≤ 4)
theorem ck_one (a : Int) (h : a ∈ DIGS) : (DIGS.all fun b => DIGS.all fun c => ckQ (dueL [a, b, c]) (QL (dueL [a, b, c]) 0)) = true := by
  simp only [DIGS, List.mem_cons, List.not_mem_nil, or_false] at h
  rcases h with rfl | rfl | rfl | rfl | rfl | rfl | rfl <;> decide +kernel
theorem run_flat (l : List Int) : ∀ (r : List Int) (cnt : List Int) (b n nt : Int), (∀ x ∈ l, x = 32 ∨ x = 9) → wsRun (l ++ r) cnt b n nt = wsRun r (wsRun l cnt b n nt).1 (wsRun l cnt b n nt).2.1 (wsRun l cnt b n nt).2.2.1 (wsRun l cnt b n nt).2.2.2 := by
  induction l with
  | nil => exact fun _ _ _ _ _ _ => rfl
  | cons y t ih =>
    intro r cnt b n nt h
    have ht : ∀ x ∈ t, x = 32 ∨ x = 9 := fun x hx => h x (.tail _ hx)
    rw [List.cons_append]; simp only [wsRun]
    rcases h y (.head _) with rfl | rfl
    · simp only [if_true]; exact ih _ _ _ _ _ ht
    · simp only [show ((9 : Int) = 32) = False by decide, if_false, if_true]; exact ih _ _ _ _ _ ht
theorem run_blanks (k : Nat) : ∀ (cnt : List Int) (b n nt : Int), wsRun (List.replicate k 32) cnt b n nt = (cnt, b + (k : Int), n + (k : Int), nt) := by
  induction k with
  | zero => intro cnt b n nt; simp [wsRun]
  | succ k ih =>
    intro cnt b n nt
    rw [List.replicate_succ]; simp only [wsRun, if_true]
    rw [ih, Int.natCast_add]
    have e1 : b + 1 + (k : Int) = b + ((k : Int) + ((1 : Nat) : Int)) := by omega
    have e2 : n + 1 + (k : Int) = n + ((k : Int) + ((1 : Nat) : Int)) := by omega
    rw [e1, e2]
theorem ql_flat (ds : List Int) : ∀ x ∈ ds.flatMap (fun w => List.replicate (w - 1).toNat 32 ++ [9]), x = (32 : Int) ∨ x = 9 := fun x hx => by
  obtain ⟨w, _, hw⟩ := List.mem_flatMap.mp hx
  rcases List.mem_append.mp hw with h | h
  · exact .inl (List.eq_of_mem_replicate h)
  · exact .inr (List.mem_singleton.mp h)
theorem ql_blanks (ds : List Int) (B : Int) (hB : 0 ≤ B) : QL ds B = ((QL ds 0).1, (QL ds 0).2.1 + B, (QL ds 0).2.2.1 + B, (QL ds 0).2.2.2) := by
  unfold QL ldL
  rw [run_flat _ _ _ _ _ _ (ql_flat ds), run_blanks, show (0 : Int).toNat = 0 from rfl, List.replicate_zero, List.append_nil, show ((B.toNat : Nat) : Int) = B by omega]
theorem col_blanks (k : Int) (ds : List Int) : ∀ B : Int, colF B k ds = B + colF 0 k ds := by
  have acc : ∀ (ds : List Int) (x y : Int), ds.foldl (fun c w => c + markF k w 6 0) (x + y) = x + ds.foldl (fun c w => c + markF k w 6 0) y := fun ds => by
    induction ds with
    | nil => exact fun _ _ => rfl
    | cons w r ih => intro x y; rw [List.foldl_cons, List.foldl_cons, Int.add_assoc, ih]
  intro B
  unfold colF
  have := acc ds B 0
  rw [Int.add_zero] at this
  exact this
end
-- text pureB
section
structure Qk (ds : List Int) (B : Int) (q : List Int × Int × Int × Int) : Prop where
  len : q.1.length ≤ 6
  b : q.2.1 = B
  ind : ∀ k : Int, 1 ≤ k → k ≤ 7 → indF q k = colF B k ds
  sum : ∀ k : Int, 1 ≤ k → k ≤ 7 → colF B k ds = colS (cs q 0) (cs q 1) (cs q 2) (cs q 3) (cs q 4) (cs q 5) B k
  two : indF q 2 = 2 * wlen ds + B
  tr : q.1 = trim [cs q 0, cs q 1, cs q 2, cs q 3, cs q 4, cs q 5]
  nt : q.2.2.2 = cs q 0 + cs q 1 + cs q 2 + cs q 3 + cs q 4 + cs q 5
  n : q.2.2.1 = colF B 1 ds
  long : longN q ∈ B :: ds.map (· - 1)
  all : ∀ x ∈ B :: ds.map (· - 1), x ≤ longN q
  w : ∀ n ∈ ds, 1 ≤ n ∧ n ≤ 6
  w4 : ds.length ≤ 4
theorem qk_of {ds : List Int} {B : Int} (hB : 0 ≤ B) (h : ckQ ds (QL ds 0) = true) : Qk ds B (QL ds B) := by
  unfold ckQ at h
  simp only [Bool.and_eq_true, Bool.or_eq_true, decide_eq_true_eq, List.all_eq_true] at h
  obtain ⟨⟨⟨⟨⟨⟨⟨⟨⟨⟨h1, h2⟩, h3⟩, h4⟩, h5⟩, h6⟩, h7⟩, h8⟩, h9⟩, h10⟩, h11⟩ := h
  rw [ql_blanks ds B hB]
  generalize QL ds 0 = q at *
  have mem : ∀ k : Int, 1 ≤ k → k ≤ 7 → k ∈ ([1, 2, 3, 4, 5, 6, 7] : List Int) := fun k a b => by
    simp only [List.mem_cons, List.not_mem_nil, or_false]; omega
  have ind : ∀ k, indF (q.1, q.2.1 + B, q.2.2.1 + B, q.2.2.2) k = B + indF q k := fun k => by
    unfold indF; simp only; omega
  have i3 := fun k a b => (h3 k (mem k a b)).1
  have s3 := fun k a b => (h3 k (mem k a b)).2
  refine ⟨h1, by simp only; omega, fun k a b => by rw [ind, col_blanks, i3 k a b], fun k a b => ?_, by rw [ind, h4]; omega, h5, h6, ?_, ?_, ?_, h10, h11⟩
  · rw [col_blanks, ← i3 k a b, s3 k a b]
    unfold colS cs; simp only; omega
  · rw [col_blanks, ← i3 1 (by decide) (by decide)]; simp only; omega
  · unfold longN
    simp only [List.mem_cons]
    rcases h8 with h8 | h8
    · by_cases c : ((q.1.length : Nat) : Int) - 1 ≤ q.2.1 + B
      · left; omega
      · right; rw [show max (((q.1.length : Nat) : Int) - 1) (q.2.1 + B) = ((q.1.length : Nat) : Int) - 1 by omega]; exact h8
    · left; omega
  · intro x hx
    unfold longN
    simp only
    rcases List.mem_cons.mp hx with rfl | hx
    · omega
    · have := h9 x hx; omega
theorem qk_row {a b c B : Int} (ha : a ∈ DIGS) (hb : b ∈ DIGS) (hc : c ∈ DIGS) (hB0 : 0 ≤ B) (_hB1 : B ≤ 6) : Qk (dueL [a, b, c]) B (QL (dueL [a, b, c]) B) :=
  qk_of hB0 (List.all_eq_true.mp (List.all_eq_true.mp (ck_one a ha) b hb) c hc)
/-- the longest run of both lines -/
theorem top_of {ds0 ds1 : List Int} {B0 B1 M : Int} {q0 q1 : List Int × Int × Int × Int} (H0 : Qk ds0 B0 q0) (H1 : Qk ds1 B1 q1) (hM : M ∈ [B0, B1] ++ (ds0 ++ ds1).map (· - 1)) (hMa : ∀ a, a ∈ [B0, B1] ++ (ds0 ++ ds1).map (· - 1) → a ≤ M) :
    topN q0 q1 = M + 1 ∧ topN q1 q0 = M + 1 ∧ longN q0 ≤ M ∧ longN q1 ≤ M := by
  have sub0 : ∀ x ∈ B0 :: ds0.map (· - 1), x ∈ [B0, B1] ++ (ds0 ++ ds1).map (· - 1) := fun x hx => by
    simp only [List.mem_cons, List.map_append, List.mem_append, List.not_mem_nil, or_false] at hx ⊢
    rcases hx with h | h
    · exact .inl (.inl h)
    · exact .inr (.inl h)
  have sub1 : ∀ x ∈ B1 :: ds1.map (· - 1), x ∈ [B0, B1] ++ (ds0 ++ ds1).map (· - 1) := fun x hx => by
    simp only [List.mem_cons, List.map_append, List.mem_append, List.not_mem_nil, or_false] at hx ⊢
    rcases hx with h | h
    · exact .inl (.inr h)
    · exact .inr (.inr h)
  have l0 := hMa _ (sub0 _ H0.long)
  have l1 := hMa _ (sub1 _ H1.long)
  have up : M ≤ longN q0 ∨ M ≤ longN q1 := by
    simp only [List.mem_cons, List.map_append, List.mem_append, List.not_mem_nil, or_false] at hM
    rcases hM with (h | h) | h | h
    · exact .inl (H0.all _ (by rw [h]; exact .head _))
    · exact .inr (H1.all _ (by rw [h]; exact .head _))
    · exact .inl (H0.all _ (.tail _ h))
    · exact .inr (H1.all _ (.tail _ h))
  refine ⟨?_, ?_, l0, l1⟩ <;> · unfold topN; split <;> omega
theorem rng_of {ds0 ds1 : List Int} {B0 B1 M : Int} {q0 q1 : List Int × Int × Int × Int} (H0 : Qk ds0 B0 q0) (H1 : Qk ds1 B1 q1) (h0 : 0 ≤ B0 ∧ B0 ≤ 6) (h1 : 0 ≤ B1 ∧ B1 ≤ 6) (hM : M ∈ [B0, B1] ++ (ds0 ++ ds1).map (· - 1)) : 0 ≤ M ∧ M ≤ 6 :=
  max_rng (zs_all rfl H0.w H1.w) h0 h1 hM
theorem mem_range {M k : Int} (h : k ∈ rangeKs 1 (M + 2 - 1).toNat) (hM : 0 ≤ M) : 1 ≤ k ∧ k ≤ M + 1 := by
  unfold rangeKs at h
  obtain ⟨j, hj, rfl⟩ := List.mem_map.mp h
  have := List.mem_range.mp hj
  omega
theorem range_mem {M k : Int} (h1 : 1 ≤ k) (h2 : k ≤ M + 1) : k ∈ rangeKs 1 (M + 2 - 1).toNat := by
  unfold rangeKs
  exact List.mem_map.mpr ⟨(k - 1).toNat, List.mem_range.mpr (by omega), by omega⟩
theorem filt_eq {pre : List Int} {q0 q1 : List Int × Int × Int × Int} {B0 B1 : Int} {ds0 ds1 : List Int} (e0 : ∀ k ∈ pre, indF q0 k = colF B0 k ds0) (e1 : ∀ k ∈ pre, indF q1 k = colF B1 k ds1) :
    nlR q0 q1 pre = ((pre.map (triF B0 B1 ds0 ds1)).filter fun r => decide (r.2.2 ≤ r.2.1)).map (fun r => r) ∧
    nlR q1 q0 pre = ((pre.map (triF B0 B1 ds0 ds1)).filter fun r => decide (r.2.1 ≤ r.2.2)).map (fun r => (r.1, r.2.2, r.2.1)) ∧
    neR q0 q1 pre = ((pre.map (triF B0 B1 ds0 ds1)).filter fun r => r.2.1 != r.2.2).map (fun r => r) := by
  unfold nlR neR
  induction pre with
  | nil => exact ⟨rfl, rfl, rfl⟩
  | cons k r ih =>
    obtain ⟨i1, i2, i3⟩ := ih (fun k hk => e0 k (.tail _ hk)) (fun k hk => e1 k (.tail _ hk))
    have a0 := e0 k (.head _)
    have a1 := e1 k (.head _)
    refine ⟨?_, ?_, ?_⟩
    · simp only [List.map_cons, List.filter_cons, triF, a0, a1]
      split
      · simp only [List.map_cons, a0, a1]; exact congrArg _ i1
      · exact i1
    · simp only [List.map_cons, List.filter_cons, triF, a0, a1]
      split
      · simp only [List.map_cons, a0, a1]; exact congrArg _ i2
      · exact i2
    · simp only [List.map_cons, List.filter_cons, triF, a0, a1]
      by_cases h : colF B0 k ds0 = colF B1 k ds1
      · simp only [h, ne_eq, not_true_eq_false, decide_false, bne_self_eq_false]; exact i3
      · have h' : (colF B0 k ds0 != colF B1 k ds1) = true := by simpa using h
        simp only [ne_eq, h, not_false_eq_true, decide_true, h', if_true, List.map_cons, a0, a1]; exact congrArg _ i3
theorem nl_nil {pre : List Int} {q0 q1 : List Int × Int × Int × Int} : nlR q0 q1 pre = [] ↔ ∀ k ∈ pre, indF q0 k < indF q1 k := by
  unfold nlR
  rw [List.map_eq_nil_iff, List.filter_eq_nil_iff]
  refine ⟨fun h k hk => ?_, fun h k hk => ?_⟩
  · have := h k hk; simp only [decide_eq_true_eq] at this; omega
  · have := h k hk; simp only [decide_eq_true_eq]; omega
theorem ne_nil {pre : List Int} {q0 q1 : List Int × Int × Int × Int} : neR q0 q1 pre = [] ↔ ∀ k ∈ pre, indF q0 k = indF q1 k := by
  unfold neR
  rw [List.map_eq_nil_iff, List.filter_eq_nil_iff]
  refine ⟨fun h k hk => ?_, fun h k hk => ?_⟩
  · have := h k hk; simp only [decide_eq_true_eq] at this; omega
  · have := h k hk; simp only [decide_eq_true_eq]; omega
theorem ind_simple {q : List Int × Int × Int × Int} {k : Int} (h : ((q.1.length : Nat) : Int) ≤ 1) (hk : 1 ≤ k) : indF q k = q.2.1 + k * q.2.2.2 := by
  unfold indF
  have e : (((q.1.length : Nat) : Int) - k).toNat = 0 := by omega
  rw [e]
  show q.2.1 + k * (0 + q.2.2.2) = _
  rw [Int.zero_add]
end
-- text pureC
section
theorem small7 {M : Int} (h0 : 0 ≤ M) (h1 : M ≤ 6) : M = 0 ∨ M = 1 ∨ M = 2 ∨ M = 3 ∨ M = 4 ∨ M = 5 ∨ M = 6 := by omega
theorem simple_iff {b0 n0 b1 n1 M : Int} (hM0 : 0 ≤ M) (hM1 : M ≤ 6) (hb0 : 0 ≤ b0) (hb1 : b1 ≤ M) (h1 : b0 + n0 < b1 + n1) : n0 ≤ n1 ↔ ∀ k, 1 ≤ k → k ≤ M + 1 → b0 + k * n0 < b1 + k * n1 := by
  constructor
  · intro h k k1 k2
    have e : 0 ≤ (k - 1) * (n1 - n0) := Int.mul_nonneg (by omega) (by omega)
    have e2 : (k - 1) * (n1 - n0) = k * n1 - k * n0 - n1 + n0 := by
      rw [Int.sub_mul, Int.mul_sub, Int.one_mul]; omega
    omega
  · intro h
    have := h (M + 1) (by omega) (Int.le_refl _)
    rcases small7 hM0 hM1 with rfl | rfl | rfl | rfl | rfl | rfl | rfl <;> omega
theorem less_iff {ds0 ds1 : List Int} {B0 B1 M : Int} {q0 q1 : List Int × Int × Int × Int} (H0 : Qk ds0 B0 q0) (H1 : Qk ds1 B1 q1) (hM0 : 0 ≤ M) (hM1 : M ≤ 6) (ht : topN q0 q1 = M + 1) (hB0 : 0 ≤ B0) (hb1 : B1 ≤ M) :
    lessF q0 q1 = decide (nlR q0 q1 (rangeKs 1 (M + 2 - 1).toNat) = []) := by
  have key : lessF q0 q1 = true ↔ ∀ k ∈ rangeKs 1 (M + 2 - 1).toNat, indF q0 k < indF q1 k := by
    have all : (∀ k ∈ rangeKs 1 (M + 2 - 1).toNat, indF q0 k < indF q1 k) ↔ ∀ k, 1 ≤ k → k ≤ M + 1 → indF q0 k < indF q1 k :=
      ⟨fun h k a b => h k (range_mem a b), fun h k hk => h k (mem_range hk hM0).1 (mem_range hk hM0).2⟩
    have n0 : q0.2.2.1 = indF q0 1 := by rw [H0.ind 1 (by decide) (by decide)]; exact H0.n
    have n1 : q1.2.2.1 = indF q1 1 := by rw [H1.ind 1 (by decide) (by decide)]; exact H1.n
    rw [all]
    unfold lessF
    by_cases a : q1.2.2.1 ≤ q0.2.2.1
    · rw [if_pos a]
      refine ⟨fun h => (by cases h), fun h => ?_⟩
      have := h 1 (by decide) (by omega)
      omega
    · rw [if_neg a]
      by_cases b : ((q0.1.length : Nat) : Int) ≤ 1 ∧ ((q1.1.length : Nat) : Int) ≤ 1
      · rw [if_pos b, decide_eq_true_eq]
        have s0 := fun k hk => ind_simple (q := q0) (k := k) b.1 hk
        have s1 := fun k hk => ind_simple (q := q1) (k := k) b.2 hk
        have f0 := s0 1 (by decide)
        have f1 := s1 1 (by decide)
        have e0 := H0.b
        have e1 := H1.b
        rw [simple_iff (b0 := q0.2.1) (b1 := q1.2.1) hM0 hM1 (by omega) (by omega) (by omega)]
        refine ⟨fun h k a b => ?_, fun h k a b => ?_⟩
        · rw [s0 k a, s1 k a]; exact h k a b
        · have := h k a b; rw [s0 k a, s1 k a] at this; exact this
      · rw [if_neg b, List.all_eq_true, ht]
        refine ⟨fun h k a9 b9 => ?_, fun h k hk => ?_⟩
        · by_cases e : k = 1
          · subst e; omega
          · have := h k (by unfold rangeKs; exact List.mem_map.mpr ⟨(k - 2).toNat, List.mem_range.mpr (by omega), by omega⟩)
            simpa using this
        · unfold rangeKs at hk
          obtain ⟨j, hj, rfl⟩ := List.mem_map.mp hk
          have := List.mem_range.mp hj
          simpa using h (2 + (j : Int)) (by omega) (by omega)
  cases e : lessF q0 q1 with
  | true => exact (decide_eq_true (nl_nil.mpr (key.mp e))).symm
  | false => exact (decide_eq_false fun h => by rw [key.mpr (nl_nil.mp h)] at e; cases e).symm
theorem solve_cols {M c0 c1 c2 c3 c4 c5 d0 d1 d2 d3 d4 d5 b b' : Int} (hM0 : 0 ≤ M) (hM1 : M ≤ 6) (hb0 : 0 ≤ b) (hb1 : b ≤ M) (hb0' : 0 ≤ b') (hb1' : b' ≤ M)
    (z1 : M < 1 → c1 = 0 ∧ d1 = 0) (z2 : M < 2 → c2 = 0 ∧ d2 = 0) (z3 : M < 3 → c3 = 0 ∧ d3 = 0) (z4 : M < 4 → c4 = 0 ∧ d4 = 0) (z5 : M < 5 → c5 = 0 ∧ d5 = 0)
    (h : ∀ k, 1 ≤ k → k ≤ M + 1 → colS c0 c1 c2 c3 c4 c5 b k = colS d0 d1 d2 d3 d4 d5 b' k) : b = b' ∧ c0 = d0 ∧ c1 = d1 ∧ c2 = d2 ∧ c3 = d3 ∧ c4 = d4 ∧ c5 = d5 := by
  unfold colS at h
  rcases small7 hM0 hM1 with rfl | rfl | rfl | rfl | rfl | rfl | rfl
  · have h1 : b + (c0 * 1 + c1 * 2 + c2 * 3 + c3 * 4 + c4 * 5 + c5 * 6) = b' + (d0 * 1 + d1 * 2 + d2 * 3 + d3 * 4 + d4 * 5 + d5 * 6) := h 1 (by decide) (by decide)
    obtain ⟨rfl, rfl⟩ := z1 (by decide)
    obtain ⟨rfl, rfl⟩ := z2 (by decide)
    obtain ⟨rfl, rfl⟩ := z3 (by decide)
    obtain ⟨rfl, rfl⟩ := z4 (by decide)
    obtain ⟨rfl, rfl⟩ := z5 (by decide)
    clear h z1 z2 z3 z4 z5
    have hS : b = b' ∧ c0 = d0 := by omega
    obtain ⟨rfl, hS⟩ := hS
    refine ⟨rfl, ?_, rfl, rfl, rfl, rfl, rfl⟩
    clear h1 hb0 hb1; omega
  · have h1 : b + (c0 * 1 + c1 * 2 + c2 * 3 + c3 * 4 + c4 * 5 + c5 * 6) = b' + (d0 * 1 + d1 * 2 + d2 * 3 + d3 * 4 + d4 * 5 + d5 * 6) := h 1 (by decide) (by decide)
    have h2 : b + (c0 * 2 + c1 * 2 + c2 * 4 + c3 * 4 + c4 * 6 + c5 * 6) = b' + (d0 * 2 + d1 * 2 + d2 * 4 + d3 * 4 + d4 * 6 + d5 * 6) := h 2 (by decide) (by decide)
    obtain ⟨rfl, rfl⟩ := z2 (by decide)
    obtain ⟨rfl, rfl⟩ := z3 (by decide)
    obtain ⟨rfl, rfl⟩ := z4 (by decide)
    obtain ⟨rfl, rfl⟩ := z5 (by decide)
    clear h z1 z2 z3 z4 z5
    have hS : b = b' ∧ c0 + c1 = d0 + d1 := by clear h1; omega
    obtain ⟨rfl, hS⟩ := hS
    have x1 : c1 = d1 := by clear h2 hb0 hb1 hb0' hb1'; omega
    subst x1
    clear h1
    refine ⟨rfl, ?_, rfl, rfl, rfl, rfl, rfl⟩
    clear h2 hb0 hb1; omega
  · have h1 : b + (c0 * 1 + c1 * 2 + c2 * 3 + c3 * 4 + c4 * 5 + c5 * 6) = b' + (d0 * 1 + d1 * 2 + d2 * 3 + d3 * 4 + d4 * 5 + d5 * 6) := h 1 (by decide) (by decide)
    have h2 : b + (c0 * 2 + c1 * 2 + c2 * 4 + c3 * 4 + c4 * 6 + c5 * 6) = b' + (d0 * 2 + d1 * 2 + d2 * 4 + d3 * 4 + d4 * 6 + d5 * 6) := h 2 (by decide) (by decide)
    have h3 : b + (c0 * 3 + c1 * 3 + c2 * 3 + c3 * 6 + c4 * 6 + c5 * 6) = b' + (d0 * 3 + d1 * 3 + d2 * 3 + d3 * 6 + d4 * 6 + d5 * 6) := h 3 (by decide) (by decide)
    obtain ⟨rfl, rfl⟩ := z3 (by decide)
    obtain ⟨rfl, rfl⟩ := z4 (by decide)
    obtain ⟨rfl, rfl⟩ := z5 (by decide)
    clear h z1 z2 z3 z4 z5
    have hS : b = b' ∧ c0 + c1 + c2 = d0 + d1 + d2 := by clear h1 h2; omega
    obtain ⟨rfl, hS⟩ := hS
    have x2 : c2 = d2 := by clear h1 h3 hb0 hb1 hb0' hb1'; omega
    subst x2
    clear h2
    have x1 : c1 = d1 := by clear h3 hb0 hb1 hb0' hb1'; omega
    subst x1
    clear h1
    refine ⟨rfl, ?_, rfl, rfl, rfl, rfl, rfl⟩
    clear h3 hb0 hb1; omega
  · have h1 : b + (c0 * 1 + c1 * 2 + c2 * 3 + c3 * 4 + c4 * 5 + c5 * 6) = b' + (d0 * 1 + d1 * 2 + d2 * 3 + d3 * 4 + d4 * 5 + d5 * 6) := h 1 (by decide) (by decide)
    have h2 : b + (c0 * 2 + c1 * 2 + c2 * 4 + c3 * 4 + c4 * 6 + c5 * 6) = b' + (d0 * 2 + d1 * 2 + d2 * 4 + d3 * 4 + d4 * 6 + d5 * 6) := h 2 (by decide) (by decide)
    have h3 : b + (c0 * 3 + c1 * 3 + c2 * 3 + c3 * 6 + c4 * 6 + c5 * 6) = b' + (d0 * 3 + d1 * 3 + d2 * 3 + d3 * 6 + d4 * 6 + d5 * 6) := h 3 (by decide) (by decide)
    have h4 : b + (c0 * 4 + c1 * 4 + c2 * 4 + c3 * 4 + c4 * 8 + c5 * 8) = b' + (d0 * 4 + d1 * 4 + d2 * 4 + d3 * 4 + d4 * 8 + d5 * 8) := h 4 (by decide) (by decide)
    obtain ⟨rfl, rfl⟩ := z4 (by decide)
    obtain ⟨rfl, rfl⟩ := z5 (by decide)
    clear h z1 z2 z3 z4 z5
    have hS : b = b' ∧ c0 + c1 + c2 + c3 = d0 + d1 + d2 + d3 := by clear h1 h2 h3; omega
    obtain ⟨rfl, hS⟩ := hS
    have x3 : c3 = d3 := by clear h1 h2 h4 hb0 hb1 hb0' hb1'; omega
    subst x3
    clear h3
    have x2 : c2 = d2 := by clear h1 h4 hb0 hb1 hb0' hb1'; omega
    subst x2
    clear h2
    have x1 : c1 = d1 := by clear h4 hb0 hb1 hb0' hb1'; omega
    subst x1
    clear h1
    refine ⟨rfl, ?_, rfl, rfl, rfl, rfl, rfl⟩
    clear h4 hb0 hb1; omega
  · have h1 : b + (c0 * 1 + c1 * 2 + c2 * 3 + c3 * 4 + c4 * 5 + c5 * 6) = b' + (d0 * 1 + d1 * 2 + d2 * 3 + d3 * 4 + d4 * 5 + d5 * 6) := h 1 (by decide) (by decide)
    have h2 : b + (c0 * 2 + c1 * 2 + c2 * 4 + c3 * 4 + c4 * 6 + c5 * 6) = b' + (d0 * 2 + d1 * 2 + d2 * 4 + d3 * 4 + d4 * 6 + d5 * 6) := h 2 (by decide) (by decide)
    have h3 : b + (c0 * 3 + c1 * 3 + c2 * 3 + c3 * 6 + c4 * 6 + c5 * 6) = b' + (d0 * 3 + d1 * 3 + d2 * 3 + d3 * 6 + d4 * 6 + d5 * 6) := h 3 (by decide) (by decide)
    have h4 : b + (c0 * 4 + c1 * 4 + c2 * 4 + c3 * 4 + c4 * 8 + c5 * 8) = b' + (d0 * 4 + d1 * 4 + d2 * 4 + d3 * 4 + d4 * 8 + d5 * 8) := h 4 (by decide) (by decide)
    have h5 : b + (c0 * 5 + c1 * 5 + c2 * 5 + c3 * 5 + c4 * 5 + c5 * 10) = b' + (d0 * 5 + d1 * 5 + d2 * 5 + d3 * 5 + d4 * 5 + d5 * 10) := h 5 (by decide) (by decide)
    obtain ⟨rfl, rfl⟩ := z5 (by decide)
    clear h z1 z2 z3 z4 z5
    have hS : b = b' ∧ c0 + c1 + c2 + c3 + c4 = d0 + d1 + d2 + d3 + d4 := by clear h1 h2 h3 h4; omega
    obtain ⟨rfl, hS⟩ := hS
    have x4 : c4 = d4 := by clear h1 h2 h3 h5 hb0 hb1 hb0' hb1'; omega
    subst x4
    clear h4
    have x3 : c3 = d3 := by clear h1 h2 h5 hb0 hb1 hb0' hb1'; omega
    subst x3
    clear h3
    have x2 : c2 = d2 := by clear h1 h5 hb0 hb1 hb0' hb1'; omega
    subst x2
    clear h2
    have x1 : c1 = d1 := by clear h5 hb0 hb1 hb0' hb1'; omega
    subst x1
    clear h1
    refine ⟨rfl, ?_, rfl, rfl, rfl, rfl, rfl⟩
    clear h5 hb0 hb1; omega
  · have h1 : b + (c0 * 1 + c1 * 2 + c2 * 3 + c3 * 4 + c4 * 5 + c5 * 6) = b' + (d0 * 1 + d1 * 2 + d2 * 3 + d3 * 4 + d4 * 5 + d5 * 6) := h 1 (by decide) (by decide)
    have h2 : b + (c0 * 2 + c1 * 2 + c2 * 4 + c3 * 4 + c4 * 6 + c5 * 6) = b' + (d0 * 2 + d1 * 2 + d2 * 4 + d3 * 4 + d4 * 6 + d5 * 6) := h 2 (by decide) (by decide)
    have h3 : b + (c0 * 3 + c1 * 3 + c2 * 3 + c3 * 6 + c4 * 6 + c5 * 6) = b' + (d0 * 3 + d1 * 3 + d2 * 3 + d3 * 6 + d4 * 6 + d5 * 6) := h 3 (by decide) (by decide)
    have h4 : b + (c0 * 4 + c1 * 4 + c2 * 4 + c3 * 4 + c4 * 8 + c5 * 8) = b' + (d0 * 4 + d1 * 4 + d2 * 4 + d3 * 4 + d4 * 8 + d5 * 8) := h 4 (by decide) (by decide)
    have h5 : b + (c0 * 5 + c1 * 5 + c2 * 5 + c3 * 5 + c4 * 5 + c5 * 10) = b' + (d0 * 5 + d1 * 5 + d2 * 5 + d3 * 5 + d4 * 5 + d5 * 10) := h 5 (by decide) (by decide)
    have h6 : b + (c0 * 6 + c1 * 6 + c2 * 6 + c3 * 6 + c4 * 6 + c5 * 6) = b' + (d0 * 6 + d1 * 6 + d2 * 6 + d3 * 6 + d4 * 6 + d5 * 6) := h 6 (by decide) (by decide)
    clear h z1 z2 z3 z4 z5
    have hS : b = b' ∧ c0 + c1 + c2 + c3 + c4 + c5 = d0 + d1 + d2 + d3 + d4 + d5 := by clear h1 h2 h3 h4 h5; omega
    obtain ⟨rfl, hS⟩ := hS
    have x5 : c5 = d5 := by clear h1 h2 h3 h4 h6 hb0 hb1 hb0' hb1'; omega
    subst x5
    clear h5
    have x4 : c4 = d4 := by clear h1 h2 h3 h6 hb0 hb1 hb0' hb1'; omega
    subst x4
    clear h4
    have x3 : c3 = d3 := by clear h1 h2 h6 hb0 hb1 hb0' hb1'; omega
    subst x3
    clear h3
    have x2 : c2 = d2 := by clear h1 h6 hb0 hb1 hb0' hb1'; omega
    subst x2
    clear h2
    have x1 : c1 = d1 := by clear h6 hb0 hb1 hb0' hb1'; omega
    subst x1
    clear h1
    refine ⟨rfl, ?_, rfl, rfl, rfl, rfl, rfl⟩
    clear h6 hb0 hb1; omega
  · have h1 : b + (c0 * 1 + c1 * 2 + c2 * 3 + c3 * 4 + c4 * 5 + c5 * 6) = b' + (d0 * 1 + d1 * 2 + d2 * 3 + d3 * 4 + d4 * 5 + d5 * 6) := h 1 (by decide) (by decide)
    have h2 : b + (c0 * 2 + c1 * 2 + c2 * 4 + c3 * 4 + c4 * 6 + c5 * 6) = b' + (d0 * 2 + d1 * 2 + d2 * 4 + d3 * 4 + d4 * 6 + d5 * 6) := h 2 (by decide) (by decide)
    have h3 : b + (c0 * 3 + c1 * 3 + c2 * 3 + c3 * 6 + c4 * 6 + c5 * 6) = b' + (d0 * 3 + d1 * 3 + d2 * 3 + d3 * 6 + d4 * 6 + d5 * 6) := h 3 (by decide) (by decide)
    have h4 : b + (c0 * 4 + c1 * 4 + c2 * 4 + c3 * 4 + c4 * 8 + c5 * 8) = b' + (d0 * 4 + d1 * 4 + d2 * 4 + d3 * 4 + d4 * 8 + d5 * 8) := h 4 (by decide) (by decide)
    have h5 : b + (c0 * 5 + c1 * 5 + c2 * 5 + c3 * 5 + c4 * 5 + c5 * 10) = b' + (d0 * 5 + d1 * 5 + d2 * 5 + d3 * 5 + d4 * 5 + d5 * 10) := h 5 (by decide) (by decide)
    have h6 : b + (c0 * 6 + c1 * 6 + c2 * 6 + c3 * 6 + c4 * 6 + c5 * 6) = b' + (d0 * 6 + d1 * 6 + d2 * 6 + d3 * 6 + d4 * 6 + d5 * 6) := h 6 (by decide) (by decide)
    have h7 : b + (c0 * 7 + c1 * 7 + c2 * 7 + c3 * 7 + c4 * 7 + c5 * 7) = b' + (d0 * 7 + d1 * 7 + d2 * 7 + d3 * 7 + d4 * 7 + d5 * 7) := h 7 (by decide) (by decide)
    clear h z1 z2 z3 z4 z5
    have hS : b = b' ∧ c0 + c1 + c2 + c3 + c4 + c5 = d0 + d1 + d2 + d3 + d4 + d5 := by clear h1 h2 h3 h4 h5 h6; omega
    obtain ⟨rfl, hS⟩ := hS
    have x5 : c5 = d5 := by clear h1 h2 h3 h4 h6 h7 hb0 hb1 hb0' hb1'; omega
    subst x5
    clear h5
    have x4 : c4 = d4 := by clear h1 h2 h3 h6 h7 hb0 hb1 hb0' hb1'; omega
    subst x4
    clear h4
    have x3 : c3 = d3 := by clear h1 h2 h6 h7 hb0 hb1 hb0' hb1'; omega
    subst x3
    clear h3
    have x2 : c2 = d2 := by clear h1 h6 h7 hb0 hb1 hb0' hb1'; omega
    subst x2
    clear h2
    have x1 : c1 = d1 := by clear h6 h7 hb0 hb1 hb0' hb1'; omega
    subst x1
    clear h1
    refine ⟨rfl, ?_, rfl, rfl, rfl, rfl, rfl⟩
    clear h7 hb0 hb1; omega
theorem cs_zero {ds : List Int} {B M : Int} {q : List Int × Int × Int × Int} (l : longN q ≤ M) {i : Nat} (h : M < (i : Int)) : cs q i = 0 := by
  unfold cs
  unfold longN at l
  rw [List.getD_eq_getElem?_getD, List.getElem?_eq_none (by omega)]; rfl
theorem same_iff {ds0 ds1 : List Int} {B0 B1 M : Int} {q0 q1 : List Int × Int × Int × Int} (H0 : Qk ds0 B0 q0) (H1 : Qk ds1 B1 q1) (hM0 : 0 ≤ M) (hM1 : M ≤ 6) (hB0 : 0 ≤ B0) (hB1 : 0 ≤ B1) (l0 : longN q0 ≤ M) (l1 : longN q1 ≤ M) (b0 : B0 ≤ M) (b1 : B1 ≤ M) :
    decide (q0.1 = q1.1 ∧ q0.2.1 = q1.2.1) = decide (neR q0 q1 (rangeKs 1 (M + 2 - 1).toNat) = []) := by
  have key : (q0.1 = q1.1 ∧ q0.2.1 = q1.2.1) ↔ neR q0 q1 (rangeKs 1 (M + 2 - 1).toNat) = [] := by
    rw [ne_nil]
    constructor
    · rintro ⟨e1, e2⟩ k hk
      have e3 : q0.2.2.2 = q1.2.2.2 := by rw [H0.nt, H1.nt]; unfold cs; rw [e1]
      unfold indF
      rw [e1, e2, e3]
    · intro h
      have h' : ∀ k, 1 ≤ k → k ≤ M + 1 → colS (cs q0 0) (cs q0 1) (cs q0 2) (cs q0 3) (cs q0 4) (cs q0 5) B0 k = colS (cs q1 0) (cs q1 1) (cs q1 2) (cs q1 3) (cs q1 4) (cs q1 5) B1 k := fun k a b => by
        rw [← H0.sum k a (by omega), ← H1.sum k a (by omega), ← H0.ind k a (by omega), ← H1.ind k a (by omega)]
        exact h k (range_mem a b)
      have z : ∀ i : Nat, M < (i : Int) → cs q0 i = 0 ∧ cs q1 i = 0 := fun i hi => ⟨cs_zero (ds := ds0) (B := B0) l0 hi, cs_zero (ds := ds1) (B := B1) l1 hi⟩
      obtain ⟨e, e0, e1, e2, e3, e4, e5⟩ := solve_cols hM0 hM1 hB0 b0 hB1 b1 (z 1) (z 2) (z 3) (z 4) (z 5) h'
      refine ⟨?_, by rw [H0.b, H1.b]; exact e⟩
      rw [H0.tr, H1.tr, e0, e1, e2, e3, e4, e5]
  exact decide_eq_decide.mpr key
end
-- text pureD
section
noncomputable abbrev L2S (l : List Nat) : Str := ⟨l.toArray⟩
theorem l2s_len (l : List Nat) : (L2S l).length = l.length := by simp [L2S, Str.length]
theorem l2s_app (a b : List Nat) : L2S a ++ L2S b = L2S (a ++ b) := by
  show Str.mk (a.toArray ++ b.toArray) = _
  simp [L2S]
theorem sl_to (l : List Nat) (k : Nat) : Txt.slice (L2S l) none (some (k : Int)) = L2S (l.take k) := by
  have h := slice_to_min_closes (x := L2S l) (n := (k : Int)) (m := if ((L2S l).length : Int) < (k : Int) then ((L2S l).length : Int) else (k : Int)) (by omega) rfl
  rw [beq_iff_eq] at h
  rw [h, l2s_len]
  congr 1
  show (List.take _ (List.drop 0 l)).toArray = _
  rw [List.drop_zero]
  split
  · rename_i q
    have q' : l.length < k := by omega
    rw [show (((l.length : Nat) : Int) - 0).toNat = l.length by omega, List.take_length, List.take_of_length_le (by omega)]
  · rw [show ((k : Int) - 0).toNat = k by omega]
theorem sl_from (l : List Nat) (k : Nat) : Txt.slice (L2S l) (some (k : Int)) none = L2S (l.drop k) := by
  by_cases h : l.length ≤ k
  · rw [slice_from_beyond (by rw [l2s_len]; omega), List.drop_of_length_le h]
  · rw [slice_from_eq (b := (l.length : Int)) (by omega) (by rw [l2s_len]; omega) (by rw [l2s_len])]
    congr 1
    show (List.take _ (List.drop _ l)).toArray = _
    rw [show ((k : Int)).toNat = k by omega, List.take_of_length_le (by rw [List.length_drop]; omega)]
theorem rd_step {l : List Nat} {k : Nat} {ns : List Int} (hne : l ≠ []) (hk : tokSize (L2S l) = (k : Int)) (h : Reads' (L2S (l.drop k)) ns) : Reads' (L2S l) (tokVal (L2S (l.take k)) :: ns) := by
  have hb : (L2S l != Str.ofString "") = true := by
    rw [bne_iff_ne]
    intro e
    have := congrArg Str.length e
    rw [l2s_len] at this
    exact hne (List.length_eq_zero_iff.mp this)
  have := Reads'.cons (t := L2S l) (ns := ns) hb (by rw [hk, sl_from]; exact h)
  rw [hk, sl_to] at this
  exact this
theorem size3 {l : List Nat} (h : inT (L2S (l.take 3)) = true) : tokSize (L2S l) = ((3 : Nat) : Int) := by
  unfold tokSize
  rw [show (3 : Int) = ((3 : Nat) : Int) from rfl, sl_to, if_pos h]
theorem size2 {l : List Nat} (h3 : inT (L2S (l.take 3)) = false) (h : inT (L2S (l.take 2)) = true) : tokSize (L2S l) = ((2 : Nat) : Int) := by
  unfold tokSize
  rw [show (3 : Int) = ((3 : Nat) : Int) from rfl, sl_to, if_neg (by rw [h3]; decide), show (2 : Int) = ((2 : Nat) : Int) from rfl, sl_to, if_pos h]
theorem size1 {l : List Nat} (h3 : inT (L2S (l.take 3)) = false) (h : inT (L2S (l.take 2)) = false) : tokSize (L2S l) = ((1 : Nat) : Int) := by
  unfold tokSize
  rw [show (3 : Int) = ((3 : Nat) : Int) from rfl, sl_to, if_neg (by rw [h3]; decide), show (2 : Int) = ((2 : Nat) : Int) from rfl, sl_to, if_neg (by rw [h]; decide)]
  rfl
theorem noE {c x : Nat} (h : c ∈ ([42, 47, 60, 62] : List Nat)) : inT (L2S [c, 61, x]) = false := by
  simp only [List.mem_cons, List.not_mem_nil, or_false] at h
  rcases h with rfl | rfl | rfl | rfl <;> simp [inT, KTD.inKeys, TBL, L2S, Str.mk.injEq]
theorem noC {c : Nat} (h : c ∈ ([42, 47, 60, 62] : List Nat)) : inT (L2S [c, c, c]) = false := by
  simp only [List.mem_cons, List.not_mem_nil, or_false] at h
  rcases h with rfl | rfl | rfl | rfl <;> decide +kernel
theorem no126 (l : List Nat) (h : l.length ≤ 2) (h1 : l ≠ []) : inT (L2S (126 :: l)) = false := by
  match l, h1, h with
  | [x], _, _ => simp [inT, KTD.inKeys, TBL, L2S, Str.mk.injEq]
  | [x, y], _, _ => simp [inT, KTD.inKeys, TBL, L2S, Str.mk.injEq]
theorem blk1 {c x : Nat} {r : List Nat} {ns : List Int} (hc : c ∈ ([42, 47, 60, 62] : List Nat)) (h : Reads' (L2S (x :: r)) ns) : Reads' (L2S (c :: 61 :: x :: r)) (tokVal (L2S [c, 61]) :: ns) :=
  rd_step (k := 2) (by simp) (size2 (noE hc) (by
    simp only [List.mem_cons, List.not_mem_nil, or_false] at hc
    rcases hc with rfl | rfl | rfl | rfl <;> (show inT (L2S [_, 61]) = true; decide +kernel))) h
theorem blk2 {c : Nat} {r : List Nat} {ns : List Int} (hc : c ∈ ([42, 47, 60, 62] : List Nat)) (h : Reads' (L2S r) ns) : Reads' (L2S (c :: c :: 61 :: r)) (tokVal (L2S [c, c, 61]) :: ns) :=
  rd_step (k := 3) (by simp) (size3 (by
    simp only [List.mem_cons, List.not_mem_nil, or_false] at hc
    rcases hc with rfl | rfl | rfl | rfl <;> (show inT (L2S [_, _, 61]) = true; decide +kernel))) h
theorem blkS {c : Nat} {r : List Nat} {ns : List Int} (hc : c ∈ ([42, 47, 60, 62] : List Nat)) (h : Reads' (L2S (c :: r)) ns) : Reads' (L2S (c :: c :: c :: r)) (tokVal (L2S [c, c]) :: ns) :=
  rd_step (k := 2) (by simp) (size2 (noC hc) (by
    simp only [List.mem_cons, List.not_mem_nil, or_false] at hc
    rcases hc with rfl | rfl | rfl | rfl <;> (show inT (L2S [_, _]) = true; decide +kernel))) h
theorem blkT {x : Nat} {r : List Nat} {ns : List Int} (h : Reads' (L2S (x :: r)) ns) : Reads' (L2S (126 :: x :: r)) (31 :: ns) := by
  have e : tokVal (L2S [126]) = 31 := by decide +kernel
  have := rd_step (l := 126 :: x :: r) (k := 1) (by simp) (size1 (no126 _ (by simp; omega) (by simp)) (no126 [x] (by simp) (by simp))) h
  rw [show List.take 1 (126 :: x :: r) = [126] from rfl, e] at this
  exact this
theorem w6_cases {w : Int} (h1 : 1 ≤ w) (h2 : w ≤ 6) : w = 1 ∨ w = 2 ∨ w = 3 ∨ w = 4 ∨ w = 5 ∨ w = 6 := by omega
/-- a size's signs are read to its numbers, and lead to its blanks and a tab -/
theorem blk_all (k w : Int) (h1 : 1 ≤ w) (h2 : w ≤ 6) : (∃ l, Txt.mul (sgS k) w ++ Str.ofString "=" = L2S l ∧ l.length ≤ 7 ∧ ∀ x r ns, Reads' (L2S (x :: r)) ns → Reads' (L2S (l ++ x :: r)) (wantS k w ++ ns)) ∧
    leadF (wantS k w) = L2S (List.replicate (w - 1).toNat 32 ++ [9]) ∧ ((wantS k w).length : Int) = (w - 1) / 2 + 1 := by
  unfold wantS sgS
  rcases fmod4_cases k with h | h | h | h <;> rw [h] <;> rcases w6_cases h1 h2 with rfl | rfl | rfl | rfl | rfl | rfl
  · have m : 42 ∈ ([42, 47, 60, 62] : List Nat) := by decide
    refine ⟨⟨[42, 61], by decide +kernel, by decide, fun x r ns h => ?_⟩, by decide +kernel, by decide +kernel⟩
    have e : repI ((1 - 1 : Int).fdiv 2) [idxN (Txt.mul (Txt.item (Str.ofString "*/<>") 0) 2) + 7] ++ [idxN (Txt.mul (Txt.item (Str.ofString "*/<>") 0) (2 - (1 : Int).fmod 2) ++ Str.ofString "=") + 7] = [tokVal (L2S [42, 61])] := by decide +kernel
    rw [e]; exact blk1 m h
  · have m : 42 ∈ ([42, 47, 60, 62] : List Nat) := by decide
    refine ⟨⟨[42, 42, 61], by decide +kernel, by decide, fun x r ns h => ?_⟩, by decide +kernel, by decide +kernel⟩
    have e : repI ((2 - 1 : Int).fdiv 2) [idxN (Txt.mul (Txt.item (Str.ofString "*/<>") 0) 2) + 7] ++ [idxN (Txt.mul (Txt.item (Str.ofString "*/<>") 0) (2 - (2 : Int).fmod 2) ++ Str.ofString "=") + 7] = [tokVal (L2S [42, 42, 61])] := by decide +kernel
    rw [e]; exact blk2 m h
  · have m : 42 ∈ ([42, 47, 60, 62] : List Nat) := by decide
    refine ⟨⟨[42, 42, 42, 61], by decide +kernel, by decide, fun x r ns h => ?_⟩, by decide +kernel, by decide +kernel⟩
    have e : repI ((3 - 1 : Int).fdiv 2) [idxN (Txt.mul (Txt.item (Str.ofString "*/<>") 0) 2) + 7] ++ [idxN (Txt.mul (Txt.item (Str.ofString "*/<>") 0) (2 - (3 : Int).fmod 2) ++ Str.ofString "=") + 7] = [tokVal (L2S [42, 42]), tokVal (L2S [42, 61])] := by decide +kernel
    rw [e]; exact blkS m (blk1 m h)
  · have m : 42 ∈ ([42, 47, 60, 62] : List Nat) := by decide
    refine ⟨⟨[42, 42, 42, 42, 61], by decide +kernel, by decide, fun x r ns h => ?_⟩, by decide +kernel, by decide +kernel⟩
    have e : repI ((4 - 1 : Int).fdiv 2) [idxN (Txt.mul (Txt.item (Str.ofString "*/<>") 0) 2) + 7] ++ [idxN (Txt.mul (Txt.item (Str.ofString "*/<>") 0) (2 - (4 : Int).fmod 2) ++ Str.ofString "=") + 7] = [tokVal (L2S [42, 42]), tokVal (L2S [42, 42, 61])] := by decide +kernel
    rw [e]; exact blkS m (blk2 m h)
  · have m : 42 ∈ ([42, 47, 60, 62] : List Nat) := by decide
    refine ⟨⟨[42, 42, 42, 42, 42, 61], by decide +kernel, by decide, fun x r ns h => ?_⟩, by decide +kernel, by decide +kernel⟩
    have e : repI ((5 - 1 : Int).fdiv 2) [idxN (Txt.mul (Txt.item (Str.ofString "*/<>") 0) 2) + 7] ++ [idxN (Txt.mul (Txt.item (Str.ofString "*/<>") 0) (2 - (5 : Int).fmod 2) ++ Str.ofString "=") + 7] = [tokVal (L2S [42, 42]), tokVal (L2S [42, 42]), tokVal (L2S [42, 61])] := by decide +kernel
    rw [e]; exact blkS m (blkS m (blk1 m h))
  · have m : 42 ∈ ([42, 47, 60, 62] : List Nat) := by decide
    refine ⟨⟨[42, 42, 42, 42, 42, 42, 61], by decide +kernel, by decide, fun x r ns h => ?_⟩, by decide +kernel, by decide +kernel⟩
    have e : repI ((6 - 1 : Int).fdiv 2) [idxN (Txt.mul (Txt.item (Str.ofString "*/<>") 0) 2) + 7] ++ [idxN (Txt.mul (Txt.item (Str.ofString "*/<>") 0) (2 - (6 : Int).fmod 2) ++ Str.ofString "=") + 7] = [tokVal (L2S [42, 42]), tokVal (L2S [42, 42]), tokVal (L2S [42, 42, 61])] := by decide +kernel
    rw [e]; exact blkS m (blkS m (blk2 m h))
  · have m : 47 ∈ ([42, 47, 60, 62] : List Nat) := by decide
    refine ⟨⟨[47, 61], by decide +kernel, by decide, fun x r ns h => ?_⟩, by decide +kernel, by decide +kernel⟩
    have e : repI ((1 - 1 : Int).fdiv 2) [idxN (Txt.mul (Txt.item (Str.ofString "*/<>") 1) 2) + 7] ++ [idxN (Txt.mul (Txt.item (Str.ofString "*/<>") 1) (2 - (1 : Int).fmod 2) ++ Str.ofString "=") + 7] = [tokVal (L2S [47, 61])] := by decide +kernel
    rw [e]; exact blk1 m h
  · have m : 47 ∈ ([42, 47, 60, 62] : List Nat) := by decide
    refine ⟨⟨[47, 47, 61], by decide +kernel, by decide, fun x r ns h => ?_⟩, by decide +kernel, by decide +kernel⟩
    have e : repI ((2 - 1 : Int).fdiv 2) [idxN (Txt.mul (Txt.item (Str.ofString "*/<>") 1) 2) + 7] ++ [idxN (Txt.mul (Txt.item (Str.ofString "*/<>") 1) (2 - (2 : Int).fmod 2) ++ Str.ofString "=") + 7] = [tokVal (L2S [47, 47, 61])] := by decide +kernel
    rw [e]; exact blk2 m h
  · have m : 47 ∈ ([42, 47, 60, 62] : List Nat) := by decide
    refine ⟨⟨[47, 47, 47, 61], by decide +kernel, by decide, fun x r ns h => ?_⟩, by decide +kernel, by decide +kernel⟩
    have e : repI ((3 - 1 : Int).fdiv 2) [idxN (Txt.mul (Txt.item (Str.ofString "*/<>") 1) 2) + 7] ++ [idxN (Txt.mul (Txt.item (Str.ofString "*/<>") 1) (2 - (3 : Int).fmod 2) ++ Str.ofString "=") + 7] = [tokVal (L2S [47, 47]), tokVal (L2S [47, 61])] := by decide +kernel
    rw [e]; exact blkS m (blk1 m h)
  · have m : 47 ∈ ([42, 47, 60, 62] : List Nat) := by decide
    refine ⟨⟨[47, 47, 47, 47, 61], by decide +kernel, by decide, fun x r ns h => ?_⟩, by decide +kernel, by decide +kernel⟩
    have e : repI ((4 - 1 : Int).fdiv 2) [idxN (Txt.mul (Txt.item (Str.ofString "*/<>") 1) 2) + 7] ++ [idxN (Txt.mul (Txt.item (Str.ofString "*/<>") 1) (2 - (4 : Int).fmod 2) ++ Str.ofString "=") + 7] = [tokVal (L2S [47, 47]), tokVal (L2S [47, 47, 61])] := by decide +kernel
    rw [e]; exact blkS m (blk2 m h)
  · have m : 47 ∈ ([42, 47, 60, 62] : List Nat) := by decide
    refine ⟨⟨[47, 47, 47, 47, 47, 61], by decide +kernel, by decide, fun x r ns h => ?_⟩, by decide +kernel, by decide +kernel⟩
    have e : repI ((5 - 1 : Int).fdiv 2) [idxN (Txt.mul (Txt.item (Str.ofString "*/<>") 1) 2) + 7] ++ [idxN (Txt.mul (Txt.item (Str.ofString "*/<>") 1) (2 - (5 : Int).fmod 2) ++ Str.ofString "=") + 7] = [tokVal (L2S [47, 47]), tokVal (L2S [47, 47]), tokVal (L2S [47, 61])] := by decide +kernel
    rw [e]; exact blkS m (blkS m (blk1 m h))
  · have m : 47 ∈ ([42, 47, 60, 62] : List Nat) := by decide
    refine ⟨⟨[47, 47, 47, 47, 47, 47, 61], by decide +kernel, by decide, fun x r ns h => ?_⟩, by decide +kernel, by decide +kernel⟩
    have e : repI ((6 - 1 : Int).fdiv 2) [idxN (Txt.mul (Txt.item (Str.ofString "*/<>") 1) 2) + 7] ++ [idxN (Txt.mul (Txt.item (Str.ofString "*/<>") 1) (2 - (6 : Int).fmod 2) ++ Str.ofString "=") + 7] = [tokVal (L2S [47, 47]), tokVal (L2S [47, 47]), tokVal (L2S [47, 47, 61])] := by decide +kernel
    rw [e]; exact blkS m (blkS m (blk2 m h))
  · have m : 60 ∈ ([42, 47, 60, 62] : List Nat) := by decide
    refine ⟨⟨[60, 61], by decide +kernel, by decide, fun x r ns h => ?_⟩, by decide +kernel, by decide +kernel⟩
    have e : repI ((1 - 1 : Int).fdiv 2) [idxN (Txt.mul (Txt.item (Str.ofString "*/<>") 2) 2) + 7] ++ [idxN (Txt.mul (Txt.item (Str.ofString "*/<>") 2) (2 - (1 : Int).fmod 2) ++ Str.ofString "=") + 7] = [tokVal (L2S [60, 61])] := by decide +kernel
    rw [e]; exact blk1 m h
  · have m : 60 ∈ ([42, 47, 60, 62] : List Nat) := by decide
    refine ⟨⟨[60, 60, 61], by decide +kernel, by decide, fun x r ns h => ?_⟩, by decide +kernel, by decide +kernel⟩
    have e : repI ((2 - 1 : Int).fdiv 2) [idxN (Txt.mul (Txt.item (Str.ofString "*/<>") 2) 2) + 7] ++ [idxN (Txt.mul (Txt.item (Str.ofString "*/<>") 2) (2 - (2 : Int).fmod 2) ++ Str.ofString "=") + 7] = [tokVal (L2S [60, 60, 61])] := by decide +kernel
    rw [e]; exact blk2 m h
  · have m : 60 ∈ ([42, 47, 60, 62] : List Nat) := by decide
    refine ⟨⟨[60, 60, 60, 61], by decide +kernel, by decide, fun x r ns h => ?_⟩, by decide +kernel, by decide +kernel⟩
    have e : repI ((3 - 1 : Int).fdiv 2) [idxN (Txt.mul (Txt.item (Str.ofString "*/<>") 2) 2) + 7] ++ [idxN (Txt.mul (Txt.item (Str.ofString "*/<>") 2) (2 - (3 : Int).fmod 2) ++ Str.ofString "=") + 7] = [tokVal (L2S [60, 60]), tokVal (L2S [60, 61])] := by decide +kernel
    rw [e]; exact blkS m (blk1 m h)
  · have m : 60 ∈ ([42, 47, 60, 62] : List Nat) := by decide
    refine ⟨⟨[60, 60, 60, 60, 61], by decide +kernel, by decide, fun x r ns h => ?_⟩, by decide +kernel, by decide +kernel⟩
    have e : repI ((4 - 1 : Int).fdiv 2) [idxN (Txt.mul (Txt.item (Str.ofString "*/<>") 2) 2) + 7] ++ [idxN (Txt.mul (Txt.item (Str.ofString "*/<>") 2) (2 - (4 : Int).fmod 2) ++ Str.ofString "=") + 7] = [tokVal (L2S [60, 60]), tokVal (L2S [60, 60, 61])] := by decide +kernel
    rw [e]; exact blkS m (blk2 m h)
  · have m : 60 ∈ ([42, 47, 60, 62] : List Nat) := by decide
    refine ⟨⟨[60, 60, 60, 60, 60, 61], by decide +kernel, by decide, fun x r ns h => ?_⟩, by decide +kernel, by decide +kernel⟩
    have e : repI ((5 - 1 : Int).fdiv 2) [idxN (Txt.mul (Txt.item (Str.ofString "*/<>") 2) 2) + 7] ++ [idxN (Txt.mul (Txt.item (Str.ofString "*/<>") 2) (2 - (5 : Int).fmod 2) ++ Str.ofString "=") + 7] = [tokVal (L2S [60, 60]), tokVal (L2S [60, 60]), tokVal (L2S [60, 61])] := by decide +kernel
    rw [e]; exact blkS m (blkS m (blk1 m h))
  · have m : 60 ∈ ([42, 47, 60, 62] : List Nat) := by decide
    refine ⟨⟨[60, 60, 60, 60, 60, 60, 61], by decide +kernel, by decide, fun x r ns h => ?_⟩, by decide +kernel, by decide +kernel⟩
    have e : repI ((6 - 1 : Int).fdiv 2) [idxN (Txt.mul (Txt.item (Str.ofString "*/<>") 2) 2) + 7] ++ [idxN (Txt.mul (Txt.item (Str.ofString "*/<>") 2) (2 - (6 : Int).fmod 2) ++ Str.ofString "=") + 7] = [tokVal (L2S [60, 60]), tokVal (L2S [60, 60]), tokVal (L2S [60, 60, 61])] := by decide +kernel
    rw [e]; exact blkS m (blkS m (blk2 m h))
  · have m : 62 ∈ ([42, 47, 60, 62] : List Nat) := by decide
    refine ⟨⟨[62, 61], by decide +kernel, by decide, fun x r ns h => ?_⟩, by decide +kernel, by decide +kernel⟩
    have e : repI ((1 - 1 : Int).fdiv 2) [idxN (Txt.mul (Txt.item (Str.ofString "*/<>") 3) 2) + 7] ++ [idxN (Txt.mul (Txt.item (Str.ofString "*/<>") 3) (2 - (1 : Int).fmod 2) ++ Str.ofString "=") + 7] = [tokVal (L2S [62, 61])] := by decide +kernel
    rw [e]; exact blk1 m h
  · have m : 62 ∈ ([42, 47, 60, 62] : List Nat) := by decide
    refine ⟨⟨[62, 62, 61], by decide +kernel, by decide, fun x r ns h => ?_⟩, by decide +kernel, by decide +kernel⟩
    have e : repI ((2 - 1 : Int).fdiv 2) [idxN (Txt.mul (Txt.item (Str.ofString "*/<>") 3) 2) + 7] ++ [idxN (Txt.mul (Txt.item (Str.ofString "*/<>") 3) (2 - (2 : Int).fmod 2) ++ Str.ofString "=") + 7] = [tokVal (L2S [62, 62, 61])] := by decide +kernel
    rw [e]; exact blk2 m h
  · have m : 62 ∈ ([42, 47, 60, 62] : List Nat) := by decide
    refine ⟨⟨[62, 62, 62, 61], by decide +kernel, by decide, fun x r ns h => ?_⟩, by decide +kernel, by decide +kernel⟩
    have e : repI ((3 - 1 : Int).fdiv 2) [idxN (Txt.mul (Txt.item (Str.ofString "*/<>") 3) 2) + 7] ++ [idxN (Txt.mul (Txt.item (Str.ofString "*/<>") 3) (2 - (3 : Int).fmod 2) ++ Str.ofString "=") + 7] = [tokVal (L2S [62, 62]), tokVal (L2S [62, 61])] := by decide +kernel
    rw [e]; exact blkS m (blk1 m h)
  · have m : 62 ∈ ([42, 47, 60, 62] : List Nat) := by decide
    refine ⟨⟨[62, 62, 62, 62, 61], by decide +kernel, by decide, fun x r ns h => ?_⟩, by decide +kernel, by decide +kernel⟩
    have e : repI ((4 - 1 : Int).fdiv 2) [idxN (Txt.mul (Txt.item (Str.ofString "*/<>") 3) 2) + 7] ++ [idxN (Txt.mul (Txt.item (Str.ofString "*/<>") 3) (2 - (4 : Int).fmod 2) ++ Str.ofString "=") + 7] = [tokVal (L2S [62, 62]), tokVal (L2S [62, 62, 61])] := by decide +kernel
    rw [e]; exact blkS m (blk2 m h)
  · have m : 62 ∈ ([42, 47, 60, 62] : List Nat) := by decide
    refine ⟨⟨[62, 62, 62, 62, 62, 61], by decide +kernel, by decide, fun x r ns h => ?_⟩, by decide +kernel, by decide +kernel⟩
    have e : repI ((5 - 1 : Int).fdiv 2) [idxN (Txt.mul (Txt.item (Str.ofString "*/<>") 3) 2) + 7] ++ [idxN (Txt.mul (Txt.item (Str.ofString "*/<>") 3) (2 - (5 : Int).fmod 2) ++ Str.ofString "=") + 7] = [tokVal (L2S [62, 62]), tokVal (L2S [62, 62]), tokVal (L2S [62, 61])] := by decide +kernel
    rw [e]; exact blkS m (blkS m (blk1 m h))
  · have m : 62 ∈ ([42, 47, 60, 62] : List Nat) := by decide
    refine ⟨⟨[62, 62, 62, 62, 62, 62, 61], by decide +kernel, by decide, fun x r ns h => ?_⟩, by decide +kernel, by decide +kernel⟩
    have e : repI ((6 - 1 : Int).fdiv 2) [idxN (Txt.mul (Txt.item (Str.ofString "*/<>") 3) 2) + 7] ++ [idxN (Txt.mul (Txt.item (Str.ofString "*/<>") 3) (2 - (6 : Int).fmod 2) ++ Str.ofString "=") + 7] = [tokVal (L2S [62, 62]), tokVal (L2S [62, 62]), tokVal (L2S [62, 62, 61])] := by decide +kernel
    rw [e]; exact blkS m (blkS m (blk2 m h))
end
-- text pureE
section
theorem str_l2s (x : Str) : x = L2S x.cps.toList := by simp [L2S]
theorem s_assoc (a b c : Str) : (a ++ b) ++ c = a ++ (b ++ c) := by
  rw [str_l2s a, str_l2s b, str_l2s c, l2s_app, l2s_app, l2s_app, l2s_app, List.append_assoc]
theorem s_nil (a : Str) : a ++ L2S [] = a := by rw [str_l2s a, l2s_app, List.append_nil]
theorem nil_s (a : Str) : L2S [] ++ a = a := by rw [str_l2s a, l2s_app, List.nil_append]
theorem lead_acc (l : Str) (n : Int) : leadStep l n = l ++ leadStep Str.empty n := by
  have e : Str.empty = L2S [] := rfl
  unfold leadStep
  rw [e]
  simp only [nil_s]
  split
  · rfl
  · split
    · rfl
    · split
      · rfl
      · split
        · rfl
        · exact (s_nil l).symm
theorem leadF_acc (ns : List Int) : ∀ l : Str, ns.foldl leadStep l = l ++ leadF ns := by
  induction ns with
  | nil => exact fun l => (s_nil l).symm
  | cons n r ih =>
    intro l
    unfold leadF
    rw [List.foldl_cons, List.foldl_cons, ih, ih (leadStep Str.empty n), lead_acc l n, s_assoc]
theorem leadF_app (a b : List Int) : leadF (a ++ b) = leadF a ++ leadF b := by
  unfold leadF
  rw [List.foldl_append, leadF_acc]
  rfl
noncomputable def txt : Int → List Int → Str
  | _, [] => L2S []
  | k, w :: r => (Txt.mul (sgS k) w ++ Str.ofString "=") ++ txt (k + 1) r
noncomputable def wnt : Int → List Int → List Int
  | _, [] => []
  | k, w :: r => wantS k w ++ wnt (k + 1) r
theorem text_acc (ws : List Int) : ∀ (p : Str) (k : Int), (ws.foldl (fun p n => (p.1 ++ (Txt.mul (sgS p.2) n ++ Str.ofString "="), p.2 + 1)) (p, k)).1 = p ++ txt k ws := by
  induction ws with
  | nil => exact fun p k => (s_nil p).symm
  | cons w r ih => intro p k; rw [List.foldl_cons, ih, txt, s_assoc]
theorem want_acc (ws : List Int) : ∀ (p : List Int) (k : Int), (ws.foldl (fun p w => (p.1 ++ wantS p.2 w, p.2 + 1)) (p, k)).1 = p ++ wnt k ws := by
  induction ws with
  | nil => exact fun p k => (List.append_nil p).symm
  | cons w r ih => intro p k; rw [List.foldl_cons, ih, wnt, List.append_assoc]
theorem textP_eq (sh : Int) (ws : List Int) : (textP sh ws).1 = txt sh ws := by
  unfold textP; rw [text_acc]; exact nil_s _
theorem wantP_eq (sh : Int) (ws : List Int) : (wantP sh ws).1 = wnt sh ws := by
  unfold wantP; rw [want_acc]; exact List.nil_append _
noncomputable def ldN (ds : List Int) : List Nat := ds.flatMap fun w => List.replicate (w - 1).toNat 32 ++ [9]
theorem wlen_acc (ds : List Int) : ∀ a : Int, ds.foldl (fun a w => a + ((w - 1) / 2 + 1)) a = a + wlen ds := by
  induction ds with
  | nil => intro a; exact (Int.add_zero a).symm
  | cons w r ih => intro a; unfold wlen; rw [List.foldl_cons, List.foldl_cons, ih, ih (0 + _)]; omega
theorem wlen_cons (w : Int) (r : List Int) : wlen (w :: r) = ((w - 1) / 2 + 1) + wlen r := by
  show List.foldl _ _ _ = _
  rw [List.foldl_cons, wlen_acc]; omega
theorem txt_reads (ws : List Int) : ∀ k : Int, (∀ n ∈ ws, 1 ≤ n ∧ n ≤ 6) → ∃ l, txt k ws = L2S l ∧ l.length ≤ 7 * ws.length ∧ (∀ x r ns, Reads' (L2S (x :: r)) ns → Reads' (L2S (l ++ x :: r)) (wnt k ws ++ ns)) ∧ leadF (wnt k ws) = L2S (ldN ws) ∧ ((wnt k ws).length : Int) = wlen ws := by
  induction ws with
  | nil => exact fun k _ => ⟨[], rfl, Nat.le_refl _, fun x r ns h => h, rfl, rfl⟩
  | cons w r ih =>
    intro k hw
    obtain ⟨l2, e2, n2, r2, f2, z2⟩ := ih (k + 1) fun n hn => hw n (.tail _ hn)
    have hww := hw w (.head _)
    obtain ⟨⟨l1, e1, n1, r1⟩, f1, z1⟩ := blk_all k w hww.1 hww.2
    refine ⟨l1 ++ l2, ?_, ?_, ?_, ?_, ?_⟩
    · rw [txt, e1, e2, l2s_app]
    · rw [List.length_append, List.length_cons]; omega
    · intro x r9 ns h
      have h2 := r2 x r9 ns h
      rw [wnt, List.append_assoc, List.append_assoc]
      cases e : l2 ++ x :: r9 with
      | nil => simp at e
      | cons y t =>
        rw [e] at h2
        exact r1 y t _ h2
    · rw [wnt, leadF_app, f1, f2, l2s_app]; try rfl
    · rw [wnt, List.length_append, Int.natCast_add, z1, z2, wlen_cons]
theorem mul_tilde (n : Nat) (h : n ≤ 6) : Txt.mul (Str.ofString "~") (n : Int) = L2S (List.replicate n 126) ∧ leadF (repI (n : Int) [31]) = L2S (List.replicate n 32) := by
  have : n = 0 ∨ n = 1 ∨ n = 2 ∨ n = 3 ∨ n = 4 ∨ n = 5 ∨ n = 6 := by omega
  rcases this with rfl | rfl | rfl | rfl | rfl | rfl | rfl <;> exact ⟨by decide +kernel, by decide +kernel⟩
theorem tilde_reads (n : Nat) {x : Nat} {r : List Nat} {ns : List Int} (h : Reads' (L2S (x :: r)) ns) : Reads' (L2S (List.replicate n 126 ++ x :: r)) (List.replicate n 31 ++ ns) := by
  induction n with
  | zero => exact h
  | succ n ih =>
    rw [List.replicate_succ, List.replicate_succ, List.cons_append, List.cons_append]
    cases e : List.replicate n 126 ++ x :: r with
    | nil => simp at e
    | cons y t => rw [e] at ih; exact blkT ih
theorem repI_one (n : Nat) (x : Int) : repI (n : Int) [x] = List.replicate n x := by
  unfold repI
  rw [show ((n : Int)).toNat = n by omega]
  induction n with
  | zero => rfl
  | succ n ih => rw [List.replicate_succ, List.replicate_succ, List.flatten_cons, ih]; rfl
theorem op_all : ((List.range 48).all fun i => match NAMES[i]? with | some x => decide (inT x = true) && decide (tokVal x = (i : Int) + 7) && decide (x.length ≤ 3) && (match x.cps.toList with | [] => false | c :: _ => decide (c ≠ 32) && decide (c ≠ 9)) | none => false) = true := by decide +kernel
theorem op_of {la : Int} (h0 : 0 ≤ la) (h1 : la < 48) : ∃ op, NAMES[la.toNat]? = some op ∧ op.length ≤ 3 ∧ (∃ c r, op = L2S (c :: r) ∧ c ≠ 32 ∧ c ≠ 9 ∧ Reads' (L2S (c :: r)) [la + 7]) := by
  have h := List.all_eq_true.mp op_all la.toNat (List.mem_range.mpr (by omega))
  split at h
  · rename_i op e
    simp only [Bool.and_eq_true, decide_eq_true_eq] at h
    obtain ⟨⟨⟨a, b⟩, c⟩, d⟩ := h
    refine ⟨op, e, c, ?_⟩
    split at d
    · cases d
    · rename_i c9 r9 e9
      simp only [Bool.and_eq_true, decide_eq_true_eq] at d
      have eo : op = L2S (c9 :: r9) := by rw [← e9]
      refine ⟨c9, r9, eo, d.1, d.2, ?_⟩
      have hl : (c9 :: r9).length ≤ 3 := by rw [eo, l2s_len] at c; exact c
      have t3 : (c9 :: r9).take 3 = c9 :: r9 := List.take_of_length_le hl
      have st := rd_step (l := c9 :: r9) (k := 3) (ns := []) (by simp) (size3 (by rw [t3, ← eo]; exact a)) (by rw [List.drop_of_length_le hl]; exact Reads'.nil)
      rw [t3, ← eo, b] at st
      rw [← eo]
      rw [show la + 7 = ((la.toNat : Nat) : Int) + 7 by omega]
      exact st
  · cases h
end
-- text pureF
section
theorem cut_last (l : List Int) (x : Int) : cutI (l ++ [x]) none (some (-1)) = l := by
  unfold cutI
  have e : hiN (some (-1)) (l ++ [x]).length = l.length := by
    unfold hiN
    simp [List.length_append]
  have e0 : loN none (l ++ [x]).length = 0 := rfl
  rw [e, e0, List.drop_zero, Nat.sub_zero, List.take_append_of_le_length (Nat.le_refl _), List.take_length]
theorem codes_l2s (l : List Nat) : PySem.W.KStt.codes (L2S l) = l.map fun (c : Nat) => (c : Int) := by
  simp [PySem.W.KStt.codes, L2S]
theorem run_stop (l : List Int) : ∀ (r : List Int) (c : Int) (cnt : List Int) (b n nt : Int), (∀ x ∈ l, x = 32 ∨ x = 9) → c ≠ 32 → c ≠ 9 → wsRun (l ++ c :: r) cnt b n nt = wsRun l cnt b n nt := by
  induction l with
  | nil =>
    intro r c cnt b n nt _ h1 h2
    rw [List.nil_append]; simp only [wsRun, if_neg h1, if_neg h2]
  | cons y t ih =>
    intro r c cnt b n nt h h1 h2
    rw [List.cons_append]; simp only [wsRun]
    have ht : ∀ x ∈ t, x = 32 ∨ x = 9 := fun x hx => h x (.tail _ hx)
    split
    · exact ih _ _ _ _ _ _ ht h1 h2
    · split
      · exact ih _ _ _ _ _ _ ht h1 h2
      · rfl
theorem ldN_all (ds : List Int) : ∀ x ∈ ldN ds, x = 32 ∨ x = 9 := fun x hx => by
  unfold ldN at hx
  obtain ⟨w, _, hw⟩ := List.mem_flatMap.mp hx
  rcases List.mem_append.mp hw with h | h
  · exact .inl (List.eq_of_mem_replicate h)
  · exact .inr (List.mem_singleton.mp h)
theorem ldL_eq (ds : List Int) (n : Nat) : (ldN ds ++ List.replicate n 32).map (fun c : Nat => (c : Int)) = ldL ds (n : Int) := by
  unfold ldL ldN
  rw [List.map_append, List.map_flatMap, List.map_replicate]
  congr 1
  · congr 1
    funext w
    rw [List.map_append, List.map_replicate]; rfl
theorem ldN_len (ds : List Int) (h : ∀ n ∈ ds, 1 ≤ n ∧ n ≤ 6) : (ldN ds).length ≤ 6 * ds.length := by
  induction ds with
  | nil => exact Nat.le_refl _
  | cons w r ih =>
    have := ih fun n hn => h n (.tail _ hn)
    have hw := h w (.head _)
    show (List.flatMap _ (w :: r)).length ≤ _
    rw [List.flatMap_cons, List.length_append, List.length_append, List.length_replicate, List.length_singleton, List.length_cons]
    have e : (ldN r).length = (List.flatMap (fun w => List.replicate (w - 1).toNat 32 ++ [9]) r).length := rfl
    omega
/-- all that a place's line needs -/
theorem plok {T B : Int} {ns : List Int} (hT : 0 ≤ T) (hr : DigRow ns) (hB0 : 0 ≤ B) (hB1 : B ≤ 6) : ∃ op tx ld wants, PlOk T ns B op tx ld wants (QL (dueL ns) B) := by
  have hq : Qk (dueL ns) B (QL (dueL ns) B) := by
    obtain ⟨a, ha, b, hb, c, hc, rfl⟩ := id hr
    exact qk_row ha hb hc hB0 hB1
  have hlen : ns.length ≤ 3 := by obtain ⟨a, ha, b, hb, c, hc, rfl⟩ := hr; exact Nat.le_refl 3
  obtain ⟨n, rfl⟩ : ∃ n : Nat, B = (n : Int) := ⟨B.toNat, by omega⟩
  have hn : n ≤ 6 := by omega
  obtain ⟨l, e1, e2, e3, e4, e5⟩ := txt_reads (dueL ns) (T.fdiv 343) hq.w
  obtain ⟨op, o1, o2, c, r, o3, o4, o5, o6⟩ := op_of (la := (T.fdiv 9604).fmod 48) (Int.fmod_nonneg_of_pos _ (by decide)) (Int.fmod_lt_of_pos _ (by decide))
  obtain ⟨m1, m2⟩ := mul_tilde n hn
  have hw4 := hq.w4
  have hll := ldN_len (dueL ns) hq.w
  have hwl : ((wnt (T.fdiv 343) (dueL ns)).length : Int) ≤ 16 := by
    rw [e5]
    have : ∀ ds : List Int, (∀ n ∈ ds, 1 ≤ n ∧ n ≤ 6) → wlen ds ≤ 3 * (ds.length : Int) := fun ds => by
      induction ds with
      | nil => exact fun _ => by decide
      | cons w r ih =>
        intro h
        have := ih fun n hn => h n (.tail _ hn)
        have hw := h w (.head _)
        rw [wlen_cons, List.length_cons]; omega
    have := this _ hq.w
    omega
  have hle : leadF (wnt (T.fdiv 343) (dueL ns) ++ repI (n : Int) [31]) = L2S (ldN (dueL ns) ++ List.replicate n 32) := by rw [leadF_app, e4, m2, l2s_app]
  refine ⟨op, txt (T.fdiv 343) (dueL ns), L2S (ldN (dueL ns) ++ List.replicate n 32), wnt (T.fdiv 343) (dueL ns), ⟨hr, hT, hlen, hq.w, hw4, hB0, hB1, o2, o1, textP_eq _ _, ?_, ?_, ?_, wantP_eq _ _, by omega, ?_, ?_, ?_, ?_, ?_, ?_⟩⟩
  · rw [e1, l2s_len]; omega
  · refine ⟨?_⟩
    rw [e1, m1, Str.length_append, Str.length_append, l2s_len, l2s_len, List.length_replicate]
    omega
  · rw [e1, m1, o3, l2s_app, l2s_app, List.append_assoc, repI_one]
    have t := tilde_reads n o6
    cases e : List.replicate n 126 ++ c :: r with
    | nil => simp at e
    | cons y t9 =>
      rw [e] at t
      rw [List.append_assoc]
      exact e3 y t9 _ t
  · rw [cut_last]; exact hle
  · rw [l2s_len, List.length_append, List.length_replicate]; omega
  · refine ⟨?_⟩
    rw [Str.length_append, Str.length_append, l2s_len, List.length_append, List.length_replicate, show (Str.ofString " \t").length = 2 from rfl]
    omega
  · rw [o3, show Str.ofString " \t" = L2S [32, 9] from rfl, l2s_app, l2s_app, codes_l2s, List.append_assoc, List.map_append, List.cons_append, List.map_cons, run_stop]
    · rw [ldL_eq]; rfl
    · intro x hx
      obtain ⟨y, hy, rfl⟩ := List.mem_map.mp hx
      rcases List.mem_append.mp hy with h | h
      · rcases ldN_all _ y h with rfl | rfl
        · exact .inl rfl
        · exact .inr rfl
      · rw [List.eq_of_mem_replicate h]; exact .inl rfl
    · omega
    · omega
  · have := hq.len; omega
  · rw [hq.two, e5]
end
-- text law
section
theorem digF_mem (T : Int) (k : Nat) : digF T k ∈ DIGS := by
  unfold digF
  have h0 : 0 ≤ (T.fdiv (7 ^ k)).fmod 7 := Int.fmod_nonneg_of_pos _ (by decide)
  have h1 : (T.fdiv (7 ^ k)).fmod 7 < 7 := Int.fmod_lt_of_pos _ (by decide)
  generalize (T.fdiv (7 ^ k)).fmod 7 = x at *
  have : x = 0 ∨ x = 1 ∨ x = 2 ∨ x = 3 ∨ x = 4 ∨ x = 5 ∨ x = 6 := by omega
  rcases this with rfl | rfl | rfl | rfl | rfl | rfl | rfl <;> decide
theorem row_dig (T : Int) : DigRow (rowF T) := ⟨_, digF_mem T 0, _, digF_mem T 1, _, digF_mem T 2, rfl⟩
theorem row_rev (T : Int) : DigRow (rowF T).reverse := ⟨_, digF_mem T 2, _, digF_mem T 1, _, digF_mem T 0, rfl⟩
theorem seven (x : Int) : 0 ≤ x.fmod 7 ∧ x.fmod 7 ≤ 6 := by
  have h0 : 0 ≤ x.fmod 7 := Int.fmod_nonneg_of_pos _ (by decide)
  have h1 : x.fmod 7 < 7 := Int.fmod_lt_of_pos _ (by decide)
  omega
theorem two_items {vs : List Value} {a b : Value} (h : vs.length = 2) (h0 : vs[0]? = some a) (h1 : vs[1]? = some b) : vs = [a, b] := by
  match vs, h with
  | [x, y], _ => simp at h0 h1; rw [h0, h1]
set_option maxHeartbeats 4000000 in
/-- the law's block, from its script to its True -/
theorem law_c {w : World} {p : Program} {loose : List Str} {mean : ExcName → Option Value} {mg mb : Str → Option Value} {dp un : Nat} {gd : Option (List Code)} {cn : Str} {a : Addr} {ccd : Value} {cl : List (Str × Addr)} {A₀ : Around} {base h₀ : Heap} {L : Addr} {s : Shared} {Q : Flow → Shared → Prop}
    {r : Addr} {vr : List Value} {xs : List Int}
    (B : Below A₀ base [] h₀) (F : Fr h₀ L s.heap (fun y => if y = Str.ofString "script" then some (Value.ref r) else none)) (X : (hd.heap_1 w.params).In h₀) (T : Top p loose mean mg mb h₀)
    (hr : h₀.IsList r vr.toArray) (hi : IntsAre vr xs) (hz : xs.length ≤ 63) (hgb : AllBare s.gens) (hd : dp + 20 < recursionLimit) (hu : un + 300 < cLine)
    (hret : ∀ m' h' tk' g', AllBare g' → Fr h₀ L h' m' → Q (.ret (.bool true)) { s with heap := h', toks := tk', gens := g' }) :
    wpAny (model PySem.Challenge.rw_st0029_01.row.prog w) (ktrTop dp un gd cn lawFd.1.2 L a ccd cl []) (execs lawFd.1.1 (envX cn lawFd.1.2 L a ccd cl)) Q (fun _ _ => False) s := by
  rw [law_secs]
  refine execs_seq _ _ (lawA_c B F X T News.nil hr hi hz hgb (by omega) (by omega) fun pv t ep T0 T1 u0 u1 h1 k1 g1 hT0 hT1 gb1 F1 N1 => ⟨rfl, ?_⟩)
  refine execs_seq _ _ (lawB_c (s := { s with heap := h1, toks := k1, gens := g1 }) B F1 X T N1 hT0 hT1 hd hu fun nm nmn nmv R r0 r1 rv0 rv1 h2 k2 hnm hI0 hI1 hne F2 N2 => ⟨rfl, ?_⟩)
  refine execs_seq _ _ (lawB2_c (s := { s with heap := h2, toks := k2, gens := g1 }) B F2 X T N2 hne hI0 hI1 hT0 hT1 hd hu fun bh v1 v2 v3 h3 k3 hne2 F3 N3 => ⟨rfl, ?_⟩)
  refine execs_seq _ _ (lawB3_c (ep := 0) (s := { s with heap := h3, toks := k3, gens := g1 }) B F3 X T N3 hne hne2 hI0 hI1 rfl hd hu fun r1' kk1 rv1' v3' h4 k4 hI1' F4 N4 => ⟨rfl, ?_⟩)
  have b0 := seven (T0.fdiv 1372)
  have b1' : 0 ≤ (if (T0 + T1).fmod 3 = 2 then (T0.fdiv 1372).fmod 7 else (T1.fdiv 1372).fmod 7) ∧ (if (T0 + T1).fmod 3 = 2 then (T0.fdiv 1372).fmod 7 else (T1.fdiv 1372).fmod 7) ≤ 6 := by
    split
    · exact b0
    · exact seven _
  have dr1 : DigRow (if 0 < (T0 + T1).fmod 3 then (rowF T0).reverse else rowF T1) := by
    split
    · exact row_rev T0
    · exact row_dig T1
  generalize (if 0 < (T0 + T1).fmod 3 then (rowF T0).reverse else rowF T1) = ns1 at *
  generalize (if (T0 + T1).fmod 3 = 2 then (T0.fdiv 1372).fmod 7 else (T1.fdiv 1372).fmod 7) = B1 at *
  generalize (T0.fdiv 1372).fmod 7 = B0 at *
  obtain ⟨op0, tx0, ld0, wa0, P0⟩ := plok hT0 (row_dig T0) b0.1 b0.2
  obtain ⟨op1, tx1, ld1, wa1, P1⟩ := plok hT1 dr1 b1'.1 b1'.2
  have K0 : Qk (dueL (rowF T0)) B0 (QL (dueL (rowF T0)) B0) := by
    obtain ⟨x, hx, y, hy, z, hz, e⟩ := row_dig T0
    rw [e]; exact qk_row hx hy hz b0.1 b0.2
  have K1 : Qk (dueL ns1) B1 (QL (dueL ns1) B1) := by
    obtain ⟨x, hx, y, hy, z, hz, rfl⟩ := dr1
    exact qk_row hx hy hz b1'.1 b1'.2
  generalize QL (dueL (rowF T0)) B0 = q0 at *
  generalize QL (dueL ns1) B1 = q1 at *
  refine execs_seq _ _ (secC_c (s := { s with heap := h4, toks := k4, gens := g1 }) B F4 X T N4 rfl rfl rfl rfl (.tail _ (.tail _ (.tail _ (.tail _ (.tail _ (.head _)))))) (.tail _ (.head _)) (.tail _ (.tail _ (.tail _ (.tail _ (.head _))))) (.head _) (.tail _ (.tail _ (.tail _ (.head _)))) (.tail _ (.tail _ (.head _))) hnm hI0 hI1' P0 P1 gb1 hd hu fun m5 DU LN duv lnv led5 h5 k5 g5 sub5 du2 ln2 p0 p1 gb5 F5 N5 f1 f2 f3 => ⟨rfl, ?_⟩)
  obtain ⟨l0, dx0, nT0, cT0, od0, on0, oc0, d0, dk0, dv0, la0, da0, W0, J0, i0, j0⟩ := p0
  obtain ⟨l1, dx1, nT1, cT1, od1, on1, oc1, d1, dk1, dv1, la1, da1, W1, J1, i1, j1⟩ := p1
  obtain rfl := two_items du2 da0 da1
  obtain rfl := two_items ln2 la0 la1
  have up5 : ∀ {q : Addr × Obj}, q ∈ led5 → q ∈ (DU, listOf #[Value.ref d0, Value.ref d1] 2) :: (LN, listOf #[Value.ref l0, Value.ref l1] 2) :: led5 := fun h => .tail _ (.tail _ h)
  refine execs_seq _ _ (secD_c (s := { s with heap := h5, toks := k5, gens := g5 }) (led := (DU, listOf #[Value.ref d0, Value.ref d1] 2) :: (LN, listOf #[Value.ref l0, Value.ref l1] 2) :: led5) B F5 X T N5 f1 f2 f3 (.head _) (up5 (sub5 _ (.head _))) (up5 j0) (up5 j1) J0 J1 K0.w4 K1.w4 K0.w K1.w b0 b1' gb5 hd hu fun m6 M TB vs tl k h6 k6 g6 hM hMa gb6 F6 N6 hT f4 f5 => ⟨rfl, ?_⟩)
  obtain ⟨t1, t2, t3, t4⟩ := top_of K0 K1 hM hMa
  obtain ⟨M0, M6⟩ := rng_of K0 K1 b0 b1' hM
  have B0M : B0 ≤ M := hMa _ (by simp)
  have B1M : B1 ≤ M := hMa _ (by simp)
  rw [secE_secs]
  refine execs_seq _ _ (secE1_c (s := { s with heap := h6, toks := k6, gens := g6 }) B F6 X T N6 f4 (.head _) (hT.mono fun q hq => .tail _ (List.mem_append.mpr (.inl hq))) ?hsz gb6 hd hu fun m7 D1 D2 D3 ws1 ws2 ws3 tl1 tl2 tl3 h7 k7 A1 A2 A3 F7 N7 f6 f7 f8 f9 => ⟨rfl, ?_⟩)
  case hsz => rw [List.length_map, rangeKs_length]; omega
  have up7 : ∀ {q : Addr × Obj}, q ∈ led5 → q ∈ (D3, LCg.lst ws3) :: (tl3 ++ ((D2, LCg.lst ws2) :: (tl2 ++ ((D1, LCg.lst ws1) :: (tl1 ++ ((TB, listOf (List.toArray vs) k) :: (tl ++ ((DU, listOf #[Value.ref d0, Value.ref d1] 2) :: (LN, listOf #[Value.ref l0, Value.ref l1] 2) :: led5)))))))) := fun h => by
    simp only [List.mem_cons, List.mem_append]; simp [h]
  have hi0 : ∀ k ∈ rangeKs 1 (M + 2 - 1).toNat, indF q0 k = colF B0 k (dueL (rowF T0)) := fun k hk => by
    have := mem_range hk M0
    exact K0.ind k (by omega) (by omega)
  have hi1 : ∀ k ∈ rangeKs 1 (M + 2 - 1).toNat, indF q1 k = colF B1 k (dueL ns1) := fun k hk => by
    have := mem_range hk M0
    exact K1.ind k (by omega) (by omega)
  obtain ⟨E1, E2, E3⟩ := filt_eq hi0 hi1
  have ek1 : (topN q0 q1 + 1 - 1).toNat = (M + 2 - 1).toNat := by omega
  have ek2 : (topN q1 q0 + 1 - 1).toNat = (M + 2 - 1).toNat := by omega
  have l1' := K0.len
  have l2' := K1.len
  have b2' := K0.b
  have b3' := K1.b
  refine secE2_c (ep := 2) (s := { s with heap := h7, toks := k7, gens := g6 }) (q0 := q0) (q1 := q1) B F7 X T N7 ((f9 _ (by decide) (by decide) (by decide)).trans f5) f6 f7 f8 (by simp) (up7 (i0 _ (by simp))) (up7 (i0 _ (by simp))) (up7 (i0 _ (by simp))) (up7 (i0 _ (by simp))) (up7 (i1 _ (by simp))) (up7 (i1 _ (by simp))) (up7 (i1 _ (by simp))) (up7 (i1 _ (by simp))) W0 W1 (n1 := ws1.length) (n2 := ws2.length) (n3 := ws3.length) (by simp) (by simp) (by simp)
    (A1.mono fun q hq => by simp [hq]) (A2.mono fun q hq => by simp [hq]) (A3.mono fun q hq => by simp [hq]) (by omega) (by omega) (by omega) (by omega)
    (by rw [ek1]; exact E1) (by rw [ek2]; exact E2) (by rw [ek1]; exact E3) rfl rfl rfl ?e7 ?e8 ?e9 ?e10 gb6 hd hu fun m8 h8 k8 F8 => hret _ _ _ _ gb6 F8
  case e7 => exact decide_eq_decide.mpr ⟨fun h => ⟨h.1.symm, h.2.symm⟩, fun h => ⟨h.1.symm, h.2.symm⟩⟩
  case e8 => rw [less_iff K0 K1 M0 M6 t1 b0.1 B1M, E1]
  case e9 => rw [less_iff K1 K0 M0 M6 t2 b1'.1 B0M, E2]
  case e10 => rw [same_iff K0 K1 M0 M6 b0.1 b1'.1 t3 t4 B0M B1M, E3]
end
-- text top
section
theorem fr_one {h₀ h : Heap} {L : Addr} {x : Str} {v : Value} (F : Fr h₀ L h (fun y => List.lookup y [(x, v)].reverse)) : Fr h₀ L h (fun y => if y = x then some v else none) := by
  have e : (fun y => List.lookup y [(x, v)].reverse) = (fun y => if y = x then some v else none) := funext fun y => lookup_one y x v
  exact e ▸ F
-- Names held, so that the head lays no twin equations here: they alone would bring the compiled file over its lid. They say nothing and serve no proof.
theorem top_holds.tw10107942072234659640 : True := trivial
theorem top_holds.tw10125020794543980067 : True := trivial
theorem top_holds.tw10255843937305680735 : True := trivial
theorem top_holds.tw1028088937544305066 : True := trivial
theorem top_holds.tw10386217897378709454 : True := trivial
theorem top_holds.tw10403380559422862085 : True := trivial
theorem top_holds.tw1046102856506082733 : True := trivial
theorem top_holds.tw10504974154124522756 : True := trivial
theorem top_holds.tw10552320791751978450 : True := trivial
theorem top_holds.tw10570388899040823350 : True := trivial
theorem top_holds.tw1064999330860720017 : True := trivial
theorem top_holds.tw10790669644498441752 : True := trivial
theorem top_holds.tw1081493275415120767 : True := trivial
theorem top_holds.tw10886974428866652755 : True := trivial
theorem top_holds.tw10940498373435683535 : True := trivial
theorem top_holds.tw11112013311755553533 : True := trivial
theorem top_holds.tw11116045255272475829 : True := trivial
theorem top_holds.tw11146590579507922318 : True := trivial
theorem top_holds.tw11326182875540799239 : True := trivial
theorem top_holds.tw11338331482395753753 : True := trivial
theorem top_holds.tw11356092522278567350 : True := trivial
theorem top_holds.tw11400550381317440871 : True := trivial
theorem top_holds.tw1170600685481423846 : True := trivial
theorem top_holds.tw11721549373836180886 : True := trivial
theorem top_holds.tw12179602146161187295 : True := trivial
theorem top_holds.tw12211013397562700236 : True := trivial
theorem top_holds.tw12226561367533257871 : True := trivial
theorem top_holds.tw1243861160061355648 : True := trivial
theorem top_holds.tw12623785622622771968 : True := trivial
theorem top_holds.tw12684548517849587337 : True := trivial
theorem top_holds.tw12769788761349336344 : True := trivial
theorem top_holds.tw12923834991476696125 : True := trivial
theorem top_holds.tw12949430201473781465 : True := trivial
theorem top_holds.tw1302861816749872260 : True := trivial
theorem top_holds.tw13206024893215261227 : True := trivial
theorem top_holds.tw13219822733752693447 : True := trivial
theorem top_holds.tw13501127516958937163 : True := trivial
theorem top_holds.tw13554859302824041343 : True := trivial
theorem top_holds.tw13655510030190684022 : True := trivial
theorem top_holds.tw13685836403630895208 : True := trivial
theorem top_holds.tw13848208221992885903 : True := trivial
theorem top_holds.tw14076335628605029297 : True := trivial
theorem top_holds.tw14096830523921803799 : True := trivial
theorem top_holds.tw14134825760421063046 : True := trivial
theorem top_holds.tw14370084225753925861 : True := trivial
theorem top_holds.tw14468986070860827367 : True := trivial
theorem top_holds.tw14565182137033394880 : True := trivial
theorem top_holds.tw14592303856973607332 : True := trivial
theorem top_holds.tw14609289771100067713 : True := trivial
theorem top_holds.tw14727628658407909134 : True := trivial
theorem top_holds.tw14828928194086693172 : True := trivial
theorem top_holds.tw14964154834954881342 : True := trivial
theorem top_holds.tw14999927059948210029 : True := trivial
theorem top_holds.tw15195526924935639115 : True := trivial
theorem top_holds.tw15221522967372155253 : True := trivial
theorem top_holds.tw15272444264056860296 : True := trivial
theorem top_holds.tw15304023477519594930 : True := trivial
theorem top_holds.tw15369756859670697158 : True := trivial
theorem top_holds.tw1538294101712756727 : True := trivial
theorem top_holds.tw15641939921187554266 : True := trivial
theorem top_holds.tw1565942003624525246 : True := trivial
theorem top_holds.tw15692412014526432723 : True := trivial
theorem top_holds.tw1582758004648149674 : True := trivial
theorem top_holds.tw15949160470141569501 : True := trivial
theorem top_holds.tw15984568926656773818 : True := trivial
theorem top_holds.tw16024685512509852779 : True := trivial
theorem top_holds.tw16134246568357203411 : True := trivial
theorem top_holds.tw16142442076904440860 : True := trivial
theorem top_holds.tw16333808831859665473 : True := trivial
theorem top_holds.tw16335452529347721884 : True := trivial
theorem top_holds.tw16368954944788392053 : True := trivial
theorem top_holds.tw16409431734848679292 : True := trivial
theorem top_holds.tw16706324915611286462 : True := trivial
theorem top_holds.tw16757361532231396509 : True := trivial
theorem top_holds.tw16771786833406382841 : True := trivial
theorem top_holds.tw16785885191661345610 : True := trivial
theorem top_holds.tw17043272864007941545 : True := trivial
theorem top_holds.tw17221236399017066151 : True := trivial
theorem top_holds.tw17503226577750849365 : True := trivial
theorem top_holds.tw17608602513841466417 : True := trivial
theorem top_holds.tw1785720373919024710 : True := trivial
theorem top_holds.tw17881012833215006561 : True := trivial
theorem top_holds.tw18222831585294801394 : True := trivial
theorem top_holds.tw18249307695991553247 : True := trivial
theorem top_holds.tw18270238391728190928 : True := trivial
theorem top_holds.tw18279533279815467665 : True := trivial
theorem top_holds.tw1909854921507868883 : True := trivial
theorem top_holds.tw1914239818701654569 : True := trivial
theorem top_holds.tw2008866978645751081 : True := trivial
theorem top_holds.tw212050117524748708 : True := trivial
theorem top_holds.tw2246491205228232184 : True := trivial
theorem top_holds.tw2303822072724724726 : True := trivial
theorem top_holds.tw2566423029161393871 : True := trivial
theorem top_holds.tw2922972563221517873 : True := trivial
theorem top_holds.tw3008618723825507083 : True := trivial
theorem top_holds.tw3022860923139441935 : True := trivial
theorem top_holds.tw322767890844734000 : True := trivial
theorem top_holds.tw3528169091009551719 : True := trivial
theorem top_holds.tw3528233051252061015 : True := trivial
theorem top_holds.tw3621203403719120939 : True := trivial
theorem top_holds.tw3815710636878630582 : True := trivial
theorem top_holds.tw3873684369426804776 : True := trivial
theorem top_holds.tw3904353489727473903 : True := trivial
theorem top_holds.tw4131664330927147103 : True := trivial
theorem top_holds.tw4212400841175484167 : True := trivial
theorem top_holds.tw4443876095810823206 : True := trivial
theorem top_holds.tw4728300246559770164 : True := trivial
theorem top_holds.tw4808029987816923763 : True := trivial
theorem top_holds.tw4887947716082510401 : True := trivial
theorem top_holds.tw4937094332854698604 : True := trivial
theorem top_holds.tw4955463334251725518 : True := trivial
theorem top_holds.tw5082435142349590651 : True := trivial
theorem top_holds.tw5247234452757624764 : True := trivial
theorem top_holds.tw5369334117018311446 : True := trivial
theorem top_holds.tw5434946601393515303 : True := trivial
theorem top_holds.tw5505015759167380760 : True := trivial
theorem top_holds.tw5746675963820986837 : True := trivial
theorem top_holds.tw5953962131307426826 : True := trivial
theorem top_holds.tw5976240865614777933 : True := trivial
theorem top_holds.tw6035257978092900515 : True := trivial
theorem top_holds.tw6414721231113745886 : True := trivial
theorem top_holds.tw7038642499556493316 : True := trivial
theorem top_holds.tw7274797435218116652 : True := trivial
theorem top_holds.tw7299840017458390725 : True := trivial
theorem top_holds.tw7366585551462102116 : True := trivial
theorem top_holds.tw7839476213789519802 : True := trivial
theorem top_holds.tw7955827580873098809 : True := trivial
theorem top_holds.tw8075485520939736687 : True := trivial
theorem top_holds.tw8299187421358369138 : True := trivial
theorem top_holds.tw8612796889925561051 : True := trivial
theorem top_holds.tw863583447433472934 : True := trivial
theorem top_holds.tw8965820958578913109 : True := trivial
theorem top_holds.tw9097506367881022224 : True := trivial
theorem top_holds.tw9409051167845236304 : True := trivial
theorem top_holds.tw9643397504301613564 : True := trivial
theorem top_holds.tw357486453476387696 : True := trivial
set_option Elab.async true in
set_option maxRecDepth 100000 in
set_option maxHeartbeats 8000000 in
theorem top_holds : PySem.Challenge.rw_st0029_01.Holds := by
  w_on
  o_law
  o_head (kHook hd.heap_1 [2, 3, 6, 25, 27, 28, 30, 31, 32, 34, 35, 37, 38, 39, 41, 42, 44, 45, 46, 48, 49, 51, 52, 53, 55, 56, 58, 59, 60, 62, 63, 65, 66, 67, 69, 70, 72, 73, 74, 75, 76, 77, 78, 81, 83, 84, 86, 87, 88, 91, 93, 94, 96, 97, 98, 100, 101, 103, 104, 105, 107, 108, 110, 111, 112, 114, 115, 117, 118, 119, 121, 122, 124, 125, 126, 128, 129, 131, 132, 133, 136, 137] (fun _ => by kernel_rfl))
  (case hw => w_witness2)
  w_top off
  k_fill
  intro w s₀ s₁ mg mb G Y fa o pm cd doc dV kV ho hd' hcd hD hmg hg args vals as hpre hlay hrd hwl hlo
  have KX := kIn_of Y
  have X := (Ground.X G).1
  have V := (Ground.X G).2
  try w_nolog (first | (have GL := glob_more (Ground.glob G (by first | k_qdec | decide +kernel) (by first | k_qdec | decide +kernel)) V) | (have GL := glob_more (Ground.glob G (by decide +kernel)) V))
  refine Ground.open G ?_
  intro T B D TE TW
  try (refine guard_noD D (by decide +kernel) ?_; clear D)
  obtain ⟨_, _, M⟩ := bmod_of_top T
  have TA := at_of_top T
  try (obtain ⟨_, _, he, B0⟩ := based_of_top T rfl hmg ho hd'; have he' : cd = _ := he; subst he'; clear he)
  clear hmg
  wrow_args hpre hlay hrd hwl hlo
  all_goals (
    first | refine callC_kw (enter_call ?_) | refine enter_call ?_ | refine callC_kw (enter_callW ?_) | refine enter_callW ?_ | w_how
    w_top on
    have K0 := below_caller (Top.heap T)
    w_call any ho hd' hcd hD T F
    clear hd' TA
    k_drop
    skip)
  rename IntsAre _ _ => hI
  rename Heap.IsList _ _ _ => hL
  rename (¬ _ < _) => hlen
  (with_reducible rename Fr _ _ _ _ => F9)
  refine wpAny_mono (law_c (dp := callerA.depth + 1) (un := callerA.units + 3) (gd := callerA.guards) (cn := "law") (a := fa) (cl := []) (below_caller s₁.heap) (fr_one F9) KX T hL hI (by omega) (.of_eq hg) (by decide) ?hu fun m' h' tk' g' gb F' => ?_) (fun _ _ h => h) fun _ _ x => x.elim
  case hu => have := cLine_is; show callerA.units + 3 + 300 < cLine; rw [cLine_is]; decide
  exact ⟨.inl ⟨.bool true, .bool true, [], rfl, fun _ => rfl, ReadsW.bool true, (by first | rfl | wrow_post), fun _ => ⟨List.nodup_nil, fun _ hm => (nomatch hm)⟩⟩, .of_keep F'.keep, rfl, gb⟩
end
end
end Mine
set_option maxRecDepth 100000 in
set_option maxHeartbeats 8000000 in
theorem PySem.Challenge.cw_st0029_01_holds : PySem.Challenge.rw_st0029_01.Holds := by
  exact Mine.top_holds
