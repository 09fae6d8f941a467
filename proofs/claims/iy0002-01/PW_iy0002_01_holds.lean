import PyProof.Rows.All
import Wide.All
import OpenK.AllK
import Wide.FinOn
import PySem.Challenge.RW_iy0002_01
set_option Elab.async false
section
open PySem PySem.W PyProof.Rows
open PySem.Sem (wp)
set_option Elab.async false
namespace Mine
/-- the built-ins whose standing on the stack a bytearray's change asks about -/
def badIds : List String := ["bytearray.__contains__", "bytearray.__mod__", "bytearray.__rmod__", "_struct.pack_into.held", "bytearray.find.held"] ++ Builtin.Bytes.decodersThatHold
def badCode : Code → Bool
  | .builtin id _ => badIds.contains id
  | _ => false
/-- t, where the stack holds none of them; elsewhere the answer at once -/
def guarded (t : Sem Value) : Sem Value := .stack fun st => if st.any (fun x => badCode x.1) then pure (.bool true) else t
abbrev callerC : PySem.Ctx := ⟨.builtin "claim.caller" {}, none, none, [], none⟩
theorem badCode_caller : badCode (.builtin "claim.caller" {}) = false := by decide +kernel
theorem guarded_caller {M : Model} {t : Sem Value} {Q : Value → Pos → Shared → Prop} {E : Value → Pos → Shared → Prop} {p : Pos} {s : Shared} (h : wp M callerC (guarded t) Q E p s) : wp M callerC t Q E p s := by
  unfold guarded at h
  rw [Sem.wp_stack] at h
  have e : ((callerC.code, p) :: callerC.below).any (fun x => badCode x.1) = false := (Bool.or_false _).trans badCode_caller
  rw [if_neg (by rw [e]; exact Bool.false_ne_true)] at h
  exact h
/-- the claim's call, from what the tree does under the claim's own caller alone -/
theorem callFrom_at {c : ClaimW} {tree : List Value → Sem PySem.Fin} {w : World} {s : Shared} {free : Addr → Prop} {gens : Prop} {kept : Heap → Prop} (hz : s.asleep) (hgens : s.gens = #[])
    (hspec : ∀ args, c.pre args = true → WData.layableAll args = true → ∀ ord : List DictEntry → List DictEntry, (∀ l, (ord l).Perm l) →
      ∃ vs s₁, layAllW c.records (classAt s.heap) w.params ord args s = some (vs, s₁) ∧
        wp (model c.prog w) callerC (tree vs) (fun fin _ s' => ∃ f, fin = .done f ∧ c.Ends s args vs s₁ (.ok f) s' ∧ s'.os = s.os ∧ AllBare s'.gens ∧ kept s'.heap)
          (fun e _ s' => c.Ends s args vs s₁ (.error e) s' ∧ s'.os = s.os ∧ AllBare s'.gens ∧ kept s'.heap) default s₁) :
    c.CallFrom (fun vs => ⟨tree vs, .builtin "claim.caller" {}, default, []⟩) w free gens kept s := fun args hpre hlay ord hord => by
  obtain ⟨vs, s₁, hl, hw⟩ := hspec args hpre hlay ord hord
  have rest := layAllW_rest _ _ _ hl
  have hw' : wp (model c.prog w) callerC (tree vs) (Sem.finPost (model c.prog w) callerC fun r s' => (c.Ends s args vs s₁ r s' ∧ s'.os = s.os ∧ kept s'.heap) ∧ leftWithCleanup s'.gens = false)
      (fun e _ s' => (c.Ends s args vs s₁ (.error e) s' ∧ s'.os = s.os ∧ kept s'.heap) ∧ leftWithCleanup s'.gens = false) default s₁ :=
    Sem.wp_mono _ _ _ (fun fin _ s' h => by
      obtain ⟨f, rfl, a, b, d, e⟩ := h
      exact ⟨⟨a, b, e⟩, leftWithCleanup_false_of_bare d⟩) (fun e _ s' h => ⟨⟨h.1, h.2.1, h.2.2.2⟩, leftWithCleanup_false_of_bare h.2.2.1⟩) _ _ hw
  obtain ⟨k, r, s', s'', hs, hr, hf, hR⟩ := wp_halts_full (M := model c.prog w) (R := fun r s' => c.Ends s args vs s₁ r s' ∧ s'.os = s.os ∧ kept s'.heap) (Shared.asleep_of_life rest.2.2.2 hz) hw'
  obtain ⟨eh, _, _, eo, _⟩ := Shared.forget_eq hf
  obtain ⟨hE, hos, hkp⟩ := hR
  have hE' : c.Ends s args vs s₁ r s'' := hE.congr eh
  refine ⟨vs, s₁, hl, k, outcomeOf r, s'', hs, ?_, fun _ i x hx => by rw [hgens] at hx; simp at hx, eh.symm ▸ hkp, by rw [(runN_life _ _ _ hr).trans rest.2.2.2], Shared.rest_eq (eo.trans hos)⟩
  rcases hE' with ⟨v, rfl, d1, d2, d3, d4, d5⟩ | ⟨e, ob, cls, rfl, d1, d2, d3, d4, d5⟩
  · exact .inl ⟨v, rfl, d1, d2, d3, fun b o y _ => d4 b o y, d5⟩
  · exact .inr ⟨e, ob, cls, rfl, d1, d2, d3, d4, fun b o y _ => d5 b o y⟩
section
theorem nsGet_at {M : Model} {Γ : PySem.Ctx} {A : Around} (hΓ : Γ.In A) {p : Pos} {s : Shared} {mg : Str → Option Value} {n : Str} {v : Value} {k : Option Value → Sem PySem.Fin} {Q : PySem.Fin → Pos → Shared → Prop} {E : Value → Pos → Shared → Prop}
    (hg : s.heap.Ns mainGlobals mg) (hn : mg n = some v) (h : ∀ p, wp M Γ (k (some v)) Q E p s) : wp M Γ (nsGet mainNs n >>= k) Q E p s := by
  rw [Sem.wp_bind']
  refine Sem.wp_mono _ _ _ (fun a p' s' h' => ?_) (fun e _ _ h' => h'.elim) _ _ ((wpAny_nsGet (M := M) (A := A) (E := fun _ _ => False) hg (Q := fun a s' => a = some v ∧ s' = s) ⟨hn, rfl⟩) Γ p hΓ)
  obtain ⟨rfl, rfl⟩ := h'
  exact h p'
end
theorem PySem.W.holds_open {r : OpenRow} {q : Program} {loose : List Str} {Xt : Shared → Bool} {XP : (Str → Option Value) → Heap → Prop} {α : Type} {Yf : Shared → α} {Ya : World → α} {YP : World → Heap → Prop} {d : DefRec} {kwd : List (Str × Expr)} {N : Nat}
    (left : LeftO r.prog q loose Xt Yf Ya N) (hY : ∀ w s, Yf s = Ya w → YP w s.heap) (hYk : ∀ w h h', YP w h → (∀ b o, h.get? b = some o → h'.get? b = some o) → YP w h')
    (hX : ∀ s, Xt s = true → XP (s.heap.nsMap mainGlobals) s.heap) (hXk : ∀ mg h h', XP mg h → (∀ b o, h.get? b = some o → h'.get? b = some o) → XP mg h')
    (hdef : defOf q r.name = some (d, kwd)) (hp : r.prog.theDef r.name = some (d.params, d.body, d.scope)) (hk : kwWritten? d.params.kwonlyargs d.params.kw_defaults = some kwd) (hRf : ∀ s, Xt s = true → RecFacts r.records s.heap) (hwr : (!r.writes || r.records.isEmpty) = true)
    (k1 : r.wellSaid = true) (ok : (chainsOk q && opensWell r.prog && (frees r.toRowW && r.within.isEmpty)) = true) (hb : r.prog.bare) (hw : r.toRowW.promised)
    (call : WalkO q loose XP YP r.toRowW d kwd fun f vs => guarded (PySem.call f vs)) : r.Holds := by
  have ok1 := (Bool.and_eq_true_iff.mp (Bool.and_eq_true_iff.mp ok).1)
  have ok2 := (Bool.and_eq_true_iff.mp (Bool.and_eq_true_iff.mp ok).2)
  obtain ⟨hsame, hu, ha, hap, hm⟩ := frees_parts ok2.1
  have hwi : r.toRowW.claim.within = [] := List.isEmpty_iff.mp ok2.2
  refine ⟨k1, hw, ⟨hb, ok1.2, by show r.toRowW.makers.map _ = []; rw [hm]; rfl⟩, hw.witness, fun w => ?_⟩
  have B := left.behind (XP := fun mg h => XP mg h ∧ RecFacts r.records h) (fun s hs => ⟨hX s hs, hRf s hs⟩) ok1.1 w
  refine ⟨B.1, fun s' hs' => ?_⟩
  obtain ⟨s₀, hf, hg0, s, hT, hz, hgens, hg, G₀, y⟩ := B.2 s' hs'
  have G : Ground q loose [] XP w s (s.heap.nsMap mainGlobals) (s.heap.nsMap builtinsNs) s.heap := ⟨G₀.T, G₀.B, G₀.D, G₀.TE, G₀.TD, G₀.W, G₀.X.1, G₀.cls, G₀.has, G₀.apart, G₀.once, G₀.K⟩
  have GR : Ground q loose r.toRowW.records XP w s _ _ s.heap := RecFacts.ground G₀.X.2 G
  have hge : s.gens = #[] := Array.eq_empty_of_size_eq_zero (beq_iff_eq.mp hgens)
  refine ⟨s₀, hf, hg0, s, hT, fun n hn => ?_, G₀.X.2.1, G₀.X.2.2.1, callFrom_at (c := r.toRowW.claim) hz hge fun args hpre hlay ord hord => ?_⟩
  · obtain rfl : n = r.name := by split at hn <;> simp_all
    exact pinned_of_view hg G hdef hp hk
  · obtain ⟨⟨vs, s₁⟩, hl⟩ := Option.isSome_iff_exists.mp (layAllW_isSome (P := w.params) (ord := ord) GR.has args r.toRowW.args s (pre_splitW hpre).1)
    have keeps := layAllW_keeps _ _ _ hl
    have rest := layAllW_rest _ _ _ hl
    obtain ⟨as, hrd, hin, hold⟩ := reads_layAllW hord _ _ _ hl hlay s₁.heap fun _ _ e => e
    have Ld : Laid r.toRowW.records w s s₁ args vs as := ⟨⟨ord, hord, hl⟩, hrd, hin, hold, keeps, rest.1.trans hge, rest.2.2.1⟩
    have G₁ := GR.keeps hXk keeps
    obtain ⟨a, o, pm, cd, doc, dV, kV, h1, h2, h3, h4, h5⟩ := G₁.fn hdef
    have W := call w s s₁ _ _ G₁ (hYk _ _ _ (hY w s y) keeps) a o pm cd doc dV kV h2 h3 h4 h5 (defOf_name hdef ▸ h1) Ld.gens args vs as hpre hlay Ld.reads Ld.well (Ld.low G.low)
    refine ⟨vs, s₁, hl, nsGet_at caller_in G₁.T.g h1 fun p => ?_⟩
    have W1 := guarded_caller (W callerC p caller_in)
    show wp _ _ (PySem.call (.ref a) vs >>= fun v => ret v) _ _ _ _
    rw [Sem.wp_bind']
    have hi := ident_freeW hu ha hap
    exact Sem.wp_mono _ _ _ (fun v _ s' g => have z := g.laid (c := r.toRowW.claim) hsame hwi hi Ld; ⟨_, rfl, z.1, z.2.1, z.2.2, fun q => ⟨namesKept_of hT hg _ keeps g.2.1.old, noTable hwr q⟩⟩)
      (fun e _ s' g => have z := g.laid (c := r.toRowW.claim) hsame hwi hi Ld; ⟨z.1, z.2.1, z.2.2, fun q => ⟨namesKept_of hT hg _ keeps g.2.1.old, noTable hwr q⟩⟩) _ _ W1
end Mine
end
section
open PySem PySem.W PyProof.Rows
set_option Elab.async false
namespace Mine
set_option maxRecDepth 100000 in
set_option maxHeartbeats 8000000 in
open_top hd for PySem.Challenge.rw_iy0002_01
end Mine
end
section
open PySem PySem.W PyProof.Rows PySem.Spec PySem.Calls
set_option Elab.async false
set_option maxRecDepth 100000
namespace Mine
/-- the caller of a def: what the rules of a call ask of it -/
structure At (w : World) (mean : ExcName → Option Value) (mg mb : Str → Option Value) (A A₀ : Around) (base h₀ : Heap) (outer : List Env) (env : Env) (L : Addr) (m : Str → Option Value) (h : Heap) : Prop where
  B : Below A₀ base outer h₀
  F : Fr h₀ L h m
  X : (Mine.hd.heap_39 w.params).In h₀
  T : Top Mine.hd.view_39 (looseW Mine.hd.view_39 [Str.ofString "ApplyDeltaError"]) mean mg mb h₀
  hA : A.frames = some (env :: outer)
  hf : env.frame = some L
  hk : env.scope.kind = .function
theorem fr_stays {h₀ h h' : Heap} {L : Addr} {m : Str → Option Value} (F : Fr h₀ L h m) (k : h.StaysIn h') : Fr h₀ L h' m :=
  ⟨F.ns.keeps k, fun b o e => k b o (F.keep b o e), F.above⟩
theorem news_stays {h₀ h h' : Heap} {L : Addr} {news : List (Addr × Obj)} (N : News h₀ L h news) (k : h.StaysIn h') : News h₀ L h' news :=
  fun p hp => ⟨k _ _ (N p hp).1, (N p hp).2⟩
section
variable {prog : Program} {w : World} {mean : ExcName → Option Value} {mg mb : Str → Option Value} {A A₀ : Around} {base h₀ : Heap} {outer : List Env} {env : Env} {L : Addr} {m : Str → Option Value} {s : Shared}
  {R : Result → Shared → Prop} {name qual : Str} {params : Arguments} {body : List Stmt} {scope : Scope} {dV kV doc pm cdv ct oc : Value} {an od : Option Addr} {osl : Array (Option Value)} {f : Addr} {args : Args} {binds : List (Str × Value)}
theorem At.stays {h' : Heap} (C : At w mean mg mb A A₀ base h₀ outer env L m s.heap) (k : s.heap.StaysIn h') : At w mean mg mb A A₀ base h₀ outer env L m h' :=
  ⟨C.B, fr_stays C.F k, C.X, C.T, C.hA, C.hf, C.hk⟩
theorem At.below (C : At w mean mg mb A A₀ base h₀ outer env L m s.heap) : Below A base (env :: outer) s.heap :=
  have b := pushX C.B C.F C.hf C.hk
  ⟨C.hA, b.stays, b.frames⟩
theorem call_plainM (C : At w mean mg mb A A₀ base h₀ outer env L m s.heap)
    (ho : (Mine.hd.heap_39 w.params).lookup f = some ⟨oc, od, .func (fnOf name qual params body scope dV kV doc pm an cdv ct), osl⟩) (hcd : codeIn (Mine.hd.heap_39 w.params) cdv qual = true) (hroom : A.depth < recursionLimit)
    (hbind : BindsTo s (fnOf name qual params body scope dV kV doc pm an cdv ct) args binds) (hloc : ∀ y ∈ binds, scope.names.lookup y.1 = some .local)
    (h : ∀ g L' h₁, g = s.heap → Fr g L' h₁ (fun y => binds.reverse.lookup y) → News g L' h₁ [] → Below A base (env :: outer) g → (Mine.hd.heap_39 w.params).In g → Top Mine.hd.view_39 (looseW Mine.hd.view_39 [Str.ofString "ApplyDeltaError"]) mean mg mb g →
      wpAny (model prog w) (A.deeper (envOf qual scope L' f cdv)) (execs body (envOf qual scope L' f cdv))
        (fun fl s' => R (.ok (.ret (match fl with | .ret v => v | _ => .none))) s')
        (fun e s' => wpAny (model prog w) (A.deeper (envOf qual scope L' f cdv)) (leaving (envOf qual scope L' f cdv) e) (fun _ s'' => R (.error e) s'') (fun e' s'' => R (.error e') s'') s')
        { s with heap := h₁, toks := s.toks + binds.length })
    (hco : scope.isCoroutine = false := by rfl) (hgen : scope.isGenerator = false := by rfl) (hk : scope.kind = .function := by rfl)
    (hcell : ∀ x ∈ scope.names, x.2 ≠ .cell := by decide) : codeAny (model prog w) A (.call (.ref f) args) R s := by
  have X := C.X.keeps C.F.keep
  refine codeAny_call_def (fd := fnOf name qual params body scope dV kV doc pm an cdv ct) (body := body) (binds := binds) hroom (X _ _ ho) rfl (C.T.nolimit.keeps C.F.keep) (codeRec_of X hcd) rfl hbind hcell hloc (fun h₁ hns hk₁ => ?_) hco hgen hk
  exact h s.heap s.heap.objs.size h₁ rfl ⟨hns, hk₁, Nat.le_refl _⟩ News.nil C.below X (C.T.keeps C.F.keep)
theorem call_cellsM (C : At w mean mg mb A A₀ base h₀ outer env L m s.heap)
    (ho : (Mine.hd.heap_39 w.params).lookup f = some ⟨oc, od, .func (fnOf name qual params body scope dV kV doc pm an cdv ct), osl⟩) (hcd : codeIn (Mine.hd.heap_39 w.params) cdv qual = true) (hroom : A.depth < recursionLimit)
    (hbind : BindsTo s (fnOf name qual params body scope dV kV doc pm an cdv ct) args binds) (hkind : (binds.all fun y => scope.names.lookup y.1 == some .local || scope.names.lookup y.1 == some .cell) = true)
    (hnd : ((cellsFrom 0 scope.names []).map (·.1)).Nodup)
    (h : ∀ g L' h₁ tk cells, g = s.heap → Fr g L' h₁ (bindL (envOfC qual scope L' f cdv).kindOf binds fun _ => none) → News g L' h₁ cells →
      CellsAre (bindC (envOfC qual scope L' f cdv).kindOf binds fun _ => none) (cellsFrom (L' + 1) scope.names []) cells → Below A base (env :: outer) g → (Mine.hd.heap_39 w.params).In g → Top Mine.hd.view_39 (looseW Mine.hd.view_39 [Str.ofString "ApplyDeltaError"]) mean mg mb g →
      wpAny (model prog w) (A.deeper (envOfC qual scope L' f cdv)) (execs body (envOfC qual scope L' f cdv))
        (fun fl s' => R (.ok (.ret (match fl with | .ret v => v | _ => .none))) s')
        (fun e s' => wpAny (model prog w) (A.deeper (envOfC qual scope L' f cdv)) (leaving (envOfC qual scope L' f cdv) e) (fun _ s'' => R (.error e) s'') (fun e' s'' => R (.error e') s'') s')
        { s with heap := h₁, toks := tk })
    (hco : scope.isCoroutine = false := by rfl) (hgen : scope.isGenerator = false := by rfl) (hk : scope.kind = .function := by rfl) : codeAny (model prog w) A (.call (.ref f) args) R s := by
  have X := C.X.keeps C.F.keep
  refine codeAny_call_function hroom (X _ _ ho) rfl hco hgen rfl (codeRec_of X hcd) (hbind _ _ _ _ ?_)
  refine wpAny_newFunctionEnv_cells hk (kindsX hkind _) fun env' he s' x => ?_
  subst he
  refine ⟨(C.T.nolimit.keeps C.F.keep).keeps x.toInCall.keep, codeAny_func ?_⟩
  obtain ⟨h₁, tk, rfl, _⟩ := x.done
  have hk₁ := x.toInCall.keep
  obtain ⟨cells, NC, Y⟩ := Cl.news (h₀ := s.heap) (Nat.le_refl _) fun n c hm => ⟨x.cell n c (lookup_of_mem_nodup (cellsFrom_names scope.names 0 (s.heap.objs.size + 1) [] [] rfl ▸ hnd) hm), x.above n c hm⟩
  exact h s.heap s.heap.objs.size h₁ tk cells rfl ⟨x.toInCall.ns, hk₁, Nat.le_refl _⟩ NC Y C.below X (C.T.keeps C.F.keep)
end
end Mine
end
section
open PySem PySem.W PyProof.Rows
namespace Mine
/-- the digits of n to the base 128, the lowest first; none of 0 -/
def digs (n : Nat) : List Int :=
  if h : n = 0 then [] else ((n % 128 : Nat) : Int) :: digs (n / 128)
termination_by n
decreasing_by omega
theorem digs_zero : digs 0 = [] := by rw [digs]; simp
theorem digs_pos {n : Nat} (h : 0 < n) : digs n = ((n % 128 : Nat) : Int) :: digs (n / 128) := by
  rw [digs]; simp [Nat.pos_iff_ne_zero.mp h]
theorem digs_length {k : Nat} : ∀ {n : Nat}, n < 128 ^ k → (digs n).length ≤ k := by
  induction k with
  | zero => intro n h; have : n = 0 := by simpa using h
            subst this; simp [digs_zero]
  | succ k ih =>
    intro n h
    rcases Nat.eq_zero_or_pos n with h0 | h0
    · subst h0; simp [digs_zero]
    · rw [digs_pos h0]
      have : n / 128 < 128 ^ k := by
        rw [Nat.div_lt_iff_lt_mul (by decide)]; rwa [Nat.pow_succ] at h
      simpa using ih this
theorem digs_in : ∀ (n : Nat), ∀ x ∈ digs n, 0 ≤ x ∧ x < 128 := by
  intro n
  induction n using Nat.strongRecOn with
  | ind n ih =>
    rcases Nat.eq_zero_or_pos n with h0 | h0
    · subst h0; simp [digs_zero]
    · rw [digs_pos h0]
      intro x hx
      rcases List.mem_cons.mp hx with rfl | hx
      · omega
      · exact ih _ (by omega) x hx
/-- every octet but the last tells that more come -/
def cont : List Int → List Int
  | [] => []
  | [x] => [x]
  | x :: y :: r => (x + 128) :: cont (y :: r)
theorem cont_length : ∀ L : List Int, (cont L).length = L.length
  | [] => rfl
  | [_] => rfl
  | x :: y :: r => by rw [cont, List.length_cons, cont_length (y :: r)]; rfl
theorem cont_get : ∀ (L : List Int) (i : Nat), i < L.length → (cont L)[i]? = some (if i + 1 < L.length then L.getD i 0 + 128 else L.getD i 0)
  | [], i, h => absurd h (Nat.not_lt_zero _)
  | [x], i, h => by
    have : i = 0 := by simpa using h
    subst this; simp [cont]
  | x :: y :: r, 0, _ => by simp [cont]
  | x :: y :: r, i + 1, h => by
    rw [cont, List.getElem?_cons_succ, cont_get (y :: r) i (by simpa using h)]
    simp
theorem cont_in {L : List Int} (h : ∀ x ∈ L, 0 ≤ x ∧ x < 128) : ∀ x ∈ cont L, 0 ≤ x ∧ x < 256 := by
  induction L with
  | nil => simp [cont]
  | cons a r ih =>
    cases r with
    | nil => intro x hx; have := h x (by simpa [cont] using hx); omega
    | cons b r =>
      intro x hx
      rw [cont] at hx
      rcases List.mem_cons.mp hx with rfl | hx
      · have := h a (by simp); omega
      · exact ih (fun z hz => h z (List.mem_cons_of_mem _ hz)) x hx
/-- what the comprehension of `_law_head` gives -/
theorem cont_range (L : List Int) (n : Int) (hn : n = (L.length : Int)) :
    (rangeKs 0 (n - 0).toNat).map (fun k => if k + 1 < n then L.getD k.toNat 0 + 128 else L.getD k.toNat 0 + 0) = cont L := by
  subst hn
  apply List.ext_getElem?
  intro i
  by_cases hi : i < L.length
  · rw [cont_get L i hi]
    have : ((L.length : Int) - 0).toNat = L.length := by omega
    rw [this]
    simp only [rangeKs, List.map_map, List.getElem?_map, List.getElem?_range hi, Option.map_some, Function.comp]
    have e : ((0 : Int) + (i : Int)).toNat = i := by omega
    rw [e]
    congr 1
    by_cases h2 : i + 1 < L.length
    · rw [if_pos (by omega), if_pos h2]
    · rw [if_neg (by omega), if_neg h2]; simp
  · rw [List.getElem?_eq_none (by simp [rangeKs_length]; omega), List.getElem?_eq_none (by rw [cont_length]; omega)]
/-- the octets of a head -/
def hdL (kind size : Int) : List Int := cont ((kind * 16 + size % 16) :: digs (size / 16).toNat)
theorem hdL_in {kind size : Int} (hk : 0 ≤ kind ∧ kind < 8) : ∀ x ∈ hdL kind size, 0 ≤ x ∧ x < 256 := by
  refine cont_in fun x hx => ?_
  rcases List.mem_cons.mp hx with rfl | hx
  · omega
  · exact digs_in _ x hx
theorem lt_pow {size : Int} (hs : 0 ≤ size ∧ size < 2 ^ 70) : (size / 16).toNat < 128 ^ 10 := by
  have : (128 : Nat) ^ 10 = 1180591620717411303424 := by decide
  rw [this]; omega
theorem hdL_length {kind size : Int} (hs : 0 ≤ size ∧ size < 2 ^ 70) : (hdL kind size).length ≤ 11 := by
  rw [hdL, cont_length, List.length_cons]
  exact Nat.succ_le_succ (digs_length (lt_pow hs))
def Stop (P : Prop) : Prop := P
theorem stop_of {P : Prop} (h : Stop P) : P := h
theorem stop_mk {P : Prop} (h : P) : Stop P := h
end Mine
end
section
open PySem PySem.W PyProof.Rows
namespace Mine
/-- the least distance of j + 1 octets -/
def low : Nat → Int
  | 0 => 0
  | j + 1 => low j + 128 ^ (j + 1)
theorem low_nonneg : ∀ j, 0 ≤ low j
  | 0 => by simp [low]
  | j + 1 => by
    have := low_nonneg j
    have h : (0 : Int) ≤ 128 ^ (j + 1) := Int.pow_nonneg (by decide)
    rw [low]; omega
/-- n rows of the base 128, the highest first -/
def bigs : Nat → Int → List Int
  | 0, _ => []
  | n + 1, r => bigs n (r / 128) ++ [r % 128]
theorem bigs_length : ∀ n r, (bigs n r).length = n
  | 0, _ => rfl
  | n + 1, r => by simp [bigs, bigs_length n]
theorem bigs_in : ∀ n r, ∀ x ∈ bigs n r, 0 ≤ x ∧ x < 128
  | 0, _ => by simp [bigs]
  | n + 1, r => by
    intro x hx
    rcases List.mem_append.mp hx with hx | hx
    · exact bigs_in n _ x hx
    · have : x = r % 128 := by simpa using hx
      omega
theorem bigs_get : ∀ (n : Nat) (r : Int) (i : Nat), i < n → (bigs n r)[i]? = some (r / 128 ^ (n - 1 - i) % 128)
  | 0, _, i, h => absurd h (Nat.not_lt_zero _)
  | n + 1, r, i, h => by
    rw [bigs]
    by_cases hi : i < n
    · rw [List.getElem?_append_left (by rw [bigs_length]; exact hi), bigs_get n _ i hi, Int.ediv_ediv_of_nonneg (by decide)]
      have : n + 1 - 1 - i = (n - 1 - i) + 1 := by omega
      rw [this, Int.pow_succ, Int.mul_comm]
    · have : i = n := by omega
      subst this
      rw [List.getElem?_append_right (by rw [bigs_length]; exact Nat.le_refl _), bigs_length]
      simp
/-- the prefix of a distance's octets: all but the last -/
def front (d : Nat) (acc : List Int) : List Int :=
  if h : d = 0 then acc else front ((d - 1) / 128) ((128 + ((d - 1) % 128 : Nat) : Int) :: acc)
termination_by d
decreasing_by omega
theorem front_zero (acc : List Int) : front 0 acc = acc := by rw [front]; simp
theorem front_pos {d : Nat} (h : 0 < d) (acc : List Int) : front d acc = front ((d - 1) / 128) ((128 + ((d - 1) % 128 : Nat) : Int) :: acc) := by
  rw [front]; simp [Nat.pos_iff_ne_zero.mp h]
theorem front_acc : ∀ (d : Nat) (acc : List Int), front d acc = front d [] ++ acc := by
  intro d
  induction d using Nat.strongRecOn with
  | ind d ih =>
    intro acc
    rcases Nat.eq_zero_or_pos d with h | h
    · subst h; simp [front_zero]
    · rw [front_pos h, front_pos h [], ih _ (by omega), ih _ (by omega) [_], List.append_assoc]; rfl
/-- the octets of a distance -/
def dsL (far : Int) : List Int := front (far.toNat / 128) [far % 128]
def lowN : Nat → Nat
  | 0 => 0
  | j + 1 => lowN j + 128 ^ (j + 1)
theorem low_lowN : ∀ j, low j = (lowN j : Int)
  | 0 => rfl
  | j + 1 => by rw [low, lowN, low_lowN j]; push_cast; rfl
theorem lowN_step : ∀ j, lowN (j + 1) = 128 * (1 + lowN j)
  | 0 => rfl
  | j + 1 => by
    have a : lowN (j + 1 + 1) = lowN (j + 1) + 128 ^ (j + 1 + 1) := rfl
    have b : lowN (j + 1) = lowN j + 128 ^ (j + 1) := rfl
    have c := lowN_step j
    have d : 128 ^ (j + 1 + 1) = 128 ^ (j + 1) * 128 := Nat.pow_succ ..
    omega
theorem front_low : ∀ (j r : Nat), r < 128 ^ (j + 1) → ∀ acc, front (lowN j + r + 1) acc = (bigs (j + 1) (r : Int)).map (128 + ·) ++ acc
  | 0, r, h, acc => by
    rw [front_pos (by omega)]
    have e : (lowN 0 + r + 1 - 1) = r := by simp [lowN]
    have e2 : r / 128 = 0 := by omega
    rw [e, e2, front_zero]
    simp [bigs]
  | j + 1, r, h, acc => by
    rw [front_pos (by omega)]
    have e : lowN (j + 1) + r + 1 - 1 = 128 * (1 + lowN j) + r := by rw [lowN_step]; omega
    rw [e]
    have e1 : (128 * (1 + lowN j) + r) / 128 = lowN j + r / 128 + 1 := by omega
    have e2 : (128 * (1 + lowN j) + r) % 128 = r % 128 := by omega
    rw [e1, e2, front_low j (r / 128) (by rw [Nat.div_lt_iff_lt_mul (by decide)]; rwa [Nat.pow_succ] at h)]
    have s : bigs (j + 1 + 1) (r : Int) = bigs (j + 1) ((r : Int) / 128) ++ [(r : Int) % 128] := rfl
    rw [s, List.map_append, List.append_assoc]
    simp
theorem cont_snoc : ∀ (L : List Int) (x : Int), cont (L ++ [x]) = L.map (128 + ·) ++ [x]
  | [], x => rfl
  | [a], x => by simp [cont, Int.add_comm]
  | a :: b :: r, x => by
    have := cont_snoc (b :: r) x
    simp only [List.cons_append] at this ⊢
    rw [cont, this]; simp [Int.add_comm]
/-- the law's own reckoning of a distance and the chain of octets are one -/
theorem dist_eq (j r : Nat) (h : r < 128 ^ (j + 1)) : cont (bigs (j + 1) (r : Int)) = dsL (low j + r) := by
  rw [bigs, cont_snoc, dsL, low_lowN]
  have t : ((lowN j : Int) + (r : Int)).toNat = lowN j + r := by omega
  rw [t]
  cases j with
  | zero =>
    have : (lowN 0 + r) / 128 = 0 := by simp [lowN]; simpa using h
    rw [this, front_zero]
    simp [lowN, bigs]
  | succ j =>
    rw [lowN_step]
    have e1 : (128 * (1 + lowN j) + r) / 128 = lowN j + r / 128 + 1 := by omega
    have e2 : ((128 * (1 + lowN j) : Nat) + (r : Int)) % 128 = r % 128 := by omega
    rw [e1, e2, front_low j (r / 128) (by rw [Nat.div_lt_iff_lt_mul (by decide)]; rwa [Nat.pow_succ] at h)]
    rfl
/-- what the comprehension of `_law_distance` gives -/
theorem bigs_range (n : Nat) (many r : Int) (hm : many = (n : Int)) :
    (rangeKs 0 (many - 0).toNat).map (fun k => if k + 1 < many then (r.fdiv (128 ^ (many - 1 - k).toNat)).fmod 128 + 128 else (r.fdiv (128 ^ (many - 1 - k).toNat)).fmod 128 + 0) = cont (bigs n r) := by
  subst hm
  apply List.ext_getElem?
  intro i
  by_cases hi : i < n
  · rw [cont_get _ i (by rw [bigs_length]; exact hi)]
    have : ((n : Int) - 0).toNat = n := by omega
    rw [this]
    simp only [rangeKs, List.map_map, List.getElem?_map, List.getElem?_range hi, Option.map_some, Function.comp]
    have e : (((n : Int) - 1) - (0 + (i : Int))).toNat = n - 1 - i := by omega
    have g : (bigs n r).getD i 0 = r / 128 ^ (n - 1 - i) % 128 := by rw [List.getD_eq_getElem?_getD, bigs_get n r i hi]; rfl
    rw [e, g, bigs_length, Int.fdiv_eq_ediv_of_nonneg _ (Int.pow_nonneg (by decide)), Int.fmod_eq_emod_of_nonneg _ (by decide)]
    congr 1
    by_cases h2 : i + 1 < n
    · rw [if_pos (by omega), if_pos h2]
    · rw [if_neg (by omega), if_neg h2]; simp
  · rw [List.getElem?_eq_none (by simp [rangeKs_length]; omega), List.getElem?_eq_none (by rw [cont_length, bigs_length]; omega)]
theorem pow128_ne (k : Nat) : (128 : Int) ^ k ≠ 0 := by
  have : (0 : Int) < 128 ^ k := Int.pow_pos (by decide)
  omega
theorem pow128_log {k : Nat} (hk : k ≤ 1000) : ((128 : Int) ^ k).natAbs.log2 < 9000 := by
  have e : ((128 : Int) ^ k).natAbs = 2 ^ (7 * k) := by
    rw [Int.natAbs_pow]; show 128 ^ k = _; rw [Nat.pow_mul]
  rw [e, Nat.log2_two_pow]; omega
section
variable {prog : Program} {w : World} {A : Around} {E : Value → Shared → Prop} {s : Shared}
theorem fd_pow {a : Int} {k : Nat} {t u : Tok} {Q : Value → Shared → Prop} (hk : k ≤ 1000) (h : Q (.int (a.fdiv (128 ^ k)) s.toks) { s with toks := s.toks + 1 }) :
    wpAny (model prog w) A (binaryOp .FloorDiv (.int a t) (.int (128 ^ k) u)) Q E s :=
  floordiv_int (pow128_ne k) h (Or.inl (PyProof.noPylong_of_log2 (pow128_log hk)))
end
theorem low_room {j : Nat} {far : Int} (h : low j + 128 ^ (j + 1) ≤ far) (hf : far < 2 ^ 70) : j ≤ 8 := by
  rcases Nat.lt_or_ge 8 j with hj | hj
  · exfalso
    have h1 : (128 : Nat) ^ 10 ≤ 128 ^ (j + 1) := Nat.pow_le_pow_right (by decide) (by omega)
    have h2 : ((128 ^ (j + 1) : Nat) : Int) = (128 : Int) ^ (j + 1) := by push_cast; rfl
    have h3 : (128 : Nat) ^ 10 = 1180591620717411303424 := by decide
    have := low_nonneg j
    omega
  · exact hj
end Mine
end
section
open PySem PySem.W PyProof.Rows
namespace Mine
theorem and_127 (x : Int) : Builtin.bitAnd x 127 = x % 128 := kbt_mask x 7
theorem and_15 (x : Int) : Builtin.bitAnd x 15 = x % 16 := kbt_mask x 4
theorem and_128 (x : Int) : Builtin.bitAnd x 128 = (x / 128 % 2) * 128 := kbt_bit x 7
theorem or_128 {c : Int} (h : 0 ≤ c ∧ c < 128) : Builtin.bitOr c 128 = c + 128 := by
  rw [bitOr_and, and_128]; omega
theorem or_128' {c : Int} (h : 0 ≤ c ∧ c < 128) : Builtin.bitOr 128 c = 128 + c := by
  rw [bitOr_comm, or_128 h]; omega
theorem or_first_aux : ∀ k < 8, ∀ b < 16, Builtin.bitOr (((k : Nat) : Int) * 2 ^ Int.toNat 4) ((b : Nat) : Int) = (k : Int) * 16 + b := by decide +kernel
theorem or_first {kind size : Int} (hk : 0 ≤ kind ∧ kind < 8) : Builtin.bitOr (kind * 2 ^ Int.toNat 4) (Builtin.bitAnd size 15) = kind * 16 + size % 16 := by
  rw [and_15]
  have h := or_first_aux kind.toNat (by omega) (size % 16).toNat (by omega)
  have e1 : ((kind.toNat : Nat) : Int) = kind := by omega
  have e2 : (((size % 16).toNat : Nat) : Int) = size % 16 := by omega
  rw [e1, e2] at h
  exact h
theorem cont_more (c : Int) {n : Nat} (h : 0 < n) : cont (c :: digs n) = (c + 128) :: cont (((n % 128 : Nat) : Int) :: digs (n / 128)) := by
  rw [digs_pos h, cont]
theorem fdiv_pow (x : Int) (k : Nat) : x.fdiv (2 ^ k) = x / 2 ^ k := Int.fdiv_eq_ediv_of_nonneg _ (Int.pow_nonneg (by decide))
theorem fdiv_16 (x : Int) : x.fdiv (2 ^ Int.toNat 4) = x / 16 := fdiv_pow x 4
theorem fdiv_128 (x : Int) : x.fdiv (2 ^ Int.toNat 7) = x / 128 := fdiv_pow x 7
end Mine
namespace Mine
theorem front_length : ∀ (k : Nat) {d : Nat}, d < 128 ^ k → (front d []).length ≤ k
  | 0, d, h => by
    have : d = 0 := by simpa using h
    subst this; rw [front_zero]; exact Nat.le_refl _
  | k + 1, d, h => by
    rcases Nat.eq_zero_or_pos d with h0 | h0
    · subst h0; rw [front_zero]; exact Nat.zero_le _
    · rw [front_pos h0, front_acc, List.length_append]
      have h2 : (d - 1) / 128 < 128 ^ k := by
        rw [Nat.div_lt_iff_lt_mul (by decide)]; rw [Nat.pow_succ] at h; omega
      have := front_length k h2
      simp only [List.length_cons, List.length_nil]; omega
theorem dsL_length {far : Int} (hf : 0 ≤ far ∧ far < 2 ^ 70) : (dsL far).length ≤ 10 := by
  rw [dsL, front_acc, List.length_append]
  have h2 : far.toNat / 128 < 128 ^ 9 := by
    have : (128 : Nat) ^ 9 = 9223372036854775808 := by decide
    rw [this]; omega
  have := front_length 9 h2
  simp only [List.length_cons, List.length_nil]; omega
theorem front_le {d : Nat} {R : List Int} : R.length ≤ (front d R).length := by
  rw [front_acc, List.length_append]; omega
theorem front_in : ∀ (d : Nat), ∀ x ∈ front d [], 128 ≤ x ∧ x < 256 := by
  intro d
  induction d using Nat.strongRecOn with
  | ind d ih =>
    rcases Nat.eq_zero_or_pos d with h0 | h0
    · subst h0; simp [front_zero]
    · rw [front_pos h0, front_acc]
      intro x hx
      rcases List.mem_append.mp hx with hx | hx
      · exact ih _ (by omega) x hx
      · have := List.mem_singleton.mp hx
        omega
theorem dsL_in {far : Int} : ∀ x ∈ dsL far, 0 ≤ x ∧ x < 256 := by
  rw [dsL, front_acc]
  intro x hx
  rcases List.mem_append.mp hx with hx | hx
  · have := front_in _ x hx; omega
  · have := List.mem_singleton.mp hx
    omega
end Mine
end
section
open PySem PySem.W PyProof.Rows PySem.Spec PySem.Calls
open PySem.Sem (wp)
set_option Elab.async false
set_option maxRecDepth 100000
namespace Mine
/-- a context whose stack holds none of them -/
def Clean (Γ : PySem.Ctx) : Prop := badCode Γ.code = false ∧ ∀ x ∈ Γ.below, badCode x.1 = false
def CleanB (Γ : PySem.Ctx) : Prop := ∀ x ∈ Γ.below, badCode x.1 = false
/-- as wpAny, over clean contexts alone -/
def wpP {α : Type} (M : Model) (A : Around) (t : Sem α) (Q : α → Shared → Prop) (E : Value → Shared → Prop) (s : Shared) : Prop :=
  ∀ Γ p, Γ.In A → Clean Γ → wp M Γ t (fun a _ s' => Q a s') (fun e _ s' => E e s') p s
def codeP (M : Model) (A : Around) (c : Code) (R : Result → Shared → Prop) (s : Shared) : Prop :=
  ∀ Γ p, Γ.code = c → Γ.Below A → CleanB Γ → wpCode M Γ R p s
section
variable {α β : Type} {M : Model} {A : Around} {E : Value → Shared → Prop} {s : Shared}
theorem wpP_of {t : Sem α} {Q : α → Shared → Prop} (h : wpAny M A t Q E s) : wpP M A t Q E s := fun Γ p hΓ _ => h Γ p hΓ
theorem wpP_pure {a : α} {Q : α → Shared → Prop} (h : Q a s) : wpP M A (pure a) Q E s := fun _ _ _ _ => h
theorem wpP_mono {t : Sem α} {Q Q' : α → Shared → Prop} {E' : Value → Shared → Prop} (h : wpP M A t Q E s)
    (hQ : ∀ a s, Q a s → Q' a s) (hE : ∀ e s, E e s → E' e s) : wpP M A t Q' E' s :=
  fun Γ p hΓ hc => Sem.wp_mono M Γ t (fun a _ s => hQ a s) (fun e _ s => hE e s) p s (h Γ p hΓ hc)
theorem wpP_bind {m : Sem α} {f : α → Sem β} {Q : β → Shared → Prop} (h : wpP M A m (fun a s' => wpP M A (f a) Q E s') E s) :
    wpP M A (m >>= f) Q E s := fun Γ p hΓ hc => by
  rw [Sem.wp_bind']
  exact Sem.wp_mono M Γ m (fun a p' s' h' => h' Γ p' hΓ hc) (fun _ _ _ h' => h') p s (h Γ p hΓ hc)
theorem wpP_holding {vs : List Value} {m : Sem α} {Q : α → Shared → Prop} (h : wpP M A m Q E s) : wpP M A (holding vs m) Q E s :=
  fun Γ p hΓ hc => by rw [Sem.wp_holding]; exact h Γ p hΓ hc
theorem wpP_standAt {pos : Pos} {Q : Unit → Shared → Prop} (h : Q () s) : wpP M A (standAt pos) Q E s := fun _ _ _ _ => h
theorem wpP_of_eq {t : Sem α} {a : α} {Q : α → Shared → Prop} (e : t = pure a) (h : Q a s) : wpP M A t Q E s := by rw [e]; exact wpP_pure h
theorem wpP_onRaise {m : Sem α} {k : Value → Sem Unit} {Q : α → Shared → Prop}
    (h : wpP M A m Q (fun e s' => wpP M A (k e) (fun _ s'' => E e s'') E s') s) : wpP M A (m.onRaise k) Q E s := fun Γ p hΓ hc => by
  rw [Sem.wp_onRaise]
  exact Sem.wp_mono M Γ m (fun _ _ _ h' => h') (fun e p' s' h' => h' Γ p' hΓ hc) p s (h Γ p hΓ hc)
theorem cleanB_enter {Γ : PySem.Ctx} (h : Clean Γ) (c : Code) (hd : Option Value) (p : Pos) : CleanB (Γ.enter c hd p) := fun x hx => by
  rcases List.mem_cons.mp hx with rfl | hx
  · exact h.1
  · exact h.2 x hx
theorem wpP_run {c : Code} {Q : Flow → Shared → Prop}
    (hc : codeP M (A.mark none) c (fun r s' => match r with | .ok f => Q f s' | .error e => E e s') s) : wpP M A (run c none) Q E s :=
  fun Γ p hΓ hcl => by rw [Sem.wp_run]; exact hc _ p rfl (hΓ.enter c none p (by intro x; cases x)) (cleanB_enter hcl _ _ _)
theorem wpP_call {f : Value} {pos : List Value} {kw : List (Str × Value)} {Q : Value → Shared → Prop}
    (hc : codeP M A (.call f ⟨pos, kw⟩) (fun r s' => match r with | .ok (.ret v) => Q v s' | .ok _ => False | .error e => E e s') s) :
    wpP M A (call f pos kw) Q E s := fun Γ p hΓ hcl => by
  show wp M Γ (runValue _) _ _ _ _
  rw [Sem.wp_runValue]; exact hc _ p rfl (hΓ.enter _ none p (by intro x; cases x)) (cleanB_enter hcl _ _ _)
theorem codeP_of_tree {c : Code} {R : Result → Shared → Prop} (hb : badCode c = false)
    (h : wpP M (A.under c) (M.den c) (fun fin s' => match fin with | .done f => R (.ok f) s' | .again c' => c'.quiet = true ∧ codeP M A c' R s')
      (fun e s' => R (.error e) s') s) : codeP M A c R s := fun Γ p hc hΓ hcl => by
  rw [wpCode_iff_wp, hc]
  refine Sem.wp_mono M Γ _ (fun fin p' s' h' => ?_) (fun _ _ _ h' => h') p s (h Γ p (hc ▸ hΓ.in) ⟨by rw [hc]; exact hb, hcl⟩)
  cases fin with
  | done f => exact h'
  | again c' => exact ⟨h'.1, h'.2 (Γ.goto c') p' rfl (hΓ.goto c') hcl⟩
theorem codeP_of {c : Code} {R : Result → Shared → Prop} (h : codeAny M A c R s) : codeP M A c R s := fun Γ p hc hΓ _ => h Γ p hc hΓ
theorem codeP_mono {c : Code} {R R' : Result → Shared → Prop} (h : codeP M A c R s) (hR : ∀ r s, R r s → R' r s) : codeP M A c R' s :=
  fun Γ p hc hΓ hcl => wpCode_mono hR (h Γ p hc hΓ hcl)
/-- a look at the stack that asks for the bad built-ins alone finds none -/
theorem wpP_stackAny {f : Code × Pos → Bool} {Q : Bool → Shared → Prop} (hf : ∀ c p, badCode c = false → f (c, p) = false) (h : Q false s) :
    wpP M A (do return (← stack).any f) Q E s := fun Γ p _ hcl => by
  show Q (((Γ.code, p) :: Γ.below).any f) s
  have e : ((Γ.code, p) :: Γ.below).any f = false := by
    rw [List.any_cons, hf _ _ hcl.1, Bool.false_or, List.any_eq_false]
    intro x hx
    have := hf x.1 x.2 (hcl.2 x hx)
    simpa using this
  rw [e]; exact h
section
variable {env : Env}
theorem wpP_execs_nil {Q : Flow → Shared → Prop} (h : Q .next s) : wpP M A (execs [] env) Q E s := wpP_of (wpAny_execs_nil h)
theorem wpP_execs_cons {st : Stmt} {rest : List Stmt} {Q : Flow → Shared → Prop}
    (h : wpP M A (exec st env) (fun f s' => match f with | .next => wpP M A (execs rest env) Q E s' | f => Q f s') E s) :
    wpP M A (execs (st :: rest) env) Q E s := fun Γ p hΓ hcl => by
  rw [execs_cons, Sem.wp_bind']
  refine Sem.wp_mono M Γ _ (fun f p' s' h' => ?_) (fun _ _ _ h' => h') _ _ (h Γ p hΓ hcl)
  cases f <;> first | exact h' Γ p' hΓ hcl | exact h'
theorem execs_app : ∀ (pre rest : List Stmt), execs (pre ++ rest) env = (execs pre env >>= fun f => match f with | .next => execs rest env | f => pure f)
  | [], rest => rfl
  | st :: pre, rest => by
    rw [List.cons_append, execs_cons, execs_cons, bind_assoc]
    congr 1
    funext f
    cases f with
    | next => exact execs_app pre rest
    | _ => rfl
theorem wpP_execs_append {pre rest : List Stmt} {Q : Flow → Shared → Prop}
    (h : wpP M A (execs pre env) (fun f s' => match f with | .next => wpP M A (execs rest env) Q E s' | f => Q f s') E s) : wpP M A (execs (pre ++ rest) env) Q E s := by
  rw [execs_app]
  refine wpP_bind (wpP_mono h (fun f s' h' => ?_) fun _ _ e => e)
  cases f with
  | next => exact h'
  | _ => exact wpP_pure h'
theorem wpP_execs_split (n : Nat) {body : List Stmt} {Q : Flow → Shared → Prop}
    (h : wpP M A (execs (body.take n) env) (fun f s' => match f with | .next => wpP M A (execs (body.drop n) env) Q E s' | f => Q f s') E s) : wpP M A (execs body env) Q E s := by
  have e := List.take_append_drop n body
  rw [← e]
  exact wpP_execs_append h
theorem wpP_If {test : Expr} {body orelse : List Stmt} {pos : Pos} {Q : Flow → Shared → Prop}
    (h : wpP M A (isTrue test env (eval test env))
      (fun b s₂ => if b then wpP M A (execs body env) Q E s₂ else wpP M A (execs orelse env) Q E s₂) E s) :
    wpP M A (exec (.If test body orelse pos) env) Q E s := fun Γ p hΓ hcl => by
  simp only [exec_If, Sem.wp_bind', Sem.wp_cmd_standAt]
  refine Sem.wp_mono M Γ _ (fun b p₂ s₂ h₂ => ?_) (fun _ _ _ h' => h') _ _ (h Γ _ hΓ hcl)
  cases b <;> exact h₂ Γ p₂ hΓ hcl
theorem wpP_Return_some {e : Expr} {pos : Pos} {Q : Flow → Shared → Prop} (h : wpP M A (eval e env) (fun v => Q (.ret v)) E s) :
    wpP M A (exec (.Return (some e) pos) env) Q E s := fun Γ p hΓ hcl => by
  simp only [exec_Return_some, Sem.wp_bind', Sem.wp_cmd_standAt, Sem.wp_pure']; exact h Γ _ hΓ hcl
end
end
section
variable {prog : Program} {w : World} {A : Around} {s : Shared} {R : Result → Shared → Prop}
theorem codeP_func {body : List Stmt} {env : Env}
    (h : wpP (model prog w) (A.deeper env) (execs body env) (fun f s' => R (.ok (.ret (match f with | .ret v => v | _ => .none))) s') (fun _ _ => False) s) :
    codeP (model prog w) A (.func body env) R s := by
  refine codeP_of_tree rfl ?_
  show wpP _ (A.deeper env) (do point; match ← (execs body env).onRaise (leaving env) with | .ret v => ret v | _ => ret .none) _ _ s
  refine wpP_bind (wpP_of (wpAny_point ?_))
  refine wpP_bind (wpP_onRaise (wpP_mono h (fun f s' h' => ?_) fun _ _ h' => h'.elim))
  cases f <;> exact wpP_pure h'
theorem codeP_call_function {a : Addr} {args : Args} {o : Obj} {fd : FuncData} {body : List Stmt} (hroom : A.depth < recursionLimit)
    (ho : s.heap.get? a = some o) (hd' : o.data = .func fd) (hco : fd.scope.isCoroutine = false) (hgen : fd.scope.isGenerator = false) (hbody : fd.body = .stmts body) (hcd : s.heap.CodeRec fd.code fd.qualname)
    (h : wpAny (model prog w) A.in1 (bindArgs fd args) (fun binds s₁ =>
      wpAny (model prog w) A.in1 (newFunctionEnv fd.scope fd.globals fd.closure binds (fd.qualname ++ ".<locals>.") (some a) fd.code none fd.builtins)
        (fun env s₂ => s₂.heap.NoLimit ∧ codeP (model prog w) A (.func body env) R s₂) (fun _ _ => False) s₁) (fun _ _ => False) s) :
    codeP (model prog w) A (.call (.ref a) args) R s := by
  refine codeP_of_tree rfl (wpP_of ?_)
  show wpAny _ A.in1 (callAny (.ref a) args) _ _ s
  simp only [callAny]
  refine wpAny_bind (wpAny_load ho ?_)
  obtain ⟨c, oc, vs, tq, hc, hoc, hdc, hq⟩ := hcd
  simp only [hd', callFunction, hco, hgen, hbody, hc]
  rw [hc] at h
  refine wpAny_bind (m := field (.ref c) 1) (wpAny_field hoc hdc hq (wpAny_bind (wpAny_pure ?_)))
  exact wpAny_bind (wpAny_mono h (fun binds s₁ h₁ => wpAny_bind (wpAny_mono h₁ (fun env s₂ h₂ => wpAny_bind (wpAny_enterFrame h₂.1 hroom
    (wpAny_pure (And.intro rfl h₂.2)))) fun _ _ h' => h'.elim)) fun _ _ h' => h'.elim)
end
section
variable {prog : Program} {w : World} {mean : ExcName → Option Value} {mg mb : Str → Option Value} {A A₀ : Around} {base h₀ : Heap} {outer : List Env} {env : Env} {L : Addr} {m : Str → Option Value} {s : Shared}
  {R : Result → Shared → Prop} {name qual : Str} {params : Arguments} {body : List Stmt} {scope : Scope} {dV kV doc pm cdv ct oc : Value} {an od : Option Addr} {osl : Array (Option Value)} {f : Addr} {args : Args} {binds : List (Str × Value)}
theorem call_plainP (C : At w mean mg mb A A₀ base h₀ outer env L m s.heap)
    (ho : (Mine.hd.heap_39 w.params).lookup f = some ⟨oc, od, .func (fnOf name qual params body scope dV kV doc pm an cdv ct), osl⟩) (hcd : codeIn (Mine.hd.heap_39 w.params) cdv qual = true) (hroom : A.depth < recursionLimit)
    (hbind : BindsTo s (fnOf name qual params body scope dV kV doc pm an cdv ct) args binds) (hloc : ∀ y ∈ binds, scope.names.lookup y.1 = some .local)
    (h : ∀ g L' h₁, g = s.heap → Fr g L' h₁ (fun y => binds.reverse.lookup y) → News g L' h₁ [] → Below A base (env :: outer) g → (Mine.hd.heap_39 w.params).In g → Top Mine.hd.view_39 (looseW Mine.hd.view_39 [Str.ofString "ApplyDeltaError"]) mean mg mb g →
      wpP (model prog w) (A.deeper (envOf qual scope L' f cdv)) (execs body (envOf qual scope L' f cdv))
        (fun fl s' => R (.ok (.ret (match fl with | .ret v => v | _ => .none))) s') (fun _ _ => False)
        { s with heap := h₁, toks := s.toks + binds.length })
    (hco : scope.isCoroutine = false := by rfl) (hgen : scope.isGenerator = false := by rfl) (hk : scope.kind = .function := by rfl)
    (hcell : ∀ x ∈ scope.names, x.2 ≠ .cell := by decide) : codeP (model prog w) A (.call (.ref f) args) R s := by
  have X := C.X.keeps C.F.keep
  refine codeP_call_function hroom (X _ _ ho) rfl hco hgen rfl (codeRec_of X hcd) (hbind _ _ _ _ ?_)
  refine wpAny_newFunctionEnv hcell hloc (fun h₁ hns hsb => ⟨(C.T.nolimit.keeps C.F.keep).fresh _ hsb, codeP_func ?_⟩) hk
  exact h s.heap s.heap.objs.size h₁ rfl ⟨hns, fun b o e => hsb.extBut b o (Nat.ne_of_lt (Heap.lt_size e)) (Heap.get?_push_of_some _ e), Nat.le_refl _⟩ News.nil C.below X (C.T.keeps C.F.keep)
end
section
variable {M : Model} {A : Around} {E : Value → Shared → Prop} {s : Shared} {env : Env}
theorem wpP_Compare1 {l r : Expr} {op : CmpOp} {pos : Pos} {whole : Sem Value} {Q : Bool → Shared → Prop}
    (h : wpP M A (eval l env) (fun a s₁ => wpAny M A (eval r env) (fun b s₂ => wpAny M A (compareOp op a b)
      (fun c s₃ => wpAny M A (truthy c) Q E s₃) E s₂) E s₁) E s)
    (hm : behindInMarks op r = false := by with_unfolding_all rfl) : wpP M A (isTrue (.Compare l [op] [r] pos) env whole) Q E s := fun Γ p hΓ hcl => by
  simp only [isTrue_Compare1, markedBehindIn_of_false hm, Sem.wp_bind', Sem.wp_holding, Sem.wp_cmd_standAt, Sem.wp_operate]
  exact Sem.wp_mono M Γ _ (fun a p₁ s₁ h₁ => Sem.wp_mono M Γ _ (fun b _ s₂ h₂ => Sem.wp_mono M Γ _ (fun c p₃ s₃ h₃ => h₃ Γ p₃ hΓ)
    (fun _ _ _ h' => h') _ _ (h₂ Γ _ hΓ)) (fun _ _ _ h' => h') _ _ (h₁ Γ p₁ hΓ)) (fun _ _ _ h' => h') _ _ (h Γ p hΓ hcl)
theorem wpP_Call {func : Expr} {args : List Expr} {pos : Pos} {Q : Value → Shared → Prop}
    (h : wpAny M A (eval func env) (fun f s₁ => wpP M A (callWith pos f [] (backTo pos (starEach args env)) []) Q E s₁) E s)
    (he : eval (.Call func args [] pos) env = (do callWith pos (← eval func env) [] (backTo pos (starEach args env)) (backToKw pos (keywordEach [] env))) := by rfl) :
    wpP M A (eval (.Call func args [] pos) env) Q E s := by
  rw [he]; exact wpP_bind (wpP_of h)
theorem spliced_oneP {x : Sem Value} {Q : List Value → Shared → Prop} (h : wpP M A x (fun v s₁ => Q [v] s₁) E s) : wpP M A (spliced [(false, x)]) Q E s := by
  rw [spliced]
  refine wpP_bind (wpP_mono h (fun v s₁ h₁ => ?_) fun _ _ x => x)
  simp only [Bool.false_eq_true, if_false]
  exact wpP_bind (wpP_pure (wpP_bind (wpP_holding (wpP_pure (wpP_pure h₁)))))
theorem evalArgs_plainP {f : Value} {x : Sem Value} {rest : List (Bool × Sem Value)} {Q : Args → Shared → Prop}
    (h : wpP M A (spliced ((false, x) :: rest)) (fun vs s' => Q ⟨vs, []⟩ s') E s) : wpP M A (evalArgs f true ((false, x) :: rest) []) Q E s := by
  unfold evalArgs
  show wpP M A (spliced ((false, x) :: rest) >>= _) Q E s
  refine wpP_bind (wpP_mono h (fun vs s' h' => ?_) fun _ _ x => x)
  refine wpP_holding ?_
  exact wpP_bind (wpP_pure (wpP_bind (wpP_pure (wpP_pure h'))))
theorem wpP_keep {α : Type} {vs : List Value} {t : Sem α} {Q : α → Shared → Prop} (h : wpP M A t Q E s) : wpP M A (t.keep vs) Q E s := fun Γ p hΓ hcl => by
  rw [Sem.wp_keep]; exact h Γ p hΓ hcl
theorem back_one {e : Expr} {pos : Pos} (he : starEach [e] env = [(false, eval e env)]) : backTo pos (starEach [e] env) = [(false, eval e env)] := by rw [he]; rfl
theorem callWith_type1P {pos : Pos} {T : String} {e : Expr} {Q : Value → Shared → Prop}
    (h : wpP M A (eval e env) (fun v s₁ => wpP M A (call (.type T) [v]) Q E s₁) E s)
    (he : starEach [e] env = [(false, eval e env)] := by rfl) :
    wpP M A (callWith pos (.type T) [] (backTo pos (starEach [e] env)) []) Q E s := by
  rw [back_one he]
  unfold callWith
  refine wpP_bind (wpP_holding (evalArgs_plainP (spliced_oneP (wpP_mono h (fun v s₁ h₁ => wpP_bind (wpP_standAt ?_)) fun _ _ x => x))))
  simp only [List.any_cons, List.any_nil, Bool.or_false]
  refine wpP_bind (wpP_pure ?_)
  exact wpP_bind (wpP_mono h₁ (fun r s₂ hr => wpP_bind (wpP_holding (wpP_of (wpAny_point (wpP_pure hr))))) fun _ _ x => x)
theorem callWith_refP {K : Frag} {pos : Pos} {f : Value} {e : Expr} {rest : List Expr} {Q : Value → Shared → Prop} (hk : keepIn K f = true)
    (h : wpAny M A (spliced (backTo pos (starEach (e :: rest) env))) (fun vs s₁ => K.In s₁.heap ∧ wpP M A (call f vs) Q E s₁) E s)
    (he : starEach (e :: rest) env = (false, eval e env) :: starEach rest env := by rfl) (hplain : (backTo pos (starEach rest env)).any (·.1) = false := by rfl) :
    wpP M A (callWith pos f [] (backTo pos (starEach (e :: rest) env)) []) Q E s := by
  rw [he] at h ⊢
  have hp : ((backTo pos ((false, eval e env) :: starEach rest env)).any (·.1) || ([] : List (Option Str × Sem Value)).any (·.1.isNone)) = false := by
    show ((false || (backTo pos (starEach rest env)).any (·.1)) || false) = false; rw [hplain]; rfl
  unfold callWith
  refine wpP_bind (wpP_holding (wpP_of (evalArgs_plain (wpAny_mono h (fun vs s₁ h₁ => wpP_bind (wpP_standAt ?_)) fun _ _ x => x))))
  obtain ⟨k, hk', L⟩ := keeps_K (M := M) hk _ h₁.1
  have h2 := h₁.2
  simp only [hp]
  refine wpP_bind (wpP_of (L.here ?_))
  have tail : ∀ {t : Sem Value}, wpP M A t Q E s₁ → wpP M A (t >>= fun r => holding [r] point >>= fun _ => pure r) Q E s₁ :=
    fun ht => wpP_bind (wpP_mono ht (fun r s₂ hr => wpP_bind (wpP_holding (wpP_of (wpAny_point (wpP_pure hr))))) fun _ _ x => x)
  have marked (mk : Value) : wpP M A (callMarked mk f ([] ++ vs) []) Q E s₁ := by unfold callMarked; exact wpP_keep h2
  rcases hk' with rfl | rfl | rfl <;> dsimp only <;> first | exact tail h2 | (split <;> first | exact tail h2 | exact tail (marked _))
end
section
variable {prog : Program} {w : World} {A : Around} {E : Value → Shared → Prop} {s : Shared} {env : Env} {R : Result → Shared → Prop}
theorem wpP_For {target iter : Expr} {body orelse : List Stmt} {pos : Pos} {Q : Flow → Shared → Prop}
    (h : wpAny (model prog w) A (eval iter env) (fun x s₁ => wpAny (model prog w) A (pyIter x) (fun it s₂ =>
      codeP (model prog w) A (.forLoop target it body orelse env) (fun r s' => match r with | .ok f => Q f s' | .error _ => False) s₂) E s₁) E s)
    (hs : ∀ x, foldedSetIterable iter env x = pure x := by intro _; rfl) :
    wpP (model prog w) A (exec (.For target iter body orelse pos) env) Q E s := by
  rw [exec_For]
  refine wpP_bind (wpP_standAt (wpP_bind (wpP_of (wpAny_mono h (fun x s₁ h₁ => ?_) fun _ _ e => e))))
  refine wpP_bind (wpP_of_eq (hs x) (wpP_bind (wpP_standAt (wpP_bind (wpP_holding (wpP_of (wpAny_mono h₁ (fun it s₂ h₂ => ?_) fun _ _ e => e)))))))
  unfold runOwn
  refine wpP_onRaise (wpP_mono (wpP_run (E := fun _ _ => False) (codeP_mono h₂ fun r s' hr => ?_)) (fun _ _ x => x) fun _ _ x => x.elim)
  cases r <;> exact hr
theorem codeP_forTurn {target : Expr} {it : Value} {body : List Stmt}
    (h : wpAny (model prog w) A (pyNext it) (fun r s₁ => match r with
      | none => R (.ok .next) s₁
      | some v => wpAny (model prog w) A (assign target env v) (fun _ s₂ => wpP (model prog w) A (execs body env) (fun f s₃ => match f with
          | .next | .cont => codeP (model prog w) A (.forLoop target it body [] env) R s₃
          | .brk => R (.ok .next) s₃
          | .ret v => R (.ok (.ret v)) s₃) (fun _ _ => False) s₂) (fun _ _ => False) s₁) (fun _ _ => False) s)
    (ht : ∀ v, letOwnedTupleGo target it v = pure () := by intro _; rfl) : codeP (model prog w) A (.forLoop target it body [] env) R s := by
  refine codeP_of_tree rfl ?_
  rw [Around.under_of_weight (show (Code.forLoop target it body [] env).weight = 0 from rfl)]
  show wpP _ _ ((forTurn target it body [] env).onRaise (fun x => do noteFrame x env; theTreesLotGoes x)) _ _ s
  refine wpP_onRaise (wpP_mono (E := fun _ _ => False) ?_ (fun _ _ x => x) fun _ _ x => x.elim)
  simp only [forTurn]
  refine wpP_bind (wpP_standAt (wpP_bind (wpP_onRaise (wpP_mono (E := fun _ _ => False) (wpP_of (wpAny_mono h (fun r s₁ h₁ => ?_) fun _ _ h' => h')) (fun _ _ x => x) fun _ _ x => x.elim))))
  cases r with
  | none =>
    refine wpP_pure ⟨rfl, codeP_of (codeAny_of_tree ?_)⟩
    rw [Around.under_of_weight (show (Code.block [] env).weight = 0 from rfl)]
    exact wpAny_bind (wpAny_onRaise (wpAny_execs_nil (wpAny_pure h₁)))
  | some v =>
    refine wpP_bind (wpP_of_eq (ht v) ?_)
    refine wpP_bind (wpP_of (wpAny_mono h₁ (fun _ s₂ h₂ => wpP_bind (wpP_mono h₂ (fun f s₃ h₃ => ?_) fun _ _ h' => h')) fun _ _ h' => h'))
    cases f with
    | next => exact wpP_pure ⟨rfl, h₃⟩
    | cont => exact wpP_pure ⟨rfl, h₃⟩
    | brk => exact wpP_pure h₃
    | ret v => exact wpP_pure h₃
theorem codeP_forList {target : Expr} {it : Value} {body : List Stmt} (J : Nat → Shared → Prop) (n : Nat)
    (turn : ∀ i s, i < n → J i s → wpAny (model prog w) A (pyNext it) (fun r s₁ => ∃ v, r = some v ∧ wpAny (model prog w) A (assign target env v) (fun _ s₂ =>
      wpP (model prog w) A (execs body env) (fun f s₃ => f = .next ∧ J (i + 1) s₃) (fun _ _ => False) s₂) (fun _ _ => False) s₁) (fun _ _ => False) s)
    (fin : ∀ s, J n s → wpAny (model prog w) A (pyNext it) (fun r s₁ => r = none ∧ R (.ok .next) s₁) (fun _ _ => False) s)
    (ht : ∀ v, letOwnedTupleGo target it v = pure () := by intro _; rfl) :
    ∀ (k i : Nat) (s : Shared), n - i = k → i ≤ n → J i s → codeP (model prog w) A (.forLoop target it body [] env) R s := by
  intro k
  induction k with
  | zero =>
    intro i s hk hi hJ
    have : i = n := by omega
    subst this
    refine codeP_forTurn (wpAny_mono (fin s hJ) (fun r s₁ h₁ => ?_) fun _ _ e => e) ht
    obtain ⟨rfl, h₁⟩ := h₁
    exact h₁
  | succ k ih =>
    intro i s hk hi hJ
    refine codeP_forTurn (wpAny_mono (turn i s (by omega) hJ) (fun r s₁ h₁ => ?_) fun _ _ e => e) ht
    obtain ⟨v, rfl, h₁⟩ := h₁
    refine wpAny_mono h₁ (fun _ s₂ h₂ => wpP_mono h₂ (fun f s₃ h₃ => ?_) fun _ _ e => e) fun _ _ e => e
    obtain ⟨rfl, h₃⟩ := h₃
    exact ih (i + 1) s₃ (by omega) (by omega) h₃
end
end Mine
end
section
open PySem PySem.W PyProof.Rows PySem.Spec PySem.Calls
open PySem.Sem (wp)
set_option Elab.async false
set_option maxRecDepth 100000
set_option maxHeartbeats 4000000
namespace Mine
namespace Ba
theorem mro : mroOf (.type "bytearray") = pure [.type "bytearray", .type "object"] := by rw [mroOf_type]; kernel_rfl
theorem lookup_new : typeLookup (.type "bytearray") "__new__" = pure (some (.builtin "bytearray.__new__")) := by rw [typeLookup_type, builtinLookup_eq_fast]; kernel_rfl
theorem slot_init : Slot "bytearray" "__init__" "bytearray.__init__" :=
  .of (owner := "bytearray") (n := "__init__") (by rw [typeLookup_type, builtinLookup_eq_fast]; kernel_rfl) (by decide +kernel) (by decide +kernel) (by decide +kernel)
    (by first | exact .inl (by decide +kernel) | exact .inr (by decide +kernel)) (by rw [isSubtype_type]; kernel_rfl)
theorem called : TypeCalled "bytearray" "bytearray.__new__" "bytearray.__init__" :=
  ⟨by decide +kernel, by decide +kernel, ⟨_, _, mro⟩, madeBy_type mro lookup_new (by decide +kernel), by decide +kernel, by rw [isSubtype_type]; kernel_rfl, slot_init⟩
theorem typeCall (a : Value) : checkTypeCall "bytearray" ⟨[a], []⟩ = pure () := by kernel_rfl
theorem newCall (a : Value) : checkBuiltinCall "bytearray.__new__" ⟨[.type "bytearray", a], []⟩ = pure () := by kernel_rfl
theorem plain_new : plainId "bytearray.__new__" = true := by decide +kernel
theorem plain_init : plainId "bytearray.__init__" = true := by decide +kernel
theorem entry_new : entryFor table "bytearray.__new__" = some Builtin.«list.__new__» := entryFor_alias (id' := "list.__new__") (by kernel_rfl) rfl (by decide +kernel) (by kernel_rfl)
theorem entry_init : entryFor table "bytearray.__init__" = some Builtin.«bytearray.__init__» := by first | exact entryFor_of_fast (by kernel_rfl) | exact entryFor_of_tree (by kernel_rfl)
theorem args_init (a b : Value) : argsOk "bytearray.__init__" ⟨[a, b], []⟩ := by unfold argsOk; kernel_rfl
theorem sub : isSubtype (.type "bytearray") (.type "bytearray") = pure true := by rw [isSubtype_type]; kernel_rfl
theorem lookup_release : typeLookup (.type "bytearray") "__release_buffer__" = pure (some (.builtin "bytearray.__release_buffer__")) := by rw [typeLookup_type, builtinLookup_eq_fast]; kernel_rfl
theorem bind (v : Value) : Builtin.Bytes.bindOptional "bytearray.__init__" "bytearray" ["source", "encoding", "errors"] [v] [] = pure [some v, none, none] := by kernel_rfl
set_option maxRecDepth 1000000 in
set_option maxHeartbeats 4000000 in
theorem owner_new : ("bytearray.__new__".splitOn ".__new__").headD "" = "bytearray" := by simp +decide [String.splitOn, String.splitOnAux]
end Ba
section
variable {prog : Program} {w : World} {A : Around} {E : Value → Shared → Prop} {s : Shared}
theorem code_bytearray_new (a : Value) {Q₁ : Value → Shared → Prop}
    (h : Q₁ (.ref s.heap.objs.size) { s with heap := s.heap.push { cls := .type "bytearray", data := .bytearray #[] } }) :
    codeAny (model prog w) A (.call (.builtin "bytearray.__new__") ⟨[.type "bytearray", a], []⟩) (wants Q₁ E) s := by
  refine codeAny_of_tree ?_
  show wpAny _ A.in1 (do checkBuiltinCall "bytearray.__new__" ⟨[.type "bytearray", a], []⟩; again (.builtin "bytearray.__new__" ⟨[.type "bytearray", a], []⟩)) _ _ s
  refine wpAny_bind (wpAny_of_eq (Ba.newCall a) (wpAny_pure ⟨plainId_quiet Ba.plain_new _, codeAny_builtin_stack Ba.entry_new rfl fun p st => ?_⟩))
  rw [Around.under_plainId Ba.plain_new _]
  have hsub := Ba.sub
  have hown := Ba.owner_new
  obtain ⟨hp, g, d, tk, os⟩ := s
  simp only [hown]
  wp_walk
  exact h
end
end Mine
end
section
open PySem PySem.W PyProof.Rows PySem.Spec PySem.Calls
open PySem.Sem (wp)
set_option Elab.async false
set_option maxRecDepth 100000
set_option maxHeartbeats 4000000
namespace Mine
theorem wpP_if_false {α : Type} {M : Model} {A : Around} {E : Value → Shared → Prop} {s : Shared} {c : Bool} {a b : Sem α} {Q : α → Shared → Prop} (hc : c = false) (h : wpP M A b Q E s) : wpP M A (if c = true then a else b) Q E s := by
  subst hc; exact h
section
variable {prog : Program} {w : World} {A : Around} {E : Value → Shared → Prop} {s : Shared}
theorem own_release {S : Addr} {Q : Bool → Shared → Prop} (hT : s.TypeIs (.ref S) "bytearray") (h : Q false s) : wpAny (model prog w) A (Builtin.Bytes.ownRelease (.ref S)) Q E s := by
  unfold Builtin.Bytes.ownRelease Builtin.Bytes.slotIsOwn
  have hl := Ba.lookup_release
  have hs := Ba.sub
  have e1 : ("bytearray.__release_buffer__".endsWith ("." ++ "__release_buffer__")) = true := by decide +kernel
  have e2 : "bytearray.__release_buffer__".dropRight ("__release_buffer__".length + 1) = "bytearray" := by decide +kernel
  refine wpAny_bind (wpAny_bind (wpAny_specialOf hT hl ?_))
  simp only [e1, Bool.not_true, Bool.false_eq_true, if_false, e2]
  refine wpAny_isInstance hT hs ?_
  exact wpAny_pure h
theorem exported_clean {self : Value} {Q : Bool → Shared → Prop} (h : Q false s) : wpP (model prog w) A (Builtin.Bytes.exported self) Q E s := by
  unfold Builtin.Bytes.exported
  refine wpP_stackAny (fun c p hb => ?_) h
  unfold badCode at hb
  have nb : ∀ id args, c = .builtin id args → badIds.contains id = false := fun id args e => by subst e; exact hb
  have nd : ∀ id args, c = .builtin id args → Builtin.Bytes.decodersThatHold.contains id = false := fun id args e => by
    have := nb id args e
    rw [badIds, List.contains_append, Bool.or_eq_false_iff] at this
    exact this.2
  split
  · rename_i e; have := nb _ _ (by first | exact congrArg Prod.fst e | rfl); exact absurd this (by decide)
  · rename_i e; have := nb _ _ (by first | exact congrArg Prod.fst e | rfl); exact absurd this (by decide)
  · rename_i e; have := nb _ _ (by first | exact congrArg Prod.fst e | rfl); exact absurd this (by decide)
  · rename_i e; have := nb _ _ (by first | exact congrArg Prod.fst e | rfl); exact absurd this (by decide)
  · rename_i e; have := nb _ _ (by first | exact congrArg Prod.fst e | rfl); exact absurd this (by decide)
  · rename_i e; rw [nd _ _ (by first | exact congrArg Prod.fst e | rfl), Bool.and_false]
  · rfl
abbrev baObj (b : Array UInt8) : Obj := { cls := .type "bytearray", data := .bytearray b }
theorem write_ba {S : Addr} {b : Array UInt8} {f : Array UInt8 → Array UInt8} {Q : Unit → Shared → Prop} (hS : s.heap.get? S = some (baObj b)) (hz : (f b).size ≤ sizeLine)
    (h : ∀ h', h'.get? S = some (baObj (f b)) → Heap.SameBut S s.heap h' → Q () { s with heap := h' }) : wpAny (model prog w) A (Builtin.Bytes.write (.ref S) f) Q E s := by
  show wpAny _ _ (updateBytearray S f) _ _ _
  unfold updateBytearray
  refine wpAny_bind (wpAny_load hS ?_)
  show wpAny _ _ (update S (Obj.mapBytearray f) >>= fun _ => lookBehind S) _ _ _
  refine wpAny_bind (wpAny_update hS ?_)
  have hS₂ : (s.heap.update S (Obj.mapBytearray f)).get? S = some (baObj (f b)) := Heap.get?_update_self (Obj.mapBytearray f) hS rfl
  refine wpAny_lookBehind hS₂ ?_ (h _ hS₂ (Heap.SameBut.update ..))
  show (if (f b).size > sizeLine then some "bytearray:memory" else none) = none
  rw [if_neg (by omega)]
theorem takeWhile_ints (p : Value → Bool) : ∀ {vs : List Value} {ns : List Int}, IntsAre vs ns → (∀ n ∈ ns, 0 ≤ n ∧ n < 256) → (∀ n t, 0 ≤ n → n < 256 → p (.int n t) = true) → vs.takeWhile p = vs
  | _, _, .nil, _, _ => rfl
  | _, _, .cons n t r, h, hp => by
    have := h n (.head _)
    rw [List.takeWhile_cons, hp n t this.1 this.2, if_pos rfl, takeWhile_ints p r (fun x hx => h x (.tail _ hx)) hp]
theorem filterMap_ints (f : Value → Option UInt8) : ∀ {vs : List Value} {ns : List Int}, IntsAre vs ns → (∀ n t, f (.int n t) = some n.toNat.toUInt8) → vs.filterMap f = ns.map fun n => n.toNat.toUInt8
  | _, _, .nil, _ => rfl
  | _, _, .cons n t r, hf => by rw [List.filterMap_cons, hf n t, filterMap_ints f r hf]; rfl
theorem init_bytearray {S l : Addr} {vs : List Value} {ns : List Int} {Q : Fin → Shared → Prop} (hS : s.heap.get? S = some (baObj #[])) (hl : s.heap.IsList l vs.toArray) (hi : IntsAre vs ns) (hr : ∀ n ∈ ns, 0 ≤ n ∧ n < 256)
    (hz : vs.length ≤ sizeLine) (hSl : l ≠ S) (h : ∀ h' tk, h'.get? S = some (baObj (byteArr ns)) → Heap.SameBut S s.heap h' → Q (.done (.ret .none)) { s with heap := h', toks := tk }) :
    wpP (model prog w) A (Builtin.«bytearray.__init__» ⟨[.ref S, .ref l], []⟩) Q E s := by
  have hT : s.TypeIs (.ref S) "bytearray" := ⟨_, hS, rfl⟩
  unfold Builtin.«bytearray.__init__»
  refine wpP_bind (wpP_of (own_release hT ?_))
  refine wpP_if_false rfl ?_
  refine wpP_bind (wpP_of_eq (Ba.bind _) ?_)
  refine wpP_bind (wpP_of_eq (a := ()) rfl ?_)
  refine wpP_bind (wpP_of_eq (a := ()) rfl ?_)
  have hTl : s.TypeIs (.ref l) "list" := hl.typeIs
  obtain ⟨ol, hol, hoc, nl, hod⟩ := id hl
  refine wpP_bind (wpP_bind (exported_clean ?_))
  refine wpP_bind (wpP_bind (wpP_of (wpAny_load hS ?_)))
  refine wpP_pure (wpP_pure ?_)
  refine wpP_if_false rfl ?_
  refine wpP_bind (wpP_of (write_ba (f := fun _ => #[]) hS (Nat.zero_le _) fun h₁ hS₁ hs₁ => ?_))
  have hol₁ : h₁.get? l = some ol := (hs₁.2 l hSl).trans hol
  have hTl₁ : ({ s with heap := h₁ } : Shared).TypeIs (.ref l) "list" := ⟨ol, hol₁, hoc⟩
  refine wpP_bind (wpP_bind (wpP_of (wpAny_load hol₁ ?_)))
  rw [hod]
  refine wpP_pure (wpP_if_false rfl ?_)
  refine wpP_of ?_
  refine wpAny_bind (wpAny_of_eq (a := ()) rfl ?_)
  refine wpAny_bind (wpAny_specialOf hTl₁ PySem.F.bm_no_index ?_)
  refine bm_if_false rfl ?_
  refine wpAny_bind ?_
  unfold Builtin.Bytes.buffer?
  refine wpAny_bind (wpAny_specialOf hTl₁ PySem.F.bm_no_buffer ?_)
  refine wpAny_bind (wpAny_specialOf hTl₁ PySem.F.bm_no_buffer ?_)
  refine wpAny_pure ?_
  refine wpAny_bind (wpAny_typeOf hTl₁ ?_)
  refine bm_if_true rfl ?_
  refine wpAny_bind (wpAny_seqItems hol₁ hod ?_)
  dsimp only
  rw [takeWhile_ints _ hi hr (fun n t h0 h1 => by simp [h0, h1]), filterMap_ints _ hi (fun _ _ => rfl), show vs.toArray[vs.length]? = none by simp]
  refine wpAny_bind (wpAny_rule ?_)
  refine wpAny_bind (write_ba hS₁ (by simp only [List.size_toArray, List.length_map]; rw [← hi.length]; exact hz) fun h₂ hS₂ hs₂ => ?_)
  exact wpAny_pure (h h₂ s.toks hS₂ (hs₁.trans hs₂))
theorem codeP_builtin {id : String} {args : Args} {b : Builtin} {R : Result → Shared → Prop} (hbad : badIds.contains id = false) (hb : entryFor table id = some b)
    (h : wpP (model prog w) (A.under (.builtin id args)) (b args)
      (fun fin s' => match fin with | .done f => R (.ok f) s' | .again c' => c'.quiet = true ∧ codeP (model prog w) A c' R s') (fun e s' => R (.error e) s') s) :
    codeP (model prog w) A (.builtin id args) R s := by
  refine codeP_of_tree hbad ?_
  show wpP _ _ (match entryFor table id with | some b => b args | none => unsupported ((withoutEnding? id "#data").getD id)) _ _ s
  rw [hb]; exact h
theorem callSpecialP {self : Value} {T : String} {name : Str} {id : String} {args : List Value} {Q : Option Value → Shared → Prop} (hT : s.TypeIs self T) (h : Slot T name id)
    (hc : wpP (model prog w) A (call (.builtin id) (self :: args) []) (fun v => Q (some v)) E s) : wpP (model prog w) A (callSpecial? self name args []) Q E s := by
  simp only [callSpecial?]
  refine wpP_bind (wpP_of (wpAny_specialOf hT h.lookup ?_))
  simp only [h.bind]
  exact wpP_holding (wpP_bind (wpP_pure (wpP_bind (wpP_mono hc (fun v s' h' => wpP_pure h') fun _ _ h' => h'))))
theorem call_bytearrayP {l : Addr} {vs : List Value} {ns : List Int} {Q : Value → Shared → Prop} (hl : s.heap.IsList l vs.toArray) (hi : IntsAre vs ns) (hr : ∀ n ∈ ns, 0 ≤ n ∧ n < 256) (hz : vs.length ≤ sizeLine)
    (h : ∀ S h' tk, s.heap.get? S = none → h'.get? S = some (baObj (byteArr ns)) → s.heap.StaysIn h' → Q (.ref S) { s with heap := h', toks := tk }) :
    wpP (model prog w) A (call (.type "bytearray") [.ref l]) Q E s := by
  obtain ⟨c, tl, hmro⟩ := Ba.called.mro
  have hmade := Ba.called.made
  have hsub := Ba.called.sub
  have h2 := Ba.called.canCreate
  have hct := Ba.typeCall (.ref l)
  refine wpP_call (codeP_of_tree rfl ?_)
  show wpP _ _ (callAny (.type "bytearray") _) _ _ _
  refine wpP_pure ⟨Code.quiet_builtin _ (by decide +kernel), codeP_builtin (by decide +kernel) F.entry_type_call ?_⟩
  rw [Around.under_plain (weight_type_call_type "bytearray" [.ref l] []) rfl]
  unfold Builtin.«type.__call__»
  refine wpP_if_false (by decide) ?_
  refine wpP_if_false h2 ?_
  refine wpP_bind (wpP_of_eq hct ?_)
  refine wpP_bind (wpP_of_eq hmro ?_)
  refine wpP_if_false rfl ?_
  refine wpP_bind (wpP_of_eq hmade ?_)
  refine wpP_bind (wpP_pure ?_)
  have hlt : l ≠ s.heap.objs.size := Nat.ne_of_lt (Heap.lt_size (hl.choose_spec.1))
  refine wpP_bind (wpP_holding (wpP_of (wpAny_call (code_bytearray_new (.ref l) ?_))))
  have hS : (s.heap.push (baObj #[])).get? s.heap.objs.size = some (baObj #[]) := Heap.get?_push_size _ rfl
  have hT : ({ s with heap := s.heap.push (baObj #[]) } : Shared).TypeIs (.ref s.heap.objs.size) "bytearray" := ⟨_, hS, rfl⟩
  refine wpP_bind (wpP_of (wpAny_isInstance hT hsub ?_))
  refine wpP_if_false rfl ?_
  refine wpP_bind (wpP_holding (callSpecialP hT Ba.slot_init (wpP_call (codeP_of_tree rfl ?_))))
  show wpP _ _ (callAny (.builtin "bytearray.__init__") _) _ _ _
  refine wpP_bind (wpP_of (Ba.slot_init.check _ _ _ _ _ _ _ _ hT (Ba.args_init _ _) ?_))
  refine wpP_pure ⟨Code.quiet_builtin _ (by decide +kernel), codeP_builtin (by decide +kernel) Ba.entry_init ?_⟩
  refine init_bytearray hS (hl.push _) hi hr hz hlt fun h' tk hS' hs' => ?_
  refine wpP_if_false rfl ?_
  refine wpP_pure ?_
  refine h _ _ _ ?_ hS' fun b o e => hs'.extBut b o (Nat.ne_of_lt (Heap.lt_size e)) (Heap.get?_push_of_some _ e)
  exact Heap.get?_none_of_le (Nat.le_refl _)
end
end Mine
end
section
open PySem PySem.W PyProof.Rows PySem.Spec PySem.Calls
open PySem.Sem (wp)
set_option Elab.async false
set_option maxRecDepth 100000
set_option maxHeartbeats 4000000
namespace Mine
namespace Ba
theorem noBytes : typeLookup (.type "bytearray") "__bytes__" = pure none := by rw [typeLookup_type, builtinLookup_eq_fast]; kernel_rfl
theorem noIndex : typeLookup (.type "bytearray") "__index__" = pure none := by rw [typeLookup_type, builtinLookup_eq_fast]; kernel_rfl
theorem lookup_buffer : typeLookup (.type "bytearray") "__buffer__" = pure (some (.builtin "bytearray.__buffer__")) := by rw [typeLookup_type, builtinLookup_eq_fast]; kernel_rfl
end Ba
section
variable {prog : Program} {w : World} {A : Around} {E : Value → Shared → Prop} {s : Shared}
theorem bytes_new_ba {S : Addr} {b : Array UInt8} {Q : Value → Shared → Prop} (hS : s.heap.get? S = some (baObj b)) (hz : b.size ≤ sizeLine)
    (hQ : ∀ t k, Q (.bytes b t) { s with toks := k }) :
    codeAny (model prog w) A (.call (.builtin "bytes.__new__") ⟨[.type "bytes", .ref S], []⟩) (wants Q E) s := by
  refine codeAny_of_tree ?_
  show wpAny _ A.in1 (do checkBuiltinCall "bytes.__new__" ⟨[.type "bytes", .ref S], []⟩; again (.builtin "bytes.__new__" ⟨[.type "bytes", .ref S], []⟩)) _ _ s
  refine wpAny_bind (wpAny_of_eq (PySem.F.bm_newCall _) (wpAny_pure ⟨plainId_quiet PySem.F.bm_plain _, codeAny_builtin PySem.F.bm_entry ?_⟩))
  rw [Around.under_plainId PySem.F.bm_plain _]
  have hT : s.TypeIs (.ref S) "bytearray" := ⟨_, hS, rfl⟩
  unfold Builtin.«bytes.__new__»
  refine wpAny_bind (wpAny_of_eq (a := true) rfl ?_)
  refine bm_if_false rfl ?_
  refine wpAny_bind (wpAny_of_eq PySem.F.bm_sub ?_)
  refine bm_if_false rfl ?_
  refine wpAny_bind (wpAny_of_eq (PySem.F.bm_bind _) ?_)
  refine wpAny_bind (wpAny_of_eq (a := ()) rfl ?_)
  refine wpAny_bind (wpAny_of_eq (a := ()) rfl ?_)
  refine bm_if_false rfl ?_
  refine wpAny_bind (wpAny_specialOf hT Ba.noBytes ?_)
  refine wpAny_bind (wpAny_bind ?_)
  show wpAny _ _ (load S >>= _) _ _ _
  refine wpAny_bind (wpAny_load hS ?_)
  refine wpAny_pure (wpAny_pure ?_)
  refine bm_if_false rfl ?_
  refine wpAny_bind (wpAny_specialOf hT Ba.noIndex ?_)
  refine bm_if_true rfl ?_
  have e1 : ("bytearray.__buffer__".endsWith ("." ++ "__buffer__")) = true := by decide +kernel
  have e2 : "bytearray.__buffer__".dropRight ("__buffer__".length + 1) = "bytearray" := by decide +kernel
  have hb : ∀ {Q' : Option (Array UInt8) → Shared → Prop} {E' : Value → Shared → Prop}, Q' (some b) s → wpAny (model prog w) A.in1 (Builtin.Bytes.buffer? "bytes.__new__" (.ref S) true) Q' E' s := by
    intro Q' E' h
    unfold Builtin.Bytes.buffer?
    refine wpAny_bind (wpAny_specialOf hT Ba.lookup_buffer ?_)
    dsimp only
    refine wpAny_bind ?_
    unfold Builtin.Bytes.slotIsOwn
    refine wpAny_bind (wpAny_specialOf hT Ba.lookup_buffer ?_)
    simp only [e1, Bool.not_true, Bool.false_eq_true, if_false, e2]
    refine wpAny_isInstance hT Ba.sub ?_
    simp only [Bool.not_true, Bool.false_eq_true, if_false]
    refine wpAny_bind (wpAny_specialOf hT Ba.lookup_buffer ?_)
    refine wpAny_bind (own_release hT ?_)
    refine bm_if_false rfl ?_
    refine wpAny_bind ?_
    unfold Builtin.Bytes.payload Builtin.Bytes.payload?
    refine wpAny_bind (wpAny_bind (wpAny_load hS ?_))
    exact wpAny_pure (wpAny_pure (wpAny_pure h))
  first
    | show wpAny _ _ (Builtin.Bytes.buffer? "bytes.__new__" (.ref S) true >>= _) _ _ _
    | (refine wpAny_bind ?_; show wpAny _ _ (Builtin.Bytes.buffer? "bytes.__new__" (.ref S) true >>= _) _ _ _)
  refine wpAny_bind (hb ?_)
  refine wpAny_bind (wpAny_rule ?_)
  refine wpAny_bind (wpAny_mkBytes ?_ hz)
  show wpAny _ _ (if (Value.type "bytes" == Value.type "bytes") = true then _ else _) _ _ _
  refine bm_if_true (by decide) ?_
  first
    | exact wpAny_pure (hQ _ _)
    | exact wpAny_pure (wpAny_pure (hQ _ _))
    | exact wpAny_bind (wpAny_pure (wpAny_pure (hQ _ _)))
    | exact wpAny_bind (wpAny_pure (wpAny_pure (wpAny_pure (hQ _ _))))
theorem call_bytes_ba {S : Addr} {b : Array UInt8} {Q : Value → Shared → Prop} (hS : s.heap.get? S = some (baObj b)) (hz : b.size ≤ sizeLine)
    (hQ : ∀ t k, Q (.bytes b t) { s with toks := k }) : wpAny (model prog w) A (call (.type "bytes") [.ref S]) Q E s := by
  refine callType_codes (Q₁ := fun obj s₁ => s₁.TypeIs obj "bytes" ∧ Q obj s₁) PySem.F.bm_called (PySem.F.bm_typeCall _) PySem.F.entry_object_init
    (bytes_new_ba hS hz fun t k => ⟨PySem.W.typeIs_bytes _ _ _, hQ t k⟩) fun obj s₁ h₁ => ?_
  exact ⟨h₁.1, PySem.F.args_object_init_2 obj _, object_init_meets PySem.F.bm_called.init.lookup PySem.F.bm_called.made (by decide) prog w A.in1 _ s₁ ⟨h₁.1, rfl, h₁.2⟩⟩
end
end Mine
end
section
open PySem PySem.W PyProof.Rows PySem.Spec PySem.Calls
open PySem.Sem (wp)
set_option Elab.async false
set_option maxRecDepth 100000
set_option maxHeartbeats 4000000
namespace Mine
namespace Ia
theorem len : typeLookup (.type "bytes") "__len__" = pure (some (.builtin "bytes.__len__")) := by rw [typeLookup_type, builtinLookup_eq_fast]; kernel_rfl
theorem split : splitId "bytes.__len__" = some ("bytes", "__len__") := by decide +kernel
theorem lookup_iadd : typeLookup (.type "list") (dunderI "add") = pure (some (.builtin "list.__iadd__")) := PySem.F.slot_list_iadd.lookup
theorem fills : fillsInplaceSlot (.type "list") "add" true = pure false := by
  unfold fillsInplaceSlot
  show (typeLookup (.type "list") (dunderI "add") >>= fun fi => pure (fi.isSome && !isSeqSlot fi)) = pure false
  rw [lookup_iadd]
  have e : isSeqSlot (some (.builtin "list.__iadd__")) = true := by decide +kernel
  rw [pure_bind, e]; rfl
theorem seq : seqSlot? (.type "list") (dunderI "add") = pure (some (.builtin "list.__iadd__")) := PySem.seqSlot_of lookup_iadd (by decide +kernel)
end Ia
theorem bInts_get {b : Array UInt8} {i : Nat} (h : i < b.size) : ∃ c, b[i]? = some c := ⟨b[i], by simp [h]⟩
section
variable {prog : Program} {w : World} {A : Around} {E : Value → Shared → Prop} {s : Shared}
abbrev lsObj (vs : List Value) (n : Nat) : Obj := { cls := .type "list", data := .seq vs.toArray n }
theorem extend_bytes_loop {R : Result → Shared → Prop} {l I : Addr} {b : Array UInt8} {t : Tok} {vs : List Value} {ns : List Int} {res : Value} (hh : A.handled = none) (hz : vs.length + b.size ≤ sizeLine) (hlI : l ≠ I) :
    ∀ (k i : Nat) (s : Shared) (ws : List Value) (n : Nat), b.size - i = k → i ≤ b.size → ws.length = vs.length + i → IntsAre ws (ns ++ (KBw.bInts b).take i) → s.heap.get? l = some (lsObj ws n) → KBw.IsBytesIter s.heap I b t i →
      (∀ h' tk ws' n', IntsAre ws' (ns ++ KBw.bInts b) → h'.get? l = some (lsObj ws' n') → (∀ c o, c ≠ l → c ≠ I → s.heap.get? c = some o → h'.get? c = some o) → R (.ok (.ret res)) { s with heap := h', toks := tk }) →
      codeAny (model prog w) A (.builtin "list.extend.loop" ⟨[.ref l, .ref I, res], []⟩) R s := by
  intro k
  induction k with
  | zero =>
    intro i s ws n hk hle hlen hw hl hit hR
    have hin : i = b.size := by omega
    subst hin
    refine codeAny_builtin PySem.F.entry_extend_loop ?_
    rw [Around.under_plainId PySem.F.plain_extend_loop _]
    show wpAny _ A.in1 (pyNext (.ref I) >>= _) _ _ s
    refine wpAny_bind (KBw.next_end hh hit (by simp) fun h' he => ?_)
    refine wpAny_pure (hR h' s.toks ws n ?_ (he l _ hlI hl) fun c o _ hc e => he c o hc e)
    rwa [List.take_of_length_le (by rw [KBw.ints_length]; exact Nat.le_refl _)] at hw
  | succ k ih =>
    intro i s ws n hk hle hlen hw hl hit hR
    have hlt : i < b.size := by omega
    obtain ⟨c, hc⟩ := bInts_get hlt
    refine codeAny_builtin PySem.F.entry_extend_loop ?_
    rw [Around.under_plainId PySem.F.plain_extend_loop _]
    show wpAny _ A.in1 (pyNext (.ref I) >>= _) _ _ s
    refine wpAny_bind (KBw.next_item hit hc fun h' hit' hs => ?_)
    have hl' : h'.get? l = some (lsObj ws n) := (hs.2 l hlI).trans hl
    show wpAny _ A.in1 (updateSeq l (·.push _) >>= _) _ _ _
    refine wpAny_bind (wpAny_updateSeq hl' rfl (wpAny_pure ⟨plainId_quiet PySem.F.plain_extend_loop _, ih (i + 1) _ (ws ++ [.int (c.toNat : Int) s.toks]) (n + 1) (by omega) hlt (by simp; omega) ?_ ?_ (hit'.elim fun o ho => ⟨o, (Heap.get?_update_other _ _ hlI).trans ho.1, ho.2⟩) fun h3 tk ws' n' h1 h2 h3' => ?_⟩)
      (by simp only [List.size_toArray]; omega) (by simp only [Array.size_push, List.size_toArray]; omega))
    · rw [List.take_add_one, KBw.ints_get hc, ← List.append_assoc]
      exact IntsAre.append hw (.cons _ _ .nil)
    · have := Heap.get?_update_self (Obj.mapSeq (·.push (Value.int (c.toNat : Int) s.toks))) hl' rfl
      rw [this]
      simp [Obj.mapSeq]
    · exact hR h3 tk ws' n' h1 h2 fun d o hd hdI e => h3' d o hd hdI ((Heap.get?_update_other _ _ (Ne.symm hd)).trans ((hs.2 d hdI).trans e))
theorem iadd_bytes {l : Addr} {b : Array UInt8} {t : Tok} {vs : List Value} {ns : List Int} {n : Nat} {Q : Value → Shared → Prop} (hh : A.handled = none) (hi : IntsAre vs ns) (hz : vs.length + b.size ≤ sizeLine) (hl : s.heap.get? l = some (lsObj vs n))
    (h : ∀ h' tk ws' n', IntsAre ws' (ns ++ KBw.bInts b) → h'.get? l = some (lsObj ws' n') → (∀ c o, c ≠ l → s.heap.get? c = some o → h'.get? c = some o) → Q (.ref l) { s with heap := h', toks := tk }) :
    wpAny (model prog w) A (inplaceOp .Add (.ref l) (.bytes b t)) Q E s := by
  have hT : s.TypeIs (.ref l) "list" := ⟨_, hl, rfl⟩
  have hTb : s.TypeIs (.bytes b t) "bytes" := typeIs_bytes s b t
  unfold inplaceOp
  refine wpAny_holding ?_
  refine wpAny_bind (wpAny_typeOf hT ?_)
  refine wpAny_bind (wpAny_of_eq Ia.fills ?_)
  show wpAny _ A (if false = true then _ else _) Q E s
  rw [if_neg Bool.false_ne_true]
  refine wpAny_bind ?_
  unfold binaryOp1
  refine wpAny_bind (wpAny_typeOf hT (wpAny_bind (wpAny_typeOf hTb ?_)))
  refine wpAny_bind (wpAny_of_eq noFill_list_add ?_)
  refine wpAny_bind (wpAny_of_eq KBy.noFill_bytes_add ?_)
  refine wpAny_bind (wpAny_of_eq (a := false) rfl ?_)
  refine wpAny_pure ?_
  refine wpAny_bind (wpAny_of_eq Ia.seq ?_)
  refine wpAny_bind (wpAny_rule ?_)
  refine wpAny_call (codeAny_call_builtin PySem.F.plain_list_iadd PySem.F.entry_list_iadd (PySem.F.slot_list_iadd.check _ _ _ _ _ _ _ _ hT (PySem.F.args_list_iadd_2 _ _) ?_))
  show wpAny _ A.in1 (Builtin.List.listExtendWith (.ref l) (.bytes b t) (.ref l)) _ _ _
  unfold Builtin.List.listExtendWith
  refine wpAny_bind (wpAny_typeOf hTb ?_)
  refine bm_if_false (by show (false || Value.type "bytes" == Value.type "list" || Value.type "bytes" == Value.type "tuple") = false; decide) ?_
  refine wpAny_bind (KBw.pyIter_bytes ?_)
  have hIt : KBw.IsBytesIter (s.heap.push { cls := .type "bytes_iterator", data := .fields #[.bytes b t, .int 0 0] }) s.heap.objs.size b t 0 := ⟨_, Heap.get?_push_size _ rfl, rfl, rfl⟩
  have hTb₁ : ({ s with heap := s.heap.push { cls := .type "bytes_iterator", data := .fields #[.bytes b t, .int 0 0] } } : Shared).TypeIs (.bytes b t) "bytes" := typeIs_bytes _ b t
  refine wpAny_bind (wpAny_holding ?_)
  unfold Builtin.List.listLengthHint
  refine wpAny_bind (wpAny_specialOf hTb₁ Ia.len ?_)
  dsimp only
  rw [Ia.split]
  dsimp only
  refine wpAny_bind (wpAny_isInstance hTb₁ PySem.F.bm_sub ?_)
  refine bm_if_false rfl ?_
  refine bm_if_true (by decide +kernel) ?_
  refine wpAny_bind (wpAny_typeOf hTb₁ ?_)
  refine wpAny_pure ?_
  refine bm_if_false (by decide) ?_
  have hlI : l ≠ s.heap.objs.size := Nat.ne_of_lt (Heap.lt_size hl)
  refine wpAny_pure ⟨plainId_quiet PySem.F.plain_extend_loop _, extend_bytes_loop hh hz hlI b.size 0 _ vs n rfl (Nat.zero_le _) rfl (by simpa using hi) (Heap.get?_push_of_some _ hl) hIt fun h' tk ws' n' h1 h2 h3 => ?_⟩
  exact h h' tk ws' n' h1 h2 fun c o hc e => h3 c o hc (Nat.ne_of_lt (Heap.lt_size e)) (Heap.get?_push_of_some _ e)
end
end Mine
end
section
open PySem PySem.W PyProof.Rows PySem.Spec PySem.Calls
set_option Elab.async false
set_option maxRecDepth 100000
namespace Mine
theorem gives_ordB (c : UInt8) (t : Tok) : Gives (Builtin.«ord» ⟨[.bytes #[c] t], []⟩) (.int c.toNat) := .of_eq rfl
theorem ord_bytes {prog : Program} {w : World} {A : Around} {E Q : Value → Shared → Prop} {s : Shared} {b : Array UInt8} {t : Tok} {x : Int} (hb : KBw.bInts b = [x]) (h : ∀ u k, Q (.int x u) { s with toks := k }) :
    wpAny (model prog w) A (call (.builtin "ord") [.bytes b t]) Q E s := by
  obtain ⟨l⟩ := b
  have hb' : l.map (fun (c : UInt8) => (c.toNat : Int)) = [x] := hb
  match l, hb' with
  | [c], e =>
    obtain rfl : (c.toNat : Int) = x := by simpa using e
    exact call_function_meets F.kind_ord F.plain_ord F.entry_ord (F.args_ord1 _) (gives_ordB c t).meets (h _ _)
theorem At.dicts {w : World} {mean : ExcName → Option Value} {mg mb : Str → Option Value} {A A₀ : Around} {base h₀ h : Heap} {outer : List Env} {env : Env} {L : Addr} {m : Str → Option Value}
    (C : At w mean mg mb A A₀ base h₀ outer env L m h) (D : KtsDicts (outer.filterMap (·.frame)) h₀) : KtsDicts ((env :: outer).filterMap (·.frame)) h := fun b hb => by
  obtain ⟨e, he, hf⟩ := List.mem_filterMap.mp hb
  rcases List.mem_cons.mp he with rfl | he
  · obtain rfl : L = b := Option.some.inj (C.hf.symm.trans hf)
    obtain ⟨oL, es, ep, a, d, _⟩ := C.F.ns
    exact ⟨oL, es, ep, a, d⟩
  · obtain ⟨o, es, n, a, d⟩ := D b (List.mem_filterMap.mpr ⟨e, he, hf⟩)
    exact ⟨o, es, n, C.F.keep _ _ a, d⟩
theorem lookup_kstB (y : Str) : ∀ ps : List (Str × Value), ps.lookup y = kstB (fun _ => none) ps y
  | [] => rfl
  | p :: r => by
    obtain ⟨a, b⟩ := p
    show List.lookup y ((a, b) :: r) = if y = a then some b else kstB (fun _ => none) r y
    rw [List.lookup_cons]
    by_cases h : y = a
    · rw [if_pos h, beq_iff_eq.mpr h]
    · rw [if_neg h, beq_eq_false_iff_ne.mpr h]; exact lookup_kstB y r
theorem fr_lookup {h₀ h : Heap} {L : Addr} {ps : List (Str × Value)} (F : Fr h₀ L h (fun y => ps.lookup y)) : Fr h₀ L h (kstB (fun _ => none) ps) := by
  have e : (fun y => ps.lookup y) = kstB (fun _ => none) ps := funext fun y => lookup_kstB y ps
  rw [← e]; exact F
/-- h' carries h on, but for the slots of the frame at L -/
def Turned (L : Addr) (h h' : Heap) : Prop := ∃ g', KtsTurn [L] h g' ∧ g'.StaysIn h'
theorem Turned.of {L : Addr} {h h' : Heap} (k : h.StaysIn h') : Turned L h h' := ⟨h, .refl, k⟩
theorem Turned.one {L : Addr} {h h' : Heap} (x : Turned L h h') {b : Addr} {o : Obj} (e : h.get? b = some o) (n : b ≠ L) : h'.get? b = some o := by
  obtain ⟨g', T, k⟩ := x
  exact k _ _ (T.other b o e (by simpa using n))
theorem Turned.self {L : Addr} {h h' : Heap} (x : Turned L h h') {o : Obj} (e : h.get? L = some o) : ∃ sl, h'.get? L = some { o with slots := sl } := by
  obtain ⟨g', T, k⟩ := x
  obtain ⟨sl, q⟩ := T.frame L o e (by simp)
  exact ⟨sl, k _ _ q⟩
theorem fr_turn {h₀ h h' : Heap} {L : Addr} {m : Str → Option Value} (F : Fr h₀ L h m) (x : Turned L h h') : Fr h₀ L h' m := by
  obtain ⟨oL, es, ep, a, d, r⟩ := F.ns
  obtain ⟨sl, q⟩ := x.self a
  refine ⟨⟨_, es, ep, q, d, r⟩, fun b o e => x.one (F.keep b o e) (fun z => ?_), F.above⟩
  rw [z, kts_self F] at e; cases e
theorem news_turn {h₀ h h' : Heap} {L : Addr} {news : List (Addr × Obj)} (N : News h₀ L h news) (x : Turned L h h') : News h₀ L h' news :=
  fun p hp => ⟨x.one (N p hp).1 (N p hp).2.1, (N p hp).2⟩
theorem At.turn {w : World} {mean : ExcName → Option Value} {mg mb : Str → Option Value} {A A₀ : Around} {base h₀ h h' : Heap} {outer : List Env} {env : Env} {L : Addr} {m : Str → Option Value}
    (C : At w mean mg mb A A₀ base h₀ outer env L m h) (k : Turned L h h') : At w mean mg mb A A₀ base h₀ outer env L m h' :=
  ⟨C.B, fr_turn C.F k, C.X, C.T, C.hA, C.hf, C.hk⟩
end Mine
end
section
open PySem PySem.W PyProof.Rows PySem.Spec PySem.Calls
set_option Elab.async false
set_option maxRecDepth 100000
namespace Mine
section
variable {prog : Program} {w : World} {mean : ExcName → Option Value} {mg mb : Str → Option Value} {A A₀ : Around} {base h₀ : Heap} {outer : List Env} {env : Env} {L : Addr} {m : Str → Option Value} {s : Shared}
  {R : Result → Shared → Prop} {name qual : Str} {params : Arguments} {body : List Stmt} {scope : Scope} {dV kV doc pm cdv ct oc : Value} {an od : Option Addr} {osl : Array (Option Value)} {f : Addr} {args : Args} {binds : List (Str × Value)}
/-- a list of the caller's, handed over -/
theorem call_listM {a : Addr} {o : Obj} (C : At w mean mg mb A A₀ base h₀ outer env L m s.heap) (ha : News h₀ L s.heap [(a, o)])
    (ho : (Mine.hd.heap_39 w.params).lookup f = some ⟨oc, od, .func (fnOf name qual params body scope dV kV doc pm an cdv ct), osl⟩) (hcd : codeIn (Mine.hd.heap_39 w.params) cdv qual = true) (hroom : A.depth < recursionLimit)
    (hbind : BindsTo s (fnOf name qual params body scope dV kV doc pm an cdv ct) args binds) (hloc : ∀ y ∈ binds, scope.names.lookup y.1 = some .local)
    (h : ∀ g L' h₁, g = hideAll s.heap [a] → Fr g L' h₁ (fun y => binds.reverse.lookup y) → News g L' h₁ [(a, o)] → Below A base (env :: outer) g → (Mine.hd.heap_39 w.params).In g → Top Mine.hd.view_39 (looseW Mine.hd.view_39 [Str.ofString "ApplyDeltaError"]) mean mg mb g →
      wpAny (model prog w) (A.deeper (envOf qual scope L' f cdv)) (execs body (envOf qual scope L' f cdv))
        (fun fl s' => R (.ok (.ret (match fl with | .ret v => v | _ => .none))) s')
        (fun e s' => wpAny (model prog w) (A.deeper (envOf qual scope L' f cdv)) (leaving (envOf qual scope L' f cdv) e) (fun _ s'' => R (.error e) s'') (fun e' s'' => R (.error e') s'') s')
        { s with heap := h₁, toks := s.toks + binds.length })
    (hco : scope.isCoroutine = false := by rfl) (hgen : scope.isGenerator = false := by rfl) (hk : scope.kind = .function := by rfl)
    (hcell : ∀ x ∈ scope.names, x.2 ≠ .cell := by decide) : codeAny (model prog w) A (.call (.ref f) args) R s := by
  have X := C.X.keeps C.F.keep
  have h0 := ha _ (.head _)
  have st : h₀.StaysIn (hideAll s.heap [a]) := fun b o e => hideAll_get _ (C.F.keep b o e) fun q => by
    rcases List.mem_singleton.mp q with rfl
    rw [h0.2.2] at e; cases e
  have B₁ := C.below
  have B₂ : Below A base (env :: outer) (hideAll s.heap [a]) := ⟨C.hA, fun b o e => st b o (C.B.stays b o e), funFrames_hideAll B₁.frames fun ev he b hb hf => by
    rcases List.mem_singleton.mp hb with rfl
    rcases List.mem_cons.mp he with rfl | he
    · exact h0.2.1 (Option.some.inj (hf.symm.trans C.hf))
    · obtain ⟨L₁, o₁, hf₁, ho₁⟩ := funFrames_in C.B.frames ev he
      rw [hf₁] at hf
      obtain rfl := Option.some.inj hf
      rw [h0.2.2] at ho₁; cases ho₁⟩
  refine codeAny_call_def (fd := fnOf name qual params body scope dV kV doc pm an cdv ct) (body := body) (binds := binds) hroom (X _ _ ho) rfl (C.T.nolimit.keeps C.F.keep) (codeRec_of X hcd) rfl hbind hcell hloc (fun h₁ hns hk₁ => ?_) hco hgen hk
  exact h _ s.heap.objs.size h₁ rfl ⟨hns, fun b o e => hk₁ b o (of_hideAll _ e), Nat.le_of_eq (hideAll_size _ _)⟩
    (fun p hp => by
      rcases List.mem_singleton.mp hp with rfl
      exact ⟨hk₁ _ _ h0.1, Nat.ne_of_lt (Heap.lt_size h0.1), hideAll_none _ (.head _)⟩) B₂ (C.X.keeps st) (C.T.keeps st)
end
/-- what the callee left of the caller's heap, the list put back -/
theorem hidden_stays {h h' : Heap} {a : Addr} {o : Obj} (ho : h.get? a = some o) (ho' : h'.get? a = some o) (k : (hideAll h [a]).StaysIn h') : h.StaysIn h' := fun b x e => by
  by_cases q : b = a
  · subst q; rw [ho] at e; cases e; exact ho'
  · exact k b x (hideAll_get _ e fun z => q (List.mem_singleton.mp z))
end Mine
end
section
open PySem PySem.W PyProof.Rows
namespace Mine
/-- the octets up to the first below 128, if there is one -/
def takeM : List Int → Option (List Int)
  | [] => none
  | x :: r => if x < 128 then some [x] else (takeM r).map (x :: ·)
theorem takeM_high : ∀ {R : List Int} (S : List Int), (∀ x ∈ R, 128 ≤ x) → takeM (R ++ S) = (takeM S).map (R ++ ·)
  | [], S, _ => by
    show takeM S = (takeM S).map fun x => [] ++ x
    cases takeM S <;> rfl
  | x :: R, S, h => by
    have hx := h x (.head _)
    rw [List.cons_append, takeM, if_neg (by omega), takeM_high S fun y hy => h y (.tail _ hy), Option.map_map]
    rfl
theorem takeM_none {R : List Int} (h : ∀ x ∈ R, 128 ≤ x) : takeM R = none := by
  have := takeM_high [] h
  rwa [List.append_nil] at this
theorem takeM_some {R S : List Int} {x : Int} (h : ∀ x ∈ R, 128 ≤ x) (hx : x < 128) : takeM (R ++ x :: S) = some (R ++ [x]) := by
  rw [takeM_high _ h, takeM, if_pos hx]; rfl
theorem last_get {R : List Int} (h : R ≠ []) : R.getLast h = R.getD (-1 + (R.length : Int)).toNat 0 := by
  have hl : 0 < R.length := List.length_pos_iff.mpr h
  have e : (-1 + (R.length : Int)).toNat = R.length - 1 := by omega
  rw [e, List.getLast_eq_getElem, List.getD_eq_getElem?_getD, List.getElem?_eq_getElem (by omega)]; rfl
theorem last_eq {R : List Int} (h : R ≠ []) : R = R.dropLast ++ [R.getD (-1 + (R.length : Int)).toNat 0] := by
  rw [← last_get h, List.dropLast_concat_getLast h]
theorem last_high {R : List Int} (h : R ≠ []) (hd : ∀ x ∈ R.dropLast, 128 ≤ x) (hi : ∀ x ∈ R, 0 ≤ x ∧ x < 256) (hb : Builtin.bitAnd (R.getD (-1 + (R.length : Int)).toNat 0) 128 ≠ 0) : ∀ x ∈ R, 128 ≤ x := by
  have e := last_eq h
  have hx : R.getD (-1 + (R.length : Int)).toNat 0 ∈ R := last_get h ▸ List.getLast_mem h
  have := hi _ hx
  rw [and_128] at hb
  intro x hxx
  rw [e] at hxx
  rcases List.mem_append.mp hxx with q | q
  · exact hd x q
  · rw [List.mem_singleton.mp q]; omega
theorem last_low {R S : List Int} (h : R ≠ []) (hd : ∀ x ∈ R.dropLast, 128 ≤ x) (hi : ∀ x ∈ R, 0 ≤ x ∧ x < 256) (hb : Builtin.bitAnd (R.getD (-1 + (R.length : Int)).toNat 0) 128 = 0) : takeM (R ++ S) = some R := by
  have e := last_eq h
  have hx : R.getD (-1 + (R.length : Int)).toNat 0 ∈ R := last_get h ▸ List.getLast_mem h
  have := hi _ hx
  rw [and_128] at hb
  have e2 : R ++ S = R.dropLast ++ R.getD (-1 + (R.length : Int)).toNat 0 :: S := by
    conv => lhs; rw [e]
    rw [List.append_assoc]; rfl
  rw [e2, takeM_some hd (by omega), ← e]
theorem cut_one {ks : List Int} {pos : Int} (h0 : 0 ≤ pos) (h : 0 < min (clipAt ks.length (pos + 1) - clipAt ks.length pos) (ks.length - clipAt ks.length pos)) :
    ∃ x, List.take (clipAt ks.length (pos + 1) - clipAt ks.length pos) (List.drop (clipAt ks.length pos) ks) = [x] ∧ ks.drop pos.toNat = x :: ks.drop (pos + 1).toNat := by
  obtain ⟨p, rfl⟩ : ∃ p : Nat, pos = p := ⟨pos.toNat, by omega⟩
  have e1 : ((p : Int) + 1) = ((p + 1 : Nat) : Int) := by omega
  rw [e1] at h ⊢
  rw [clipAt_nat, clipAt_nat] at h ⊢
  have hp : p < ks.length := by omega
  have e2 : min (p + 1) ks.length - min p ks.length = 1 := by omega
  have e3 : min p ks.length = p := by omega
  refine ⟨ks[p], ?_, ?_⟩
  · rw [e2, e3, List.drop_eq_getElem_cons hp]; rfl
  · rw [Int.toNat_natCast, Int.toNat_natCast, List.drop_eq_getElem_cons hp]
theorem cut_none {ks : List Int} {pos : Int} (h0 : 0 ≤ pos) (h : ¬ 0 < min (clipAt ks.length (pos + 1) - clipAt ks.length pos) (ks.length - clipAt ks.length pos)) : ks.drop pos.toNat = [] := by
  obtain ⟨p, rfl⟩ : ∃ p : Nat, pos = p := ⟨pos.toNat, by omega⟩
  have e1 : ((p : Int) + 1) = ((p + 1 : Nat) : Int) := by omega
  rw [e1, clipAt_nat, clipAt_nat] at h
  rw [Int.toNat_natCast]
  exact List.drop_eq_nil_of_le (by omega)
end Mine
end
section
theorem Mine.offF1 : True := by w_top off; exact True.intro
open PySem PySem.W PyProof.Rows PySem.Spec PySem.Calls
set_option Elab.async false
set_option maxRecDepth 100000
set_option maxHeartbeats 8000000
set_option pp.deepTerms false
set_option pp.deepTerms.threshold 6
namespace Mine
theorem rng_lo {k : Int} (h : 0 ≤ k) : 0 ≤ k := h
theorem rng_hi {k : Int} {n : Nat} {D : List Int} (h : k < 0 + ((((n : Nat) : Int) - 0).toNat : Int)) (e : D.length = n) : k < (D.length : Int) := by omega
theorem rng_small {k : Int} {m : Nat} (h : k < 0 + ((((1 + m : Nat) : Int) - 0).toNat : Int)) (e : m ≤ 10) : k < 2 ^ 63 := by omega
/- the bounds of `octets[k]`, out of lemmas of their own: the library's closer splits all the facts that stand about, and its proofs are long -/
local macro_rules | `(tactic| l_idx) => `(tactic| first | exact rng_lo (by assumption) | exact rng_hi (by assumption) (by rw [List.length_append]; rfl) | exact rng_small (by assumption) (by assumption))
local macro_rules | `(tactic| walk_at "exec While Compare cons nil") => `(tactic| refine stop_of ?_)
local macro_rules | `(tactic| walk_at "exec Return some") => `(tactic| refine stop_of ?_)
local macro_rules | `(tactic| walk_at "call type:bytes") => `(tactic| refine stop_of ?_)
theorem head_spec {prog : Program} {w : World} {mean : ExcName → Option Value} {mg mb : Str → Option Value} {A₀ : Around} {base h₀ : Heap} {env : Env} {L : Addr} {m : Str → Option Value} {s : Shared}
    {Q E : Value → Shared → Prop} (kind size : Int) (t1 t2 : Tok)
    (C : At w mean mg mb (callerA.deeper env) A₀ base h₀ [] env L m s.heap) (hk : 0 ≤ kind ∧ kind < 8) (hs : 0 ≤ size ∧ size < 2 ^ 70)
    (hQ : ∀ t h' tk', s.heap.StaysIn h' → Q (.bytes (byteArr (hdL kind size)) t) { s with heap := h', toks := tk' }) :
    wpAny (model prog w) (callerA.deeper env) (call (.ref 103) [.int kind t1, .int size t2]) Q E s := by
  (refine wpAny_call ?_; k_dflt (refine' call_cellsM (by assumption) ?k6 ?k7 ?k8 ?k9 ?kB ?kD ?_ ?c2 ?c3 ?c4; (case k6 => k_is); (case k7 => k_is); (case k8 => k_room); (case k9 => exact BindsTo.of_eq rfl); (case kB => exact rfl); (case kD => decide +kernel); (case c2 => exact rfl); (case c3 => exact rfl); (case c4 => exact rfl)))
  clear C
  intro g L' h' tk' cells' hg F' N' Y' B' X' T'; k_cells Y'; (try dsimp only); (try k_fold)
  rename_i o' d1'
  replace F' : Fr g L' h' (kstB (fun _ => none) [("size", .int size t2), ("kind", .int kind t1)]) := F'
  replace d1' : o'.data = .cell none := d1'
  k_steps
  refine stop_mk ?_
  rename Fr _ _ _ _ => lF
  rename News _ _ _ _ => lN
  rename_i l _ l1 _ o d _
  have e16 : size.fdiv 16 = size / 16 := Int.fdiv_eq_ediv_of_nonneg _ (by decide)
  refine' ksw_while (σ := List Value × List Int × Int × Tok × Nat) (fun c => [(l, W.listOf c.1.toArray c.2.2.2.2), (L' + 1, o)]) (fun c => [("rest", .int c.2.2.1 c.2.2.2.1)])
    (fun c => IntsAre c.1 c.2.1 ∧ c.2.1 ++ digs c.2.2.1.toNat = digs (size / 16).toNat ∧ 0 ≤ c.2.2.1) [] (fun _ => True) (fun c => c.2.2.1.toNat) ([], [], size.fdiv 16, _, 0) lF lN ?facts ?names trivial ?turn
  case facts => refine ⟨.nil, ?_, ?_⟩ <;> simp only [e16, List.nil_append]; omega
  case names => kst_all
  case turn =>
    clear lF lN
    rintro ⟨vs, D, rest, tkr, k⟩ u h₁ tk₁ ⟨hI, hD, h0⟩ - F N
    dsimp only at hI hD h0 F N ⊢
    have hDl : D.length ≤ 10 := by
      have := digs_length (lt_pow hs)
      rw [← hD, List.length_append] at this; omega
    have hV : vs.length ≤ 10 := hI.length ▸ hDl
    (try k_fold)
    k_steps
    · refine' ksw_end (vs ++ [.int (rest.fmod 128) _], D ++ [rest.fmod 128], rest.fdiv 128, _, k + 1) (by assumption) (by rename News _ _ _ _ => nE'; simp only [List.push_toArray] at nE'; exact nE') (by intro p hp; exact hp) ?_ (by kst_all) (by intro z h2 h3; simp only [List.forall_mem_cons, List.not_mem_nil, false_implies, implies_true, and_true, ne_eq] at h2; simp [kstB, h2]) trivial ?_
      · rename 0 < rest => hr
        have e1 : rest.fmod 128 = rest % 128 := Int.fmod_eq_emod_of_nonneg _ (by decide)
        have e2 : rest.fdiv 128 = rest / 128 := Int.fdiv_eq_ediv_of_nonneg _ (by decide)
        refine ⟨IntsAre.append hI (.cons _ _ .nil), ?_, ?_⟩ <;> dsimp only
        · rw [e1, e2, ← hD, digs_pos (n := rest.toNat) (by omega), List.append_assoc, List.singleton_append]
          congr 2
          · omega
          · congr 1; omega
        · omega
      · rename 0 < rest => hr
        have e2 : rest.fdiv 128 = rest / 128 := Int.fdiv_eq_ediv_of_nonneg _ (by decide)
        dsimp only; omega
    · refine stop_mk ?_
      rename Fr _ _ _ _ => lF
      rename News _ _ _ _ => lN
      refine wpAny_Return_some ?_
      k_steps
      refine stop_mk ?_
      rename News _ _ _ _ => lN
      rename ¬0 < rest => hr
      have hr0 : rest = 0 := by omega
      subst hr0
      rename IntsAre _ (List.map _ _) => hI8
      have eD : D = digs (size / 16).toNat := by rw [← hD]; simp [digs_zero]
      have e2 : size.fmod 16 = size % 16 := Int.fmod_eq_emod_of_nonneg _ (by decide)
      rw [cont_range (_ :: D) _ (by simp only [List.length_cons]; omega), e2, eD] at hI8
      change IntsAre _ (hdL kind size) at hI8
      refine call_bytes_ints (News.isList lN (.head _)) hI8 (hdL_in hk) ?_ rfl fun h9 t9 k9 hk9 => ?_
      · rw [hI8.length]; exact Nat.le_trans (hdL_length hs) (by decide)
      · rename Fr _ _ _ _ => lF
        exact hQ t9 h9 k9 fun b o e => hk9 b o (lF.keep b o (hg ▸ e))
end Mine
end
section
theorem Mine.offF2 : True := by w_top off; exact True.intro
open PySem PySem.W PyProof.Rows PySem.Spec PySem.Calls
set_option Elab.async false
set_option maxRecDepth 100000
set_option maxHeartbeats 8000000
set_option pp.deepTerms false
set_option pp.deepTerms.threshold 6
namespace Mine
section
local macro_rules | `(tactic| walk_at "exec While Compare cons nil") => `(tactic| refine stop_of ?_)
local macro_rules | `(tactic| walk_at "exec Return some") => `(tactic| refine stop_of ?_)
local macro_rules | `(tactic| walk_at "KswEnd") => `(tactic| refine stop_of ?_)
local macro_rules | `(tactic| walk_at "call type:bytes") => `(tactic| refine stop_of ?_)
local macro_rules | `(tactic| walk_at "binaryOp FloorDiv int int") => `(tactic| ((with_reducible refine fd_pow ?fdk ?_); (case fdk => omega)))
theorem dist_spec {prog : Program} {w : World} {mean : ExcName → Option Value} {mg mb : Str → Option Value} {A₀ : Around} {base h₀ : Heap} {env : Env} {L : Addr} {m : Str → Option Value} {s : Shared}
    {Q E : Value → Shared → Prop} (far : Int) (t1 : Tok)
    (C : At w mean mg mb (callerA.deeper env) A₀ base h₀ [] env L m s.heap) (hf : 0 ≤ far ∧ far < 2 ^ 70)
    (hQ : ∀ t h' tk', s.heap.StaysIn h' → Q (.bytes (byteArr (dsL far)) t) { s with heap := h', toks := tk' }) :
    wpAny (model prog w) (callerA.deeper env) (call (.ref 108) [.int far t1]) Q E s := by
  (refine wpAny_call ?_; k_dflt (refine' call_cellsM (by assumption) ?k6 ?k7 ?k8 ?k9 ?kB ?kD ?_ ?c2 ?c3 ?c4; (case k6 => k_is); (case k7 => k_is); (case k8 => k_room); (case k9 => exact BindsTo.of_eq rfl); (case kB => exact rfl); (case kD => decide +kernel); (case c2 => exact rfl); (case c3 => exact rfl); (case c4 => exact rfl)))
  clear C
  intro g L' h' tk' cells' hg F' N' Y' B' X' T'; k_cells Y'; (try dsimp only); (try k_fold)
  rename_i o1 o2 d1 d2
  replace F' : Fr g L' h' (kstB (fun _ => none) [("far", .int far t1)]) := F'
  replace d1 : o1.data = .cell none := d1
  replace d2 : o2.data = .cell none := d2
  k_steps
  refine stop_mk ?_
  rename Fr _ _ _ _ => lF
  rename News _ _ _ _ => lN
  rename (_ = Data.cell (some (Value.int 1 _))) => dm
  rename_i om _
  obtain ⟨tkm0, dm⟩ : ∃ t, om.data = .cell (some (.int 1 t)) := ⟨_, dm⟩
  refine' ksw_while (σ := Nat × Tok × Tok × Obj × Int) (fun c => [(L' + 1 + 1, o1), (L' + 1, c.2.2.2.1)]) (fun c => [("least", .int (low c.1) c.2.1)])
    (fun c => c.2.2.2.1.data = .cell (some (.int c.2.2.2.2 c.2.2.1)) ∧ c.2.2.2.2 = (c.1 : Int) + 1 ∧ low c.1 ≤ far ∧ c.1 ≤ 9) [] (fun _ => True) (fun c => 10 - c.1) (0, _, tkm0, om, 1) lF lN ?facts ?names trivial ?turn
  case facts => exact ⟨dm, rfl, hf.1, Nat.zero_le _⟩
  case names => kst_all
  case turn =>
    clear lF lN dm
    rintro ⟨j, tkl, tkm, om, many⟩ u h₁ tk₁ ⟨hd, hm, hl, hj⟩ - F N
    dsimp only at hd hm hl hj F N ⊢
    have hj0 : 1 ≤ many := by omega
    have hj9 : many ≤ 10 := by omega
    (try k_fold)
    k_steps
    · refine stop_mk ?_
      rename (_ + 128 ^ _ ≤ far) => hc
      have e : many.toNat = j + 1 := by omega
      rw [e] at hc
      have hj8 := low_room hc hf.2
      rename (_ = Data.cell (some (Value.int (many + 1) _))) => dm
      rename_i om' _ _
      refine' ksw_end (j + 1, _, _, om', many + 1) (by assumption) (by assumption) (by intro p hp; exact hp) ⟨dm, by dsimp only; omega, hc, Nat.succ_le_succ hj8⟩ (by rw [low, ← e]; kst_all) (by intro z h2 h3; simp only [List.forall_mem_cons, List.not_mem_nil, false_implies, implies_true, and_true, ne_eq] at h2; simp [kstB, h2]) trivial ?_
      dsimp only; omega
    · refine stop_mk ?_
      rename Fr _ _ _ _ => lF
      rename News _ _ _ _ => lN
      rename (¬ _ + 128 ^ _ ≤ far) => hc
      have e : many.toNat = j + 1 := by omega
      rw [e] at hc
      refine wpAny_Return_some ?_
      k_steps
      refine stop_mk ?_
      rename News _ _ _ _ => lN
      rename Fr _ _ _ _ => lF
      rename IntsAre _ (List.map _ _) => hI8
      obtain ⟨r, hr⟩ : ∃ r : Nat, far - low j = (r : Int) := ⟨(far - low j).toNat, by omega⟩
      rw [bigs_range (j + 1) many _ (by rw [hm]; push_cast; rfl)] at hI8
      have e2 : cont (bigs (j + 1) (far - low j)) = dsL far := by
        have hr2 : r < 128 ^ (j + 1) := by
          have h2 : ((128 ^ (j + 1) : Nat) : Int) = (128 : Int) ^ (j + 1) := by push_cast; rfl
          omega
        rw [hr, dist_eq j r hr2]
        congr 1; omega
      rw [e2] at hI8
      have hlen : (dsL far).length ≤ 10 := by rw [← e2, cont_length, bigs_length]; omega
      refine call_bytes_ints (News.isList lN (.head _)) hI8 (by rw [← e2]; exact cont_in (bigs_in _ _)) ?_ rfl fun h9 t9 k9 hk9 => ?_
      · rw [hI8.length]; exact Nat.le_trans hlen (by decide)
      · exact hQ t9 h9 k9 fun b o e => hk9 b o (lF.keep b o (hg ▸ e))
end
end Mine
end
section
theorem Mine.offF3 : True := by w_top off; exact True.intro
local macro_rules | `(tactic| walk_at "none of these") => `(tactic| fail "none")
open PySem PySem.W PyProof.Rows PySem.Spec PySem.Calls
set_option Elab.async false
set_option maxRecDepth 100000
set_option maxHeartbeats 8000000
set_option pp.deepTerms false
set_option pp.deepTerms.threshold 5
namespace Mine
section
local macro_rules | `(tactic| walk_at "exec While Name cons nil") => `(tactic| refine stop_of ?_)
local macro_rules | `(tactic| walk_at "exec If") => `(tactic| refine stop_of ?_)
local macro_rules | `(tactic| walk_at "KswEnd") => `(tactic| refine stop_of ?_)
local macro_rules | `(tactic| walk_at "getAttr ref") => `(tactic| refine get_shape (by assumption) (by assumption) (by assumption) (by assumption) (by assumption) ?_)
local macro_rules | `(tactic| walk_at "inplaceOp Add ref") => `(tactic| refine stop_of ?_)
theorem get_shape {prog : Program} {w : World} {A : Around} {E Q : Value → Shared → Prop} {s : Shared} {g : Heap} {L x dx : Addr} {m : Str → Option Value} {es : List DictEntry} {ne : Nat} {t3 : Tok} {expr : Bool} (F : Fr g L s.heap m) (X : (Mine.hd.heap_39 w.params).In g)
    (hx : g.get? x = some (instObj 94 dx)) (hdx : g.get? dx = some (dictOf es ne)) (hes : getL "oid_length" es = some (some (.int 20 t3))) (h : Q (.int 20 t3) { s with toks := s.toks + 1 }) :
    wpAny (model prog w) A (getAttr (.ref x) "oid_length" expr) Q E s :=
  get_own (attr := none) F X ⟨F.keep _ _ hx, rfl, rfl, F.keep _ _ hdx⟩ (by k_is) (by k_is) (by k_is) (by k_is) hes rfl h
theorem ret_bytearray {prog : Program} {w : World} {mean : ExcName → Option Value} {mg mb : Str → Option Value} {A : Around} {E : Value → Shared → Prop} {Q : Flow → Shared → Prop} {s : Shared} {g : Heap} {L a l : Addr} {m : Str → Option Value} {name : Str} {scope : Scope} {cd : Value} {p1 p2 p3 p4 : Pos}
    {vs : List Value} {ns : List Int} (F : Fr g L s.heap m) (X : (Mine.hd.heap_39 w.params).In g) (T : Top Mine.hd.view_39 (looseW Mine.hd.view_39 [Str.ofString "ApplyDeltaError"]) mean mg mb g)
    (hm : m "header" = some (.ref l)) (hl : s.heap.IsList l vs.toArray) (hi : IntsAre vs ns) (hr : ∀ n ∈ ns, 0 ≤ n ∧ n < 256) (hz : vs.length ≤ sizeLine)
    (h : ∀ S h' tk, s.heap.get? S = none → h'.get? S = some (baObj (byteArr ns)) → s.heap.StaysIn h' → Q (.ret (.ref S)) { s with heap := h', toks := tk })
    (hk : scope.kind = .function := by rfl) (hx : (envOf name scope L a cd).kindOf "bytearray" = some .globalImplicit := by rfl) (hh : (envOf name scope L a cd).kindOf "header" = some .local := by rfl) :
    wpP (model prog w) A (execs [.Return (some (.Call (.Name "bytearray" p1) [.Name "header" p2] [] p3)) p4] (envOf name scope L a cd)) Q E s := by
  refine wpP_execs_cons (wpP_Return_some (wpP_Call ?_))
  refine name_B F X (topRead_of T) (by k_is) (v := .type "bytearray") (by boot_by_name) (by decide) ?_ hk hx
  exact callWith_type1P (wpP_of (ld F hm (call_bytearrayP hl hi hr hz h) hk hh))
theorem fr_but {g h h' : Heap} {L l : Addr} {m : Str → Option Value} (F : Fr g L h m) (hL : l ≠ L) (hl : g.get? l = none) (k : ∀ c o, c ≠ l → h.get? c = some o → h'.get? c = some o) : Fr g L h' m := by
  obtain ⟨oL, es, ep, a, b⟩ := F.ns
  exact ⟨⟨oL, es, ep, k L oL (Ne.symm hL) a, b⟩, fun c o e => k c o (fun q => by rw [q, hl] at e; cases e) (F.keep c o e), F.above⟩
theorem pack_spec {prog : Program} {w : World} {mean : ExcName → Option Value} {mg mb : Str → Option Value} {A₀ : Around} {base h₀ : Heap} {env : Env} {L : Addr} {m : Str → Option Value} {s : Shared}
    {Q E : Value → Shared → Prop} (kind size : Int) (bv : Value) (x : Addr) (t1 t2 : Tok)
    (C : At w mean mg mb (callerA.deeper env) A₀ base h₀ [] env L m s.heap) (hk : 0 ≤ kind ∧ kind < 8) (hs : 0 ≤ size ∧ size < 2 ^ 70)
    {dx : Addr} {es : List DictEntry} {ne : Nat} {t3 : Tok} (hx : s.heap.get? x = some (instObj 94 dx)) (hdx : s.heap.get? dx = some (dictOf es ne)) (hes : getL "oid_length" es = some (some (.int 20 t3)))
    {T : List Int} (hb : (kind ≠ 6 ∧ kind ≠ 7 ∧ T = []) ∨ (kind = 6 ∧ ∃ far t, bv = .int far t ∧ (0 ≤ far ∧ far < 2 ^ 70) ∧ T = dsL far) ∨ (kind = 7 ∧ ∃ b t, bv = .bytes b t ∧ b.size = 20 ∧ T = KBw.bInts b))
    (hQ : ∀ S h' tk', s.heap.StaysIn h' → s.heap.get? S = none → h'.get? S = some (baObj (byteArr (hdL kind size ++ T))) → Q (.ref S) { s with heap := h', toks := tk' }) :
    wpP (model prog w) (callerA.deeper env) (call (.ref 70) [.int kind t1, bv, .int size t2, .ref x]) Q E s := by
  refine wpP_call ?_
  (k_dflt (refine' call_plainP (by assumption) ?k6 ?k7 ?k8 ?k9 ?kB ?_ ?c2 ?c3 ?c4 ?c5; (case k6 => k_is); (case k7 => k_is); (case k8 => k_room); (case k9 => exact BindsTo.of_eq rfl); (case kB => exact locs rfl); (case c2 => exact rfl); (case c3 => exact rfl); (case c4 => exact rfl); (case c5 => decide)))
  clear C
  intro g L' h' hg F' N' B' X' T'; (try dsimp only)
  rw [← hg] at hx hdx
  replace F' : Fr g L' h' (kstB (fun _ => none) [("object_format", .ref x), ("size", .int size t2), ("delta_base", bv), ("type_num", .int kind t1)]) := fr_lookup F'
  refine wpP_execs_split 6 ?_
  dsimp only [List.take, List.drop]
  refine wpP_of ?_
  (try k_fold)
  k_steps
  refine stop_mk ?_
  rename Fr _ _ _ _ => lF
  rename News _ _ _ _ => lN
  rename_i l _ _ _ _ _
  rw [or_first hk, fdiv_16] at lF
  refine' ksw_while (σ := List Value × List Int × Int × Tok × Int × Tok × Nat) (fun c => [(l, W.listOf c.1.toArray c.2.2.2.2.2.2)]) (fun c => [("size", .int c.2.2.2.2.1 c.2.2.2.2.2.1), ("c", .int c.2.2.1 c.2.2.2.1)])
    (fun c => IntsAre c.1 c.2.1 ∧ (0 ≤ c.2.2.1 ∧ c.2.2.1 < 128) ∧ 0 ≤ c.2.2.2.2.1 ∧ c.2.1 ++ cont (c.2.2.1 :: digs c.2.2.2.2.1.toNat) = hdL kind size) [] (fun _ => True) (fun c => c.2.2.2.2.1.toNat) ([], [], kind * 16 + size % 16, _, size / 16, _, 0) lF lN ?facts ?names trivial ?turn
  case facts => exact ⟨.nil, ⟨by dsimp only; omega, by dsimp only; omega⟩, by dsimp only; omega, rfl⟩
  case names => kst_all
  case turn =>
    clear lF lN
    rintro ⟨vs, D, c, tkc, sz, tks, n⟩ u h₁ tk₁ ⟨hI, hc, h0, hD⟩ - F N
    dsimp only at hI hc h0 hD F N ⊢
    have hDl : D.length ≤ 11 := by
      have := hdL_length (kind := kind) hs
      rw [← hD, List.length_append] at this; omega
    have hV : vs.length ≤ 11 := hI.length ▸ hDl
    (try k_fold)
    k_steps
    · refine stop_mk ?_
      rename sz ≠ 0 => hsz
      have e7 : sz.fdiv (2 ^ Int.toNat 7) = sz / 128 := fdiv_128 sz
      rename Fr _ _ _ _ => lF
      rename News _ _ _ _ => lN
      rw [or_128 hc] at lN
      rw [and_127, e7] at lF
      refine' ksw_end (vs ++ [.int (c + 128) _], D ++ [c + 128], sz % 128, _, sz / 128, _, n + 1) lF (by simp only [List.push_toArray] at lN; exact lN) (by intro p hp; exact hp) ?_ (by kst_all) (by intro z h2 h3; simp only [List.forall_mem_cons, List.not_mem_nil, false_implies, implies_true, and_true, ne_eq] at h2; simp [kstB, h2]) trivial ?_
      · refine ⟨IntsAre.append hI (.cons _ _ .nil), ⟨by dsimp only; omega, by dsimp only; omega⟩, by dsimp only; omega, ?_⟩
        dsimp only
        rw [← hD, cont_more c (n := sz.toNat) (by omega), List.append_assoc, List.singleton_append]
        congr 2
        congr 1
        have e1 : ((sz.toNat % 128 : Nat) : Int) = sz % 128 := by omega
        have e2 : (sz / 128).toNat = sz.toNat / 128 := by omega
        rw [e1, e2]
      · dsimp only; omega
    · refine stop_mk ?_
      rename sz = 0 => hsz
      subst hsz
      rename Fr _ _ _ _ => lF
      rename News _ _ _ _ => lN
      have hD2 : IntsAre (vs ++ [.int c tkc]) (hdL kind size) := by
        have : D ++ [c] = hdL kind size := by rw [← hD, Int.toNat_zero, digs_zero, cont]
        rw [← this]; exact IntsAre.append hI (.cons _ _ .nil)
      have hH := hdL_length (kind := kind) hs
      clear hI hD hc h0 hDl
      simp only [List.push_toArray] at lN
      refine wpAny_If ?_
      rcases hb with ⟨hk6, hk7, rfl⟩ | ⟨rfl, far, tf, rfl, hf, rfl⟩ | ⟨rfl, b, tb, rfl, hb20, rfl⟩
      · k_steps
        · exact absurd (by assumption) hk6
        · refine stop_mk (wpAny_If ?_)
          k_steps
          · exact absurd (by assumption) hk7
          · refine ret_bytearray (by assumption) X' T' rfl (News.isList lN (.head _)) hD2 (hdL_in hk) (by rw [hD2.length]; exact Nat.le_trans hH (by decide)) fun S h9 tk9 h1 h2 h3 => ?_
            refine hQ S h9 tk9 (fun b o e => h3 b o (lF.keep b o (hg ▸ e))) ?_ (by rw [List.append_nil]; exact h2)
            cases q : s.heap.get? S with
            | none => rfl
            | some o => rw [lF.keep S o (hg ▸ q)] at h1; cases h1
      · k_steps
        refine stop_mk ?_
        rename Fr _ _ _ _ => lF
        rename News _ _ _ _ => lN
        have ef : far.fdiv (2 ^ Int.toNat 7) = far / 128 := fdiv_128 far
        rw [ef] at lF
        rw [and_127] at lN
        rename_i r _ hlr _ hh0
        obtain ⟨tk0, lN⟩ : ∃ t, News g L' hh0 [(r, W.listOf #[.int (far % 128) t] 0), (l, W.listOf (vs ++ [Value.int c tkc]).toArray (n + 1))] := ⟨_, lN⟩
        refine' ksw_while (σ := List Value × List Int × Int × Tok × Nat) (fun q => [(r, W.listOf q.1.toArray q.2.2.2.2), (l, W.listOf (vs ++ [Value.int c tkc]).toArray (n + 1))]) (fun q => [("delta_base", .int q.2.2.1 q.2.2.2.1)])
          (fun q => IntsAre q.1 q.2.1 ∧ 0 ≤ q.2.2.1 ∧ front q.2.2.1.toNat q.2.1 = dsL far) [] (fun _ => True) (fun q => q.2.2.1.toNat) ([.int (far % 128) tk0], [far % 128], far / 128, _, 0) lF lN ?facts2 ?names2 trivial ?turn2
        case facts2 =>
          refine ⟨.cons _ _ .nil, by dsimp only; omega, ?_⟩
          dsimp only
          rw [dsL]; congr 1
          omega
        case names2 => kst_all
        case turn2 =>
          clear lF lN
          rintro ⟨rs, R, d, tkd, nn⟩ u h₁ tk₁ ⟨hRI, hd0, hRd⟩ - F N
          dsimp only at hRI hd0 hRd F N ⊢
          have hRl : R.length ≤ 10 := Nat.le_trans (front_le (d := d.toNat)) (hRd ▸ dsL_length hf)
          have hRv : rs.length ≤ 10 := hRI.length ▸ hRl
          (try k_fold)
          k_steps
          · rename d ≠ 0 => hd1
            rename Fr _ _ _ _ => lF
            rename News _ _ _ _ => lN
            have em : Builtin.bitOr 128 (Builtin.bitAnd (d - 1) 127) = 128 + (d - 1) % 128 := by rw [and_127, or_128' ⟨by omega, by omega⟩]
            rw [em]
            refine kl_insert (l := _ :: rs) lF lN rfl rfl (Upd.head fun p hp => ?_) (show rs.length ≤ sizeLine from Nat.le_trans hRv (by decide)) fun h9 F9 N9 => ?_
            · rcases List.mem_singleton.mp hp with rfl; exact Nat.ne_of_lt hlr
            · clear lF lN
              k_steps
              refine stop_mk ?_
              rename Fr _ _ _ _ => lF
              rename News _ _ _ _ => lN
              have e7 : (d - 1).fdiv (2 ^ Int.toNat 7) = (d - 1) / 128 := fdiv_128 (d - 1)
              rw [e7] at lF
              refine' ksw_end (_ :: rs, (128 + (d - 1) % 128) :: R, (d - 1) / 128, _, nn + 1) lF lN (by intro p hp; exact hp) ?_ (by kst_all) (by intro z h2 h3; simp only [List.forall_mem_cons, List.not_mem_nil, false_implies, implies_true, and_true, ne_eq] at h2; simp [kstB, h2]) trivial ?_
              · refine ⟨.cons _ _ hRI, by dsimp only; omega, ?_⟩
                dsimp only
                rw [← hRd, front_pos (d := d.toNat) (by omega)]
                congr 1
                · omega
                · congr 1; omega
              · dsimp only; omega
          · rename d = 0 => hd1
            subst hd1
            rename Fr _ _ _ _ => lF
            rename News _ _ _ _ => lN
            have eR : R = dsL far := by rw [← hRd, Int.toNat_zero, front_zero]
            have eR1 : R ≠ [] := by rw [eR, dsL, front_acc]; simp
            have eR2 : rs.length ≠ 0 := by rw [hRI.length]; exact fun q => eR1 (List.length_eq_zero_iff.mp q)
            refine kl_extend (l := (vs ++ [Value.int c tkc]) ++ rs) lF lN (.head _) rfl eR2 (Upd.tail (Nat.ne_of_gt hlr) (Upd.head fun p hp => nomatch hp)) ?_ (show (vs ++ [Value.int c tkc]).length ≤ sizeLine by rw [hD2.length]; exact Nat.le_trans hH (by decide)) (by simp only [List.size_toArray]; rw [hD2.length, sizeLine_eq]; omega) fun h9 F9 N9 => ?_
            · have : Builtin.List.listTooLong ((vs ++ [Value.int c tkc]).toArray.size + rs.toArray.size) = false := by
                unfold Builtin.List.listTooLong
                simp only [List.size_toArray]
                rw [hD2.length]
                first
                  | (simp only [decide_eq_false_iff_not, sizeLine_eq]; omega)
                  | (simp [sizeLine_eq]; omega)
              rw [this, Bool.and_false]; exact Bool.false_ne_true
            · clear lF lN
              k_steps
              rename Fr _ _ _ _ => lF
              rename News _ _ _ _ => lN
              have q1 : IntsAre (vs ++ [Value.int c tkc] ++ rs) (hdL 6 size ++ dsL far) := IntsAre.append hD2 (eR ▸ hRI)
              have hTl := dsL_length hf
              refine ret_bytearray lF X' T' rfl (News.isList lN (.tail _ (.head _))) q1 (fun v hv => ?_) (by rw [q1.length, List.length_append, sizeLine_eq]; omega) fun S h9 tk9 h1 h2 h3 => ?_
              · rcases List.mem_append.mp hv with hv | hv
                · exact hdL_in hk v hv
                · exact dsL_in v hv
              · refine hQ S h9 tk9 (fun b o e => h3 b o (lF.keep b o (hg ▸ e))) ?_ h2
                cases q : s.heap.get? S with
                | none => rfl
                | some o => rw [lF.keep S o (hg ▸ q)] at h1; cases h1
      · k_steps
        refine stop_mk (wpAny_If ?_)
        k_steps
        refine get_shape lF X' hx hdx hes ?_
        k_steps
        refine stop_mk ?_
        have hml : l ≠ L' ∧ g.get? l = none := (lN _ (.head _)).2
        have hlo : (W.listOf (vs ++ [Value.int c tkc]).toArray (n + 1)) = lsObj (vs ++ [Value.int c tkc]) (n + 1) := rfl
        refine iadd_bytes rfl hD2 (by rw [hD2.length, hb20, sizeLine_eq]; omega) (lN _ (.head _)).1 fun h9 tk9 ws9 n9 q1 q2 q3 => ?_
        replace lF := fr_but lF hml.1 hml.2 q3
        replace lN : News g L' h9 [(l, lsObj ws9 n9)] := fun p hp => by rcases List.mem_singleton.mp hp with rfl; exact ⟨q2, hml⟩
        (try dsimp only)
        k_steps
        rename Fr _ _ _ _ => lF
        rename News _ _ _ _ => lN
        refine ret_bytearray lF X' T' rfl (News.isList lN (.head _)) q1 (fun v hv => ?_) (by rw [q1.length, List.length_append, KBw.ints_length, hb20, sizeLine_eq]; omega) fun S h9 tk9 h1 h2 h3 => ?_
        · rcases List.mem_append.mp hv with hv | hv
          · exact hdL_in hk v hv
          · exact KBw.ints_in hv
        · refine hQ S h9 tk9 (fun b o e => h3 b o (lF.keep b o (hg ▸ e))) ?_ h2
          cases q : s.heap.get? S with
          | none => rfl
          | some o => rw [lF.keep S o (hg ▸ q)] at h1; cases h1
end
end Mine
end
section
theorem Mine.offF4 : True := by w_top off; exact True.intro
open PySem PySem.W PyProof.Rows PySem.Spec PySem.Calls
set_option Elab.async false
set_option maxRecDepth 100000
set_option maxHeartbeats 8000000
set_option pp.deepTerms false
set_option pp.deepTerms.threshold 5
namespace Mine
section
local macro_rules | `(tactic| walk_at "exec While BoolOp cons nil") => `(tactic| refine stop_of ?_)
local macro_rules | `(tactic| walk_at "call builtin:ord") => `(tactic| (refine stop_of ?_))
local macro_rules | `(tactic| walk_at "KswEnd") => `(tactic| refine stop_of ?_)
set_option hygiene false in
local macro_rules | `(tactic| walk_at "m exc") => `(tactic| (
      rename ¬0 < min _ _ => hcut
      have e1 := cut_none hpos.1 hcut
      have hno : takeM (ks.drop off.toNat) = none := by rw [hR, e1, List.append_nil]; exact takeM_none hall
      rename RaisedS _ _ _ _ _ _ _ _ _ => hS
      rename Heap.UpToSlots _ _ => hU
      subst hg
      exact hE hno _ _ _ _ _ _ hS hU))
set_option hygiene false in
local macro_rules | `(tactic| walk_at "m ord") => `(tactic| (
      refine stop_mk ?_
      rename 0 < min _ _ => hcut
      obtain ⟨x, hx1, hx2⟩ := cut_one hpos.1 hcut
      rename KBw.bInts (KBy.picked _ _ _) = _ => kbcK
      refine ord_bytes (x := x) (kbcK.trans hx1) fun u k => ?_
      clear hcut kbcK hx1
      k_steps
      refine stop_mk ?_
      rename Fr _ _ _ _ => lF
      rename News _ _ _ _ => lN
      refine' ksw_end (vs ++ [.int x u], R ++ [x], pos + 1, _, n + 1) lF (by simp only [List.push_toArray] at lN; exact lN) (by intro p hp; exact hp) ?_ (by kst_all) (by intro z h2 h3; simp only [List.forall_mem_cons, List.not_mem_nil, false_implies, implies_true, and_true, ne_eq] at h2; (have h4 : ¬ z = Str.ofString "b" := fun q => by subst q; simp at h3); simp [kstB, h2, h4]) trivial ?_
      · refine ⟨IntsAre.append hI (.cons _ _ .nil), ?_, ?_, ?_⟩ <;> dsimp only
        · rw [hp, List.length_append, List.length_singleton]; omega
        · rw [hR, hx2, List.append_assoc, List.singleton_append]
        · rw [List.dropLast_concat]; exact hall
      · dsimp only
        have := congrArg List.length hx2
        rw [List.length_drop, List.length_cons] at this
        omega))
theorem take_spec {prog : Program} {w : World} {mean : ExcName → Option Value} {mg mb : Str → Option Value} {A₀ : Around} {base h₀ : Heap} {e1 env : Env} {L : Addr} {m : Str → Option Value} {s : Shared}
    {Q E : Value → Shared → Prop} {b : Array UInt8} {off : Int} {t1 t2 : Tok}
    (C : At w mean mg mb ((callerA.deeper e1).deeper env) A₀ base h₀ [e1] env L m s.heap) (D : KtsDicts ([e1].filterMap (·.frame)) h₀) {ks : List Int} (hbi : KBw.bInts b = ks) (hkl : ks.length ≤ 1000) (ho : 0 ≤ off ∧ off ≤ ks.length)
    (hQ : ∀ R, takeM (ks.drop off.toNat) = some R → ∀ a d vs n tp h' tk, s.heap.StaysIn h' → h'.get? d = some { cls := .type "tuple", data := .seq #[.ref a, .int (off + R.length) tp] } → h'.get? a = some (W.listOf vs.toArray n) → IntsAre vs R → s.heap.get? a = none → s.heap.get? d = none →
      Q (.ref d) { s with heap := h', toks := tk })
    (hE : takeM (ks.drop off.toNat) = none → ∀ e t vs news h' tk, RaisedS base s.heap [env, e1] e (.type "AssertionError") t vs news h' → s.heap.UpToSlots h' → E (.ref e) { s with heap := h', toks := tk }) :
    wpAny (model prog w) ((callerA.deeper e1).deeper env) (call (.ref 49) [.bytes b t1, .int off t2]) Q E s := by
  refine wpAny_call ?_
  have D' := C.dicts D
  (k_dflt (refine' call_plainM (by assumption) ?k6 ?k7 ?k8 ?k9 ?kB ?_ ?c2 ?c3 ?c4 ?c5; (case k6 => k_is); (case k7 => k_is); (case k8 => k_room); (case k9 => exact BindsTo.of_eq rfl); (case kB => exact locs rfl); (case c2 => exact rfl); (case c3 => exact rfl); (case c4 => exact rfl); (case c5 => decide)))
  clear C D
  intro g L' h' hg F' N' B' X' T'; (try dsimp only)
  rw [← hg] at D'
  replace F' : Fr g L' h' (kstB (fun _ => none) [("offset", .int off t2), ("contents", .bytes b t1)]) := fr_lookup F'
  replace F' : Fr g L' h' (fun y => if y = "offset" then some (.int off t2) else if y = "contents" then some (.bytes b t1) else none) := F'
  (try k_fold)
  k_steps
  refine stop_mk ?_
  rename Fr _ _ _ _ => lF
  rename News _ _ _ _ => lN
  rename_i l _ _ _ _
  have hir : ∀ x ∈ ks, 0 ≤ x ∧ x < 256 := fun x hx => KBw.ints_in (hbi ▸ hx)
  refine' ksw_while (σ := List Value × List Int × Int × Tok × Nat) (fun c => [(l, W.listOf c.1.toArray c.2.2.2.2)]) (fun c => [("pos", .int c.2.2.1 c.2.2.2.1)])
    (fun c => IntsAre c.1 c.2.1 ∧ c.2.2.1 = off + (c.2.1.length : Int) ∧ ks.drop off.toNat = c.2.1 ++ ks.drop c.2.2.1.toNat ∧ ∀ x ∈ c.2.1.dropLast, 128 ≤ x) ["b"] (fun _ => True) (fun c => ks.length + 1 - c.2.2.1.toNat) ([], [], off, t2, 0) lF lN ?facts ?names trivial ?turn
  case facts => refine ⟨.nil, by simp, rfl, fun x hx => nomatch hx⟩
  case names => kst_all
  case turn =>
    clear lF lN
    rintro ⟨vs, R, pos, tkp, n⟩ u h₁ tk₁ ⟨hI, hp, hR, hD⟩ - F N
    dsimp only at hI hp hR hD F N ⊢
    have hlen : R.length ≤ 1000 := by
      have := congrArg List.length hR
      rw [List.length_append, List.length_drop] at this
      omega
    have hV : vs.length ≤ 1000 := hI.length ▸ hlen
    have hpos : 0 ≤ pos ∧ pos ≤ ks.length := by
      have := congrArg List.length hR
      rw [List.length_append, List.length_drop, List.length_drop] at this
      omega
    have hRi : ∀ x ∈ R, 0 ≤ x ∧ x < 256 := fun x hx => hir x (List.mem_of_mem_drop (hR ▸ List.mem_append_left _ hx : x ∈ ks.drop off.toNat))
    (try k_fold)
    k_steps
    · have hall : ∀ x ∈ R, 128 ≤ x := by
        have : R = [] := List.length_eq_zero_iff.mp (by omega)
        subst this; exact fun x hx => nomatch hx
      walk_at "m ord"
    · have hall : ∀ x ∈ R, 128 ≤ x := by
        have : R = [] := List.length_eq_zero_iff.mp (by omega)
        subst this; exact fun x hx => nomatch hx
      walk_at "m exc"
    · have hall : ∀ x ∈ R, 128 ≤ x := last_high (fun e => by subst e; exact absurd rfl (by assumption : ((([] : List Int).length : Int)) ≠ 0)) hD hRi (by assumption)
      walk_at "m ord"
    · have hall : ∀ x ∈ R, 128 ≤ x := last_high (fun e => by subst e; exact absurd rfl (by assumption : ((([] : List Int).length : Int)) ≠ 0)) hD hRi (by assumption)
      walk_at "m exc"
    · rename Fr _ _ _ _ => lF
      rename News _ _ _ _ => lN
      have hlow : takeM (ks.drop off.toNat) = some R := hR ▸ last_low (fun e => by subst e; exact absurd rfl (by assumption : ((([] : List Int).length : Int)) ≠ 0)) hD hRi (by assumption)
      subst hg
      subst hp
      exact hQ R hlow l _ vs n tkp _ _ lF.keep (lN _ (.head _)).1 (lN _ (.tail _ (.head _))).1 hI (lN _ (.tail _ (.head _))).2.2 (lN _ (.head _)).2.2
end
end Mine
end
section
theorem Mine.offF5 : True := by w_top off; exact True.intro
open PySem PySem.W PyProof.Rows PySem.Spec PySem.Calls
set_option Elab.async false
set_option maxRecDepth 100000
set_option maxHeartbeats 8000000
set_option pp.deepTerms false
set_option pp.deepTerms.threshold 5
namespace Mine
section
local macro_rules | `(tactic| walk_at "call ref") => `(tactic| refine stop_of ?_)
theorem told_spec {prog : Program} {w : World} {mean : ExcName → Option Value} {mg mb : Str → Option Value} {A₀ : Around} {base h₀ : Heap} {env : Env} {L : Addr} {m : Str → Option Value} {s : Shared}
    {Q E : Value → Shared → Prop} {b : Array UInt8} {off : Int} {t1 t2 : Tok}
    (C : At w mean mg mb (callerA.deeper env) A₀ base h₀ [] env L m s.heap) (XB : (Mine.hd.heap_39 w.params).In base) (TB : Top Mine.hd.view_39 (looseW Mine.hd.view_39 [Str.ofString "ApplyDeltaError"]) mean mg mb base)
    {ks : List Int} (hbi : KBw.bInts b = ks) (hkl : ks.length ≤ 1000) (ho : 0 ≤ off ∧ off ≤ ks.length)
    (hQ : ∀ R, takeM (ks.drop off.toNat) = some R → ∀ a d vs n tp h' tk, Turned L s.heap h' → h'.get? d = some { cls := .type "tuple", data := .seq #[.ref a, .int (off + R.length) tp] } → h'.get? a = some (W.listOf vs.toArray n) → IntsAre vs R → s.heap.get? a = none → s.heap.get? d = none →
      Q (.ref d) { s with heap := h', toks := tk })
    (hN : takeM (ks.drop off.toNat) = none → ∀ h' tk, Turned L s.heap h' → Q .none { s with heap := h', toks := tk }) :
    wpAny (model prog w) (callerA.deeper env) (call (.ref 120) [.bytes b t1, .int off t2]) Q E s := by
  refine wpAny_call ?_
  have D' := C.dicts ktsDicts_nil
  have hfL : [env].filterMap (·.frame) = [L] := by simp [C.hf]
  (k_dflt (refine' call_plainM (by assumption) ?k6 ?k7 ?k8 ?k9 ?kB ?_ ?c2 ?c3 ?c4 ?c5; (case k6 => k_is); (case k7 => k_is); (case k8 => k_room); (case k9 => exact BindsTo.of_eq rfl); (case kB => exact locs rfl); (case c2 => exact rfl); (case c3 => exact rfl); (case c4 => exact rfl); (case c5 => decide)))
  clear C
  intro g L' h' hg F' N' B' X' T'; (try dsimp only)
  rw [← hg] at D'
  replace F' : Fr g L' h' (kstB (fun _ => none) [("place", .int off t2), ("octets", .bytes b t1)]) := fr_lookup F'
  replace F' : Fr g L' h' (fun y => if y = "place" then some (.int off t2) else if y = "octets" then some (.bytes b t1) else none) := F'
  (try k_fold)
  k_steps
  refine stop_mk ?_
  rename Fr _ _ _ _ => lF
  refine take_spec ⟨B', lF, X', T', rfl, rfl, rfl⟩ D' hbi hkl ho ?_ ?_
  · intro R hR a d vs n tp h9 tk k hd ha hI na nd
    k_steps
    subst hg
    exact hQ R hR a d vs n tp h9 tk (Turned.of fun b o e => k b o (lF.keep b o e)) hd ha hI (kts_none lF.keep na) (kts_none lF.keep nd)
  · intro hR e t vs news h9 tk hS hU
    k_steps
    rename KtsTurn _ _ _ => hT
    rename Fr _ _ _ _ => lF2
    rw [hfL] at hT
    subst hg
    exact hN hR _ _ ⟨_, hT, lF2.keep⟩
end
end Mine
end
section
theorem Mine.offF6 : True := by w_top off; exact True.intro
open PySem PySem.W PyProof.Rows PySem.Spec PySem.Calls
set_option Elab.async false
set_option maxRecDepth 100000
set_option maxHeartbeats 8000000
set_option pp.deepTerms false
set_option pp.deepTerms.threshold 5
namespace Mine
theorem high_more {ks : List Int} {o p : Nat} (h : o + p < ks.length) : (ks.drop o).take (p + 1) = (ks.drop o).take p ++ [ks.getD (o + p) 0] := by
  rw [List.take_add_one, List.getElem?_drop, List.getElem?_eq_getElem h, List.getD_eq_getElem?_getD, List.getElem?_eq_getElem h]; rfl
theorem taken_map {ks : List Int} {off : Int} {n : Nat} (hir : ∀ x ∈ ks, 0 ≤ x ∧ x < 256) (ho : 0 ≤ off) (h : off.toNat + n ≤ ks.length) :
    (rangeKs off n).map (fun k' => if 0 ≤ ks.getD k'.toNat 0 ∧ ks.getD k'.toNat 0 < 256 then ks.getD k'.toNat 0 else k') = (ks.drop off.toNat).take n := by
  apply List.ext_getElem?
  intro i
  rw [List.getElem?_map]
  by_cases hi : i < n
  · have e1 : (rangeKs off n)[i]? = some (off + (i : Int)) := by simp [rangeKs, hi]
    have e2 : (off + (i : Int)).toNat = off.toNat + i := by omega
    have h3 : off.toNat + i < ks.length := by omega
    rw [e1, Option.map_some, e2, List.getElem?_take_of_lt hi, List.getElem?_drop, List.getElem?_eq_getElem h3, List.getD_eq_getElem?_getD, List.getElem?_eq_getElem h3]
    have := hir _ (List.getElem_mem h3)
    simp only [Option.getD_some]
    rw [if_pos this]
  · have e1 : (rangeKs off n)[i]? = none := by rw [List.getElem?_eq_none_iff, rangeKs_length]; omega
    rw [e1, Option.map_none, eq_comm, List.getElem?_eq_none_iff, List.length_take]; omega
section
local macro_rules | `(tactic| walk_at "pyIter ref") => `(tactic| ((with_reducible show wpAny _ _ (pyIter (Value.ref _)) (fun it s₂ => LoopAtV _ _ _ _ _ _ _ _ _ it s₂) _ _); refine stop_of ?_))
local macro_rules | `(tactic| walk_at "InvEndN") => `(tactic| refine stop_of ?_)
theorem taken_spec {prog : Program} {w : World} {mean : ExcName → Option Value} {mg mb : Str → Option Value} {A₀ : Around} {base h₀ : Heap} {env : Env} {L : Addr} {m : Str → Option Value} {s : Shared}
    {Q E : Value → Shared → Prop} {b : Array UInt8} {off : Int} {t1 t2 : Tok}
    (C : At w mean mg mb (callerA.deeper env) A₀ base h₀ [] env L m s.heap) {ks : List Int} (hbi : KBw.bInts b = ks) (hkl : ks.length ≤ 1000) (ho : 0 ≤ off ∧ off ≤ ks.length)
    (hQ : ∀ R, takeM (ks.drop off.toNat) = some R → ∀ a d vs n tp h' tk, s.heap.StaysIn h' → h'.get? d = some { cls := .type "tuple", data := .seq #[.ref a, .int (off + R.length) tp] } → h'.get? a = some (W.listOf vs.toArray n) → IntsAre vs R → s.heap.get? a = none → s.heap.get? d = none →
      Q (.ref d) { s with heap := h', toks := tk })
    (hN : takeM (ks.drop off.toNat) = none → ∀ h' tk, s.heap.StaysIn h' → Q .none { s with heap := h', toks := tk }) :
    wpAny (model prog w) (callerA.deeper env) (call (.ref 113) [.bytes b t1, .int off t2]) Q E s := by
  (refine wpAny_call ?_; k_dflt (refine' call_cellsM (by assumption) ?k6 ?k7 ?k8 ?k9 ?kB ?kD ?_ ?c2 ?c3 ?c4; (case k6 => k_is); (case k7 => k_is); (case k8 => k_room); (case k9 => exact BindsTo.of_eq rfl); (case kB => exact rfl); (case kD => decide +kernel); (case c2 => exact rfl); (case c3 => exact rfl); (case c4 => exact rfl)))
  clear C
  intro g L' h' tk' cells' hg F' N' Y' B' X' T'; k_cells Y'; (try dsimp only); (try k_fold)
  rename_i o' d1'
  replace F' : Fr g L' h' (fun y => if y = "place" then some (.int off t2) else none) := F'
  replace d1' : o'.data = .cell (some (.bytes b t1)) := d1'
  k_steps
  refine stop_mk ?_
  have hir : ∀ x ∈ ks, 0 ≤ x ∧ x < 256 := fun x hx => KBw.ints_in (hbi ▸ hx)
  rename Fr _ _ _ _ => lF
  rename News _ _ _ _ => lN
  rename IsRange _ _ _ _ _ _ _ _ => rgX
  refine' kst_range (σ := Unit) (Led := fun _ => [(L' + 1, o')]) (ps := fun _ => []) (Facts := fun _ => True) [] (fun pre _ => ∀ x ∈ (ks.drop off.toNat).take pre.length, 128 ≤ x) () rfl rgX (small_one (by omega) (by omega) (by omega) (by omega)) (rangeSize_nat _ _) lF lN trivial (fun p hp => nomatch hp) (by simp) ?turn ?done
  case turn =>
    clear lF lN
    rintro - pre k t u h₁ tk₁ own hk hpl hoff - hP F N
    dsimp only at hP F N ⊢
    have hko : 0 ≤ k ∧ k < ks.length := by omega
    (try k_fold)
    k_steps
    · rename Fr _ _ _ _ => lF
      rename News _ _ _ _ => lN
      rename IntsAre _ (List.map _ _) => hI8
      rename _ < 128 => hlow
      have ek : (k + 1 - off).toNat = pre.length + 1 := by omega
      rw [ek, taken_map hir ho.1 (by omega)] at hI8
      have e3 := high_more (by omega : off.toNat + pre.length < ks.length)
      have e4 : k.toNat = off.toNat + pre.length := by omega
      rw [← e4] at e3
      have e2 : takeM (ks.drop off.toNat) = some ((ks.drop off.toNat).take (pre.length + 1)) := by
        have := List.take_append_drop (pre.length + 1) (ks.drop off.toNat)
        rw [e3] at this ⊢
        refine (congrArg takeM ?_).trans (takeM_some (S := (ks.drop off.toNat).drop (pre.length + 1)) hP hlow)
        rw [← List.singleton_append, ← List.append_assoc]
        exact this.symm
      have e5 : k + 1 = off + (((ks.drop off.toNat).take (pre.length + 1)).length : Int) := by
        rw [List.length_take, List.length_drop]; omega
      subst hg
      rw [e5] at lN
      exact hQ _ e2 _ _ ys _ _ _ _ lF.keep (lN _ (.head _)).1 (lN _ (.tail _ (.head _))).1 hI8 (lN _ (.tail _ (.head _))).2.2 (lN _ (.head _)).2.2
    · refine stop_mk ?_
      rename Fr _ _ _ _ => lF
      rename News _ _ _ _ => lN
      rename ¬ _ < 128 => hhigh
      refine kst_end () lF lN (fun p hp => List.mem_append_left _ hp) (fun p hp => List.mem_append_right _ hp) rfl trivial (fun p hp => nomatch hp) (fun z h1 _ _ => by simp [kstB, h1]) ?_
      rw [List.length_append, List.length_singleton, high_more (by omega : off.toNat + pre.length < ks.length)]
      intro x hx
      rcases List.mem_append.mp hx with q | q
      · exact hP x q
      · rw [List.mem_singleton.mp q]
        have e : k.toNat = off.toNat + pre.length := by omega
        rw [← e]; omega
  case done =>
    clear lF lN
    rintro - u h₁ tk₁ - hP F N
    dsimp only at hP F N ⊢
    k_steps
    refine hN ?_ _ _ (hg ▸ F.keep)
    rw [rangeKs_length, List.take_of_length_le (by rw [List.length_drop]; omega)] at hP
    exact takeM_none hP
end
end Mine
end
section
theorem Mine.offF7 : True := by w_top off; exact True.intro
local macro_rules | `(tactic| walk_at "none of these") => `(tactic| fail "none")
open PySem PySem.W PyProof.Rows PySem.Spec PySem.Calls
set_option Elab.async false
set_option maxRecDepth 100000
set_option maxHeartbeats 8000000
set_option pp.deepTerms false
set_option pp.deepTerms.threshold 5
namespace Mine
def rsum : List Int → Int
  | [] => 0
  | x :: r => x % 128 + 128 * rsum r
theorem pow_7 (j : Nat) : (2 : Int) ^ Int.toNat ((j : Int) * 7 + 4) = 16 * 128 ^ j := by
  have e : Int.toNat ((j : Int) * 7 + 4) = 7 * j + 4 := by omega
  rw [e, Int.pow_add, Int.pow_mul, Int.mul_comm]
  rfl
theorem dec_ring (z b p r : Int) : z + b * (16 * p) + 16 * (p * 128) * r = z + 16 * p * (b + 128 * r) := by
  simp only [Int.mul_add, Int.add_assoc, Int.mul_comm, Int.mul_left_comm, Int.mul_assoc]
theorem fresh_hidden {h : Heap} {a d : Addr} (e : (hideAll h [a]).get? d = none) (n : d ≠ a) : h.get? d = none := by
  cases q : h.get? d with
  | none => rfl
  | some o => rw [hideAll_get _ q fun z => n (List.mem_singleton.mp z)] at e; cases e
theorem items_ind {prog : Program} {w : World} {A : Around} {E : Value → Shared → Prop} {h₀ : Heap} {env : Env} {target : Expr} {body : List Stmt} {Q : Flow → Shared → Prop} {s : Shared} {ws : List (Addr × String)} {keep news : List (Addr × Obj)}
    (P : Nat → List Value → (Str → Option Value) → Prop) (hk : SubL keep news)
    (step : ∀ (j : Nat) v r m, P j (v :: r) m → ∀ T t h tk, IsTup h T #[.int (j : Int) t, v] → Fr h₀ env.locals h m → AllObj ws (fun its => News h₀ env.locals h (its ++ news) →
      wpAny (model prog w) A (assign target env (.ref T)) (fun _ s₂ => wpAny (model prog w) A (execs body env) (UnrPostW h₀ env.locals { s with heap := h, toks := tk } its (fun m' n' => n' = news ∧ P (j + 1) r m') Q) E s₂) E { s with heap := h, toks := tk }))
    (fin : ∀ j m, P j [] m → ∀ h tk, Fr h₀ env.locals h m → News h₀ env.locals h news → Q .next { s with heap := h, toks := tk }) :
    ∀ (vs : List Value) (j : Nat) (m : Str → Option Value), P j vs m → ItemsRest prog w A E h₀ env target body Q s ws keep (enumItems j vs) m news
  | [], j, m, hp => ItemsRest.zero (fin j m hp)
  | v :: r, j, m, hp => ItemsRest.pair fun T t h tk hT F => by
    have mono : ∀ (ws : List (Addr × String)) (k k' : List (Addr × Obj) → Prop), (∀ its, k its → k' its) → AllObj ws k → AllObj ws k' := by
      intro ws
      induction ws with
      | nil => intro k k' e x; exact e _ x
      | cons a r ih => intro k k' e x o ho; exact ih _ _ (fun its => e _) (x o ho)
    refine mono _ _ _ (fun its g N => ?_) (step j v r m hp T t h tk hT F)
    refine wpAny_mono (g N) (fun _ s₂ y => wpAny_mono y (fun f s₃ z => ?_) fun _ _ e => e) fun _ _ e => e
    cases f with
    | ret v => exact z
    | brk => exact z
    | next =>
      obtain ⟨h', tk', m', news', e, F', N', off, rfl, hp'⟩ := z
      exact ⟨h', tk', m', _, e, F', N', off, hk, items_ind P hk step fin r (j + 1) m' hp'⟩
    | cont =>
      obtain ⟨h', tk', m', news', e, F', N', off, rfl, hp'⟩ := z
      exact ⟨h', tk', m', _, e, F', N', off, hk, items_ind P hk step fin r (j + 1) m' hp'⟩
section
local macro_rules | `(tactic| walk_at "exec For Tuple Call cons nil") => `(tactic| refine stop_of ?_)
local macro_rules | `(tactic| walk_at "call type:enumerate") => `(tactic| refine stop_of ?_)
theorem dec_spec {prog : Program} {w : World} {mean : ExcName → Option Value} {mg mb : Str → Option Value} {A₀ : Around} {base h₀ : Heap} {env : Env} {L : Addr} {m : Str → Option Value} {s : Shared}
    {Q E : Value → Shared → Prop} {a : Addr} {vs : List Value} {n : Nat} {ks : List Int}
    (C : At w mean mg mb (callerA.deeper env) A₀ base h₀ [] env L m s.heap) (ha : News h₀ L s.heap [(a, W.listOf vs.toArray n)]) (hI : IntsAre vs ks) (hkl : ks.length ≤ 11) (hk1 : 0 < ks.length) (hr : ∀ k ∈ ks, 0 ≤ k ∧ k < 256)
    (hQ : ∀ d t1 t2 h' tk, s.heap.StaysIn h' → s.heap.get? d = none → h'.get? d = some { cls := .type "tuple", data := .seq #[.int ((ks.getD 0 0) / 16 % 8) t1, .int ((ks.getD 0 0) % 16 + 16 * rsum (ks.drop 1)) t2] } → Q (.ref d) { s with heap := h', toks := tk }) :
    wpAny (model prog w) (callerA.deeper env) (call (.ref 56) [.ref a]) Q E s := by
  refine wpAny_call ?_
  (k_dflt (refine' call_listM (by assumption) (by assumption) ?k6 ?k7 ?k8 ?k9 ?kB ?_ ?c2 ?c3 ?c4 ?c5; (case k6 => k_is); (case k7 => k_is); (case k8 => k_room); (case k9 => exact BindsTo.of_eq rfl); (case kB => exact locs rfl); (case c2 => exact rfl); (case c3 => exact rfl); (case c4 => exact rfl); (case c5 => decide)))
  have ha0 := (ha _ (.head _)).1
  clear C ha
  intro g L' h' hg F' N' B' X' T'; (try dsimp only)
  replace F' : Fr g L' h' (kstB (fun _ => none) [("raw", .ref a)]) := fr_lookup F'
  replace F' : Fr g L' h' (fun y => if y = "raw" then some (.ref a) else none) := F'
  have hvl : vs.length ≤ 11 := hI.length ▸ hkl
  have hv1 : 0 < vs.length := hI.length ▸ hk1
  (try k_fold)
  k_steps
  refine stop_mk ?_
  rename Fr _ _ _ _ => lF
  rename News _ _ _ _ => lN
  refine For_turns lF ?_
  k_steps
  refine stop_mk ?_
  rename Fr _ _ _ _ => lF
  rename News _ _ _ _ => lN
  rename IntsAre _ (List.drop 1 ks) => hI1
  rename_i l ws hh _ _ _
  obtain ⟨tz, tt, lF⟩ : ∃ tz tt, Fr g L' hh (fun y => if y = "size" then some (.int (Builtin.bitAnd (ks.getD (Int.toNat 0) 0) 15) tz) else if y = "type_num" then some (.int (Builtin.bitAnd ((ks.getD (Int.toNat 0) 0).fdiv (2 ^ Int.toNat 4)) 7) tt) else if y = "raw" then some (.ref a) else none) := ⟨_, _, lF⟩
  refine ktu_enum rfl lF lN (.head _) rfl rfl rfl fun I hI => ?_
  refine items_ind (P := fun j r m => ∃ (u : Str → Option Value) (rk : List Int) (z : Int) (t : Tok), IntsAre r rk ∧ rk = (ks.drop 1).drop j ∧ z + 16 * 128 ^ j * rsum rk = (ks.getD 0 0) % 16 + 16 * rsum (ks.drop 1) ∧
    m = fun (y : Str) => if y = "byte" then u y else if y = "i" then u y else if y = "size" then some (.int z t) else if y = "type_num" then some (.int (Builtin.bitAnd ((ks.getD (Int.toNat 0) 0).fdiv (2 ^ Int.toNat 4)) 7) tt) else if y = "raw" then some (.ref a) else none) ?sub ?step ?fin _ _ _ ?start
  case sub => exact ⟨.head _, trivial⟩
  case start =>
    refine ⟨fun (y : Str) => if y = "size" then some (.int (Builtin.bitAnd (ks.getD (Int.toNat 0) 0) 15) tz) else if y = "type_num" then some (.int (Builtin.bitAnd ((ks.getD (Int.toNat 0) 0).fdiv (2 ^ Int.toNat 4)) 7) tt) else if y = "raw" then some (.ref a) else none, _, Builtin.bitAnd (ks.getD (Int.toNat 0) 0) 15, tz, hI1, rfl, ?_, ?_⟩
    · rw [and_15]; simp
    · funext y
      by_cases h1 : y = "byte"
      · rw [if_pos h1]
      · rw [if_neg h1]
        by_cases h2 : y = "i"
        · rw [if_pos h2]
        · rw [if_neg h2]
  case step =>
    clear lF lN
    rintro j v r m ⟨u, rk, z, t, hIr, hrk, hz, rfl⟩ T tj h9 tk9 hT F
    obtain ⟨b, rk', tb, rfl, rfl, hIr'⟩ : ∃ b rk' tb, v = .int b tb ∧ rk = b :: rk' ∧ IntsAre r rk' := by cases hIr; exact ⟨_, _, _, rfl, rfl, by assumption⟩
    intro o1 c1 o2 c2 N
    (try dsimp only at *)
    have hj : j ≤ 9 := by
      have := congrArg List.length hrk
      rw [List.length_cons, List.length_drop, List.length_drop] at this
      omega
    have hj' : (j : Int) ≤ 9 := by omega
    have hba : 0 ≤ Builtin.bitAnd b 127 ∧ Builtin.bitAnd b 127 < 128 := by rw [and_127]; omega
    k_steps
    rename Fr _ _ _ _ => lF
    rename News _ _ _ _ => lN
    rw [and_127, pow_7 j] at lF
    obtain ⟨tn, lF⟩ : ∃ tn, Fr g L' _ (fun (y : Str) => if y = "size" then some (.int (z + b % 128 * (16 * 128 ^ j)) tn) else if y = "byte" then some (.int b tb) else if y = "i" then some (.int (j : Int) tj) else if y = "byte" then u y else if y = "i" then u y else if y = "size" then some (.int z t) else if y = "type_num" then some (.int (Builtin.bitAnd ((ks.getD (Int.toNat 0) 0).fdiv (2 ^ Int.toNat 4)) 7) tt) else if y = "raw" then some (.ref a) else none) := ⟨_, lF⟩
    have n1 : Value.type "list" ≠ Value.type "enumerate" := by decide
    have n2 : Value.type "list" ≠ Value.type "list_iterator" := by decide
    refine UnrEndW.intro lF lN [(l, W.listOf ws.toArray 0), (a, W.listOf vs.toArray n)] ⟨.head _, .tail _ (.head _), trivial⟩ ⟨.tail _ (.tail _ (.head _)), .tail _ (.tail _ (.tail _ (.head _))), trivial⟩
      ⟨⟨.inr (by rw [c1]; exact n1), .inr (by rw [c2]; exact n2), trivial⟩, ⟨.inr (by rw [c1]; exact n1), .inr (by rw [c2]; exact n2), trivial⟩, trivial⟩ ⟨rfl, ?_⟩
    refine ⟨fun (y : Str) => if y = "byte" then some (.int b tb) else some (.int (j : Int) tj), rk', z + b % 128 * (16 * 128 ^ j), tn, hIr', ?_, ?_, ?_⟩
    · have := congrArg List.tail hrk
      rw [List.tail_cons, List.tail_drop] at this
      exact this
    · rw [← hz, rsum, Int.pow_succ]
      exact dec_ring _ _ _ _
    · funext y
      by_cases h1 : y = "byte"
      · subst h1; rfl
      · by_cases h2 : y = "i"
        · subst h2; rfl
        · by_cases h3 : y = "size"
          · subst h3; rfl
          · simp only [if_neg h1, if_neg h2, if_neg h3]
  case fin =>
    clear lF lN
    rintro j m ⟨u, rk, z, t, hIr, hrk, hz, rfl⟩ h9 tk9 F N
    obtain rfl : rk = [] := by cases hIr; rfl
    k_steps
    rename Fr _ _ _ _ => lF
    rename News _ _ _ _ => lN
    subst hg
    have ez : z = (ks.getD 0 0) % 16 + 16 * rsum (ks.drop 1) := by rw [← hz, rsum]; omega
    have ek : Builtin.bitAnd ((ks.getD (Int.toNat 0) 0).fdiv (2 ^ Int.toNat 4)) 7 = (ks.getD 0 0) / 16 % 8 := by
      rw [fdiv_16]; exact kbt_mask _ 3
    rw [ek, ez] at lN
    refine hQ _ _ _ _ _ (hidden_stays ha0 (lN _ (.tail _ (.tail _ (.head _)))).1 lF.keep) (fresh_hidden (lN _ (.head _)).2.2 fun e => ?_) (lN _ (.head _)).1
    have h1 := (lN _ (.head _)).1
    have h2 := (lN _ (.tail _ (.tail _ (.head _)))).1
    dsimp only at e h1 h2
    rw [e, h2] at h1
    exact absurd (congrArg Obj.cls (Option.some.inj h1)) (show Value.type "list" ≠ Value.type "tuple" by decide)
end
end Mine
end
section
theorem Mine.offAde : True := by w_top off; exact True.intro
open PySem PySem.W PyProof.Rows PySem.Spec PySem.Calls
set_option Elab.async false
set_option maxRecDepth 100000
set_option maxHeartbeats 8000000
set_option pp.deepTerms false
set_option pp.deepTerms.threshold 7
namespace Mine
abbrev adeObj : Obj := excClassObj (Str.ofString "ApplyDeltaError") (Str.ofString "ApplyDeltaError") 39 38 [.type "Exception"] [.type "Exception", .type "BaseException", .type "object"] true [] [] false none none (some (.ref 22)) none (some (.str (Str.ofString "ApplyDeltaError") 196)) (some (.str (Str.ofString "ApplyDeltaError") 204)) (some (.bool true)) "Exception.__new__"
theorem ade_in {p : Params} : (Mine.hd.heap_39 p).lookup 39 = some adeObj := rfl
section
variable {prog : Program} {w : World} {mean : ExcName → Option Value} {mg mb : Str → Option Value} {A A₀ : Around} {base h₀ : Heap} {outer : List Env} {env : Env} {L : Addr} {m : Str → Option Value}
  {h : Heap} {g : Array GenState} {d : Drawn} {t : Nat} {os : OsState} {E : Value → Shared → Prop}
theorem ns_some_of {K : Frag} {h : Heap} {N : Addr} {mg : Str → Option Value} {n : Str} {v : Value} (X : K.In h) (G : h.Ns N mg) (e : nsIn K N n = some (some v)) : mg n = some v := by
  obtain ⟨o, es, ep, ho, hd, _, hf⟩ := G
  unfold nsIn at e
  split at e
  · rename_i c d es' n' sl q
    have := X _ _ q
    rw [ho] at this
    cases this
    cases hd
    split at e
    · rename_i en he
      cases e
      rw [← hf]
      unfold nsFind findBy
      rw [← Array.find?_toList, he]
      rfl
    · split at e <;> cases e
  · cases e
theorem ade_ns (X : (Mine.hd.heap_39 w.params).In h) : ∃ mN, h.Ns 38 mN ∧ mN "__init__" = some (.ref 36) := by
  have e1 : nsOkIn (Mine.hd.heap_39 w.params) 38 = true := by kernel_rfl
  have e2 : nsIn (Mine.hd.heap_39 w.params) 38 "__init__" = some (some (.ref 36)) := by kernel_rfl
  have G : h.Ns 38 (h.nsMap 38) := .of_isNs (isNs_of_in X e1)
  exact ⟨_, G, ns_some_of X G e2⟩
local macro_rules | `(tactic| walk_at "getMethod type:Exception") => `(tactic| (k_here; refine' method_type ?F ?X ?m (by decide +kernel) ?e ?h ?_; (case F => k_asm); (case X => k_asm); (case m => exact rfl); (case e => k_dflt k_is); (case h => k_handed)))
local macro_rules | `(tactic| walk_at "call builtin:Exception.__init__") => `(tactic| refine stop_of ?_)
theorem ade_type (C : At w mean mg mb A A₀ base h₀ outer env L m h) (hr : A.depth < recursionLimit) {msg : Str} {tm : Tok} {Q : Fin → Shared → Prop}
    (hq : ∀ h' e tk, Heap.MadeExcOf h h' e (.ref 39) [.str msg tm] → Q (.done (.ret (.ref e))) ⟨h', g, d, tk, os⟩) :
    wpAny (model prog w) A (Builtin.«type.__call__» ⟨[.ref 39, .str msg tm], []⟩) Q E ⟨h, g, d, t, os⟩ := by
  have X := C.X.keeps C.F.keep
  have hC : h.get? 39 = some adeObj := X _ _ ade_in
  obtain ⟨mN, hn, hni⟩ := ade_ns X
  have F := PySem.F.excBase_Exception
  repeat (first | with_reducible refine wpAny_loadPart_at hC ?_ | with_reducible refine wpAny_madeBy_exc hC ?_ | wp_step)
  refine codeAny_call_builtin_code (Code.quiet_builtin _ F.quiet) (wpAny_check_new_sub F hC ?_)
  refine codeAny_exc_new_sub F hC ?_ (by size_fits)
  show wpAny _ _ _ _ _ _
  have hC₁ := Heap.get?_push_of_some { cls := .ref 39, data := .fields #[.ref h.objs.size, .none, .none, .none, .bool false, .none] }
    (Heap.get?_push_of_some { cls := .type "tuple", data := .seq [Value.str msg tm].toArray } hC)
  have hn₁ : ((h.push { cls := .type "tuple", data := .seq [Value.str msg tm].toArray }).push { cls := .ref 39, data := .fields #[.ref h.objs.size, .none, .none, .none, .bool false, .none] }).Ns 38 mN :=
    let ⟨o, es, ep, e, r⟩ := hn; ⟨o, es, ep, Heap.get?_push_of_some _ (Heap.get?_push_of_some _ e), r⟩
  have hget : ((h.push { cls := .type "tuple", data := .seq [Value.str msg tm].toArray }).push
      { cls := .ref 39, data := .fields #[.ref h.objs.size, .none, .none, .none, .bool false, .none] }).get? (h.objs.size + 1) = some
      { cls := .ref 39, data := .fields #[.ref h.objs.size, .none, .none, .none, .bool false, .none] } := by heap_get
  have hcC : (Value.ref 39 :: [Value.type "Exception", .type "BaseException", .type "object"]).contains (.ref 39) = true := by simp
  unfold isInstance
  repeat (first | with_reducible refine wpAny_loadPart_at hget ?_ | (with_reducible refine wpAny_isSubtype_exc hC₁ ?_; rw [hcC]) | wp_step)
  show wpAny _ _ (typeLookup (.ref 39) _) _ _ _
  refine wpAny_typeLookup_exc hC₁ hn₁ F.mroIs F.init.lookup ?_
  rw [hni]
  refine wpAny_holding ?_
  have k1 : h.StaysIn ((h.push { cls := .type "tuple", data := .seq [Value.str msg tm].toArray }).push { cls := .ref 39, data := .fields #[.ref h.objs.size, .none, .none, .none, .bool false, .none] }) := fun b o e => Heap.get?_push_of_some _ (Heap.get?_push_of_some _ e)
  have X₁ : (Mine.hd.heap_39 w.params).In _ := X.keeps k1
  have C₁ : At w mean mg mb A A₀ base h₀ outer env L m _ := (show At w mean mg mb A A₀ base h₀ outer env L m (⟨h, g, d, t, os⟩ : Shared).heap from C).stays k1
  have N₁ : News h₀ L ((h.push { cls := .type "tuple", data := .seq [Value.str msg tm].toArray }).push { cls := .ref 39, data := .fields #[.ref h.objs.size, .none, .none, .none, .bool false, .none] }) [(h.objs.size + 1, { cls := .ref 39, data := .fields #[.ref h.objs.size, .none, .none, .none, .bool false, .none] })] := fun p hp => by
    rcases List.mem_singleton.mp hp with rfl
    have hLl : L < h.objs.size := C.F.ns.lt
    refine ⟨hget, Nat.ne_of_gt (Nat.lt_succ_of_lt hLl), ?_⟩
    cases q : h₀.get? (h.objs.size + 1) with
    | none => rfl
    | some o => exact absurd (Heap.lt_size (C.F.keep _ _ q)) (Nat.not_lt.mpr (Nat.le_succ _))
  refine wpAny_bind ((bind_fn (M := model prog w) X₁ _ (by k_is : typeIn (Mine.hd.heap_39 w.params) (.ref 36) = some (.type "function"))).here ?_)
  refine wpAny_bind (wpAny_call ?_)
  show codeAny _ _ (.call (.ref 36) ⟨[.ref (h.objs.size + 1), .str msg tm], []⟩) _ _
  have hd1 : A.depth < recursionLimit := hr
  (k_dflt (refine' call_listM (by assumption) (by assumption) ?k6 ?k7 ?k8 ?k9 ?kB ?_ ?c2 ?c3 ?c4 ?c5; (case k6 => k_is); (case k7 => k_is); (case k8 => assumption); (case k9 => first | exact binds_K (by k_in) rfl (by k_is) rfl rfl rfl | exact BindsTo.of_eq rfl); (case kB => exact locs rfl); (case c2 => exact rfl); (case c3 => exact rfl); (case c4 => exact rfl); (case c5 => decide)))
  intro g9 L' h' hg F' N' B' X' T'; (try dsimp only)
  k_steps
  refine stop_mk ?_
  have hC9 : h'.get? 39 = some adeObj := (X'.keeps F'.keep) _ _ ade_in
  have hget9 := (N' _ (.head _)).1
  have hkeep : ∀ b o, h.get? b = some o → b ≠ h.objs.size + 1 ∧ h'.get? b = some o := fun b o e => by
    have hb : b ≠ h.objs.size + 1 := Nat.ne_of_lt (Nat.lt_succ_of_lt (Heap.lt_size e))
    exact ⟨hb, F'.keep b o (hg ▸ hideAll_get _ (k1 b o e) fun q => hb (List.mem_singleton.mp q))⟩
  clear hg F' N' B' X' T' C C₁ N₁ X₁ hC₁ hn₁ hget hcC k1
  refine wpAny_call (codeAny_call_builtin F.init.plain F.initEntry (wpAny_check_init_sub F hC9 hget9 rfl ?_))
  wp_walk
  have hlt : h.objs.size + 1 < h'.objs.size := Heap.lt_size hget9
  refine hq _ _ _ ⟨fun b o e => ?_, Heap.get?_none_of_le (Nat.le_succ _), h'.objs.size, ?_, Heap.get?_none_of_le (Nat.le_of_lt (Nat.lt_of_succ_lt hlt)), ?_⟩
  · rw [Heap.get?_update_other _ _ (hkeep b o e).1.symm]
    exact Heap.get?_push_of_some _ (hkeep b o e).2
  · rw [Heap.get?_update_self _ (Heap.get?_push_of_some _ hget9) rfl]
    rfl
  · rw [Heap.get?_update_other _ _ (Nat.ne_of_lt hlt)]
    exact Heap.get?_push_at rfl rfl
theorem ade_call (C : At w mean mg mb A A₀ base h₀ outer env L m h) (hr : A.depth + 1 < recursionLimit) {msg : Str} {tm : Tok} {Q : Value → Shared → Prop}
    (hq : ∀ h' e tk, Heap.MadeExcOf h h' e (.ref 39) [.str msg tm] → Q (.ref e) ⟨h', g, d, tk, os⟩) :
    wpAny (model prog w) A (call (.ref 39) [.str msg tm]) Q E ⟨h, g, d, t, os⟩ := by
  have hC : h.get? 39 = some adeObj := (C.X.keeps C.F.keep) _ _ ade_in
  have f1 := tc_lookup
  have f2 := tc_bind (.ref 39)
  have hT : (⟨h, g, d, t, os⟩ : Shared).TypeIs (.ref 39) "type" := ⟨_, hC, rfl⟩
  refine wpAny_call (codeAny_of_tree ?_)
  show wpAny _ _ (callAny (.ref 39) _) _ _ _
  repeat (any_goals (first | assumption | with_reducible refine wpAny_loadPart_at hC ?_ | wp_step))
  refine ⟨rfl, ?_⟩
  refine codeAny_call_builtin_at (Code.quiet_builtin _ (by decide +kernel)) entry_typeCall (wpAny_check_type_call_sub hC (ade_type ⟨C.B, C.F, C.X, C.T, ?_, C.hf, C.hk⟩ ?_ fun h' e tk hm => ?_))
  · exact C.hA
  · exact hr
  · exact hq h' e tk hm
theorem ade_raise {M : Model} {x : Str} {args : List Expr} {s : Shared} {np cpos pos : Pos} {Q : Flow → Shared → Prop} (hh : A.handled = none)
    (h1 : wpAny M A (eval (.Name x np) env) (fun f s₁ => wpAny M A (callWith cpos f [] (backTo cpos (starEach args env)) (backToKw cpos (keywordEach [] env)))
      (fun v s₃ => ∃ e t, v = .ref e ∧ s₃.heap.get? 39 = some adeObj ∧ s₃.heap.get? e = some { cls := .ref 39, data := .fields #[.ref t, .none, .none, .none, .bool false, .none] } ∧ E (.ref e) s₃) E s₁) E s) :
    wpAny M A (exec (.Raise (some (.Call (.Name x np) args [] cpos)) none pos) env) Q E s := by
  rw [arm_exec_Raise]
  simp only [evalOpt, Option.map]
  exact wpAny_bind (wpAny_standAt (wpAny_raiseStmt_made_sub (C := 39) (nm := Str.ofString "ApplyDeltaError") (q := Str.ofString "ApplyDeltaError") (N := 38) (bs := [.type "Exception"]) (hdct := true) (sn := []) (sub := []) (ab := false) (col := none) (dd := none) (k0 := some (.ref 22)) (k1 := none) (k2 := some (.str (Str.ofString "ApplyDeltaError") 196)) (k3 := some (.str (Str.ofString "ApplyDeltaError") 204)) (k5 := some (.bool true)) (newId := "Exception.__new__") PySem.F.excBase_Exception.hasBase hh (wpAny_bind (wpAny_mono (wpAny_Call_ofName h1) (fun v s₃ h₃ => wpAny_bind (wpAny_standAt (wpAny_pure h₃))) fun _ _ x => x))))
end
end Mine
end
section
theorem Mine.offF8 : True := by w_top off; exact True.intro
open PySem PySem.W PyProof.Rows PySem.Spec PySem.Calls
set_option Elab.async false
set_option maxRecDepth 100000
set_option maxHeartbeats 8000000
set_option pp.deepTerms false
set_option pp.deepTerms.threshold 5
namespace Mine
/-- the distance that the octets tell -/
def decD (acc : Int) : List Int → Int
  | [] => acc
  | x :: r => decD ((acc + 1) * 128 + x % 128) r
theorem bits_le {a : Int} {k : Nat} (h : a.natAbs < 2 ^ k) : Builtin.Int.intBits a ≤ k := by
  unfold Builtin.Int.intBits
  split
  · omega
  · rename_i h0
    have := (Nat.log2_lt (n := a.natAbs) (k := k) (by simpa using h0)).mpr h
    omega
theorem decD_snoc : ∀ (R : List Int) (acc x : Int), decD acc (R ++ [x]) = (decD acc R + 1) * 128 + x % 128
  | [], acc, x => rfl
  | y :: R, acc, x => decD_snoc R _ x
theorem decD_lt : ∀ (R : List Int) (acc : Int), 0 ≤ acc ∧ acc < 256 → 0 ≤ decD acc R ∧ decD acc R < 256 ^ (R.length + 1) := by
  have key : ∀ (R : List Int) (acc : Int) (k : Nat), 0 ≤ acc ∧ acc < 256 ^ k → 1 ≤ k → 0 ≤ decD acc R ∧ decD acc R < 256 ^ (k + R.length) := by
    intro R
    induction R with
    | nil => intro acc k h _; exact h
    | cons x R ih =>
      intro acc k h hk
      have e : (256 : Int) ^ (k + 1) = 256 ^ k * 256 := Int.pow_succ ..
      have := ih ((acc + 1) * 128 + x % 128) (k + 1) ⟨by omega, by omega⟩ (by omega)
      rw [decD, List.length_cons, show k + (R.length + 1) = k + 1 + R.length by omega]
      exact this
  intro R acc h
  have := key R acc 1 (by simpa using h) (Nat.le_refl _)
  rwa [Nat.add_comm] at this
theorem dicts_hide {fs : List Addr} {h : Heap} {a : Addr} (D : KtsDicts fs h) (k : ∀ b ∈ fs, b ≠ a) : KtsDicts fs (hideAll h [a]) := fun b hb => by
  obtain ⟨o, es, n, ho, hd⟩ := D b hb
  exact ⟨o, es, n, hideAll_get _ ho fun q => k b hb (List.mem_singleton.mp q), hd⟩
section
local macro_rules | `(tactic| walk_at "exec For") => `(tactic| refine stop_of ?_)
local macro_rules | `(tactic| walk_at "exec Raise some none") => `(tactic| refine stop_of ?_)
local macro_rules | `(tactic| walk_at "pyIter ref") => `(tactic| ((with_reducible show wpAny _ _ (pyIter (Value.ref _)) (fun it s₂ => LoopAtV _ _ _ _ _ _ _ _ _ it s₂) _ _); refine stop_of ?_))
local macro_rules | `(tactic| walk_at "InvEndN") => `(tactic| refine stop_of ?_)
local macro_rules | `(tactic| walk_at "inplaceOp LShift int int") => `(tactic| refine stop_of ?_)
local macro_rules | `(tactic| walk_at "call ref") => `(tactic| refine stop_of ?_)
theorem del_spec {prog : Program} {w : World} {mean : ExcName → Option Value} {mg mb : Str → Option Value} {A₀ : Around} {base h₀ : Heap} {e1 env : Env} {L : Addr} {m : Str → Option Value} {s : Shared}
    {Q E : Value → Shared → Prop} {a : Addr} {vs : List Value} {n : Nat} {ks : List Int}
    (C : At w mean mg mb ((callerA.deeper e1).deeper env) A₀ base h₀ [e1] env L m s.heap) (D : KtsDicts ([e1].filterMap (·.frame)) h₀) (ha : News h₀ L s.heap [(a, W.listOf vs.toArray n)]) (hI : IntsAre vs ks) (hkl : ks.length ≤ 10) (hk1 : 0 < ks.length) (hr : ∀ k ∈ ks, 0 ≤ k ∧ k < 256)
    (hA : Builtin.bitAnd (ks.getD (-1 + (ks.length : Int)).toNat 0) 128 ≠ 0 → ∀ e news h' tk, (a, W.listOf vs.toArray n) ∈ news → RaisedSN base (hideAll s.heap [a]) [env, e1] e (.type "AssertionError") news h' → (hideAll s.heap [a]).UpToSlots h' → E (.ref e) { s with heap := h', toks := tk })
    (hZ : Builtin.bitAnd (ks.getD (-1 + (ks.length : Int)).toNat 0) 128 = 0 → decD (ks.getD 0 0 % 128) (ks.drop 1) = 0 → ∀ e t us news h' tk, (a, W.listOf vs.toArray n) ∈ news → RaisedS base (hideAll s.heap [a]) [env, e1] e (.ref 39) t us news h' → (hideAll s.heap [a]).UpToSlots h' → E (.ref e) { s with heap := h', toks := tk })
    (hV : Builtin.bitAnd (ks.getD (-1 + (ks.length : Int)).toNat 0) 128 = 0 → decD (ks.getD 0 0 % 128) (ks.drop 1) ≠ 0 → ∀ t h' tk, s.heap.StaysIn h' → Q (.int (decD (ks.getD 0 0 % 128) (ks.drop 1)) t) { s with heap := h', toks := tk }) :
    wpAny (model prog w) ((callerA.deeper e1).deeper env) (call (.ref 63) [.ref a]) Q E s := by
  refine wpAny_call ?_
  have D' : KtsDicts ([env, e1].filterMap (·.frame)) (hideAll s.heap [a]) := by
    refine dicts_hide (C.dicts D) fun b hb => ?_
    have h0 := ha _ (.head _)
    obtain ⟨ev, he, hf⟩ := List.mem_filterMap.mp hb
    rcases List.mem_cons.mp he with rfl | he
    · intro q
      subst q
      exact h0.2.1 (Option.some.inj (hf.symm.trans C.hf))
    · obtain ⟨o, es, nn, ho, _⟩ := D b (List.mem_filterMap.mpr ⟨ev, he, hf⟩)
      intro q
      rw [q, h0.2.2] at ho; cases ho
  (k_dflt (refine' call_listM (by assumption) (by assumption) ?k6 ?k7 ?k8 ?k9 ?kB ?_ ?c2 ?c3 ?c4 ?c5; (case k6 => k_is); (case k7 => k_is); (case k8 => k_room); (case k9 => exact BindsTo.of_eq rfl); (case kB => exact locs rfl); (case c2 => exact rfl); (case c3 => exact rfl); (case c4 => exact rfl); (case c5 => decide)))
  have ha0 := (ha _ (.head _)).1
  clear C ha D
  intro g L' h' hg F' N' B' X' T'; (try dsimp only)
  rw [← hg] at D'
  replace F' : Fr g L' h' (kstB (fun _ => none) [("raw", .ref a)]) := fr_lookup F'
  replace F' : Fr g L' h' (fun y => if y = "raw" then some (.ref a) else none) := F'
  have hvl : vs.length ≤ 10 := hI.length ▸ hkl
  have hv1 : 0 < vs.length := hI.length ▸ hk1
  (try k_fold)
  k_steps
  · refine stop_mk ?_
    refine Raise_classB rfl excClass_AssertionError (by rw [isSubtype_type]; kernel_rfl) (name_B F' X' (topRead_of T') (by k_is) (v := .type "AssertionError") Boot.«AssertionError» (by decide) ⟨rfl, rfl⟩ rfl rfl) fun h9 e9 hx9 => ?_
    k_steps
    rename RaisedSN _ _ _ _ _ _ _ => hS
    rename Heap.UpToSlots _ _ => hU
    subst hg
    rw [hI.length] at *
    exact hA (by assumption) _ _ _ _ (by k_mem) hS hU
  · refine stop_mk ?_
    refine For_invV g rfl rfl ?_
    k_steps
    refine stop_mk ?_
    rename Fr _ _ _ _ => lF
    rename News _ _ _ _ => lN
    rename IntsAre _ (List.drop 1 ks) => hI1
    rename_i D9 ws hh _ _ _
    obtain ⟨tz, lF⟩ : ∃ tz, Fr g L' hh (fun (y : Str) => if y = "delta_base_offset" then some (.int (Builtin.bitAnd (ks.getD (Int.toNat 0) 0) 127) tz) else if y = "raw" then some (.ref a) else none) := ⟨_, lF⟩
    rw [and_127] at lF
    refine' kst_listL (σ := Int × Tok) (fun _ => [(D9, W.listOf ws.toArray 0), (a, W.listOf vs.toArray n)]) (fun c => [("delta_base_offset", .int c.1 c.2)]) (fun _ => True) [] (fun pre c => c.1 = decD (ks.getD 0 0 % 128) pre) (ks.getD 0 0 % 128, tz) rfl (fun _ => .head _) hI1 lF lN trivial ?kk rfl ?turn ?done
    case kk => kst_all
    case turn =>
      clear lF lN
      rintro ⟨z, tk⟩ pre post b tb u h₁ tk₁ own hpp hb hoff - hP F N
      dsimp only at hP F N ⊢
      have hpl : pre.length ≤ 9 := by
        have := congrArg List.length hpp
        rw [List.length_append, List.length_drop] at this
        omega
      have hz := decD_lt pre (ks.getD 0 0 % 128) (by omega)
      rw [← hP] at hz
      (try k_fold)
      k_steps
      refine stop_mk ?_
      have hzb : Builtin.Int.intBits (z + 1) ≤ 100 := bits_le (by
        have h1 : 256 ^ (pre.length + 1) ≤ 256 ^ 10 := Nat.pow_le_pow_right (by decide) (by omega)
        have h2 : (((256 ^ (pre.length + 1) : Nat)) : Int) = (256 : Int) ^ (pre.length + 1) := Int.natCast_pow 256 _
        omega)
      refine ilshift_int (by decide) (by omega) ?_
      k_steps
      refine stop_mk ?_
      rename Fr _ _ _ _ => lF
      rename News _ _ _ _ => lN
      refine' kst_end ((z + 1) * 2 ^ Int.toNat 7 + Builtin.bitAnd b 127, _) lF lN (fun p hp => List.mem_append_left _ hp) (fun p hp => List.mem_append_right _ hp) rfl trivial (by kst_all) (by intro z h1 h2 h3; simp only [List.forall_mem_cons, List.not_mem_nil, false_implies, implies_true, and_true, ne_eq] at h2; simp [kstB, h1, h2]) ?_
      dsimp only
      rw [hP, decD_snoc, and_127]; rfl
    case done =>
      clear lF lN
      rintro ⟨z, tk⟩ u h₁ tk₁ - hP F N
      obtain rfl : z = decD (ks.getD 0 0 % 128) (ks.drop 1) := hP
      dsimp only at F N ⊢
      k_steps
      · rename decD _ _ = 0 => hz0
        refine stop_mk ?_
        refine ade_raise rfl ?_
        k_steps
        refine stop_mk (ade_call ⟨B', F, X', T', rfl, rfl, rfl⟩ (by k_room) fun h9 e9 tk9 hm => ?_)
        obtain ⟨t9, ht1, ht2, ht3⟩ := hm.there
        refine ⟨e9, t9, rfl, hm.keeps _ _ ((X'.keeps F.keep) _ _ ade_in), ht1, ?_⟩
        have hm' := hm
        k_steps
        rename RaisedS _ _ _ _ _ _ _ _ _ => hS
        rename Heap.UpToSlots _ _ => hU
        subst hg
        rw [hI.length] at *
        exact hZ (by assumption) hz0 _ _ _ _ _ _ (by k_mem) hS hU
      · rename Fr _ _ _ _ => lF
        rename News _ _ _ _ => lN
        dsimp only
        rw [hI.length] at *
        exact hV (by assumption) (by assumption) _ _ _ (hidden_stays ha0 (lN _ (.tail _ (.head _))).1 (hg ▸ lF.keep))
end
end Mine
end
section
theorem Mine.offF9 : True := by w_top off; exact True.intro
open PySem PySem.W PyProof.Rows PySem.Spec PySem.Calls
set_option Elab.async false
set_option maxRecDepth 100000
set_option maxHeartbeats 8000000
set_option pp.deepTerms false
set_option pp.deepTerms.threshold 5
namespace Mine
theorem Turned.hidden {L a : Addr} {h g' h' : Heap} {o oL : Obj} (hL : h.get? L = some oL) (hne : a ≠ L) (ha : h.get? a = some o) (T : KtsTurn [L] (hideAll h [a]) g') (k : g'.StaysIn h') (ha' : h'.get? a = some o) : Turned L h h' := by
  obtain ⟨T', S⟩ := kts_turn_at (h := h') (fs := [L]) (g := h) (fun b hb => by rw [List.mem_singleton.mp hb]; exact ⟨oL, hL⟩)
    (fun b o' e nm => by
      by_cases q : b = a
      · rw [q, ha] at e; cases e; rw [q]; exact ha'
      · exact k _ _ (T.other b o' (hideAll_get _ e fun z => q (List.mem_singleton.mp z)) nm))
    (fun b o' e hm => by
      have hb := List.mem_singleton.mp hm
      have q : b ≠ a := fun z => hne (z ▸ hb)
      obtain ⟨sl, hs⟩ := T.frame b o' (hideAll_get _ e fun z => q (List.mem_singleton.mp z)) hm
      exact ⟨sl, k _ _ hs⟩)
  exact ⟨_, T', S⟩
theorem fr_hide {h₀ h : Heap} {L a : Addr} {o : Obj} {m : Str → Option Value} (F : Fr h₀ L h m) (N : h.get? a = some o ∧ a ≠ L ∧ h₀.get? a = none) : Fr h₀ L (hideAll h [a]) m := by
  obtain ⟨oL, es, ep, q, r⟩ := F.ns
  refine ⟨⟨oL, es, ep, hideAll_get _ q fun z => N.2.1 (List.mem_singleton.mp z).symm, r⟩, fun b o' e => hideAll_get _ (F.keep b o' e) fun z => ?_, F.above⟩
  rw [List.mem_singleton.mp z, N.2.2] at e; cases e
section
local macro_rules | `(tactic| walk_at "call ref") => `(tactic| refine stop_of ?_)
theorem far_spec {prog : Program} {w : World} {mean : ExcName → Option Value} {mg mb : Str → Option Value} {A₀ : Around} {base h₀ : Heap} {env : Env} {L : Addr} {m : Str → Option Value} {s : Shared}
    {Q E : Value → Shared → Prop} {a : Addr} {vs : List Value} {n : Nat} {ks : List Int}
    (C : At w mean mg mb (callerA.deeper env) A₀ base h₀ [] env L m s.heap) (XB : (Mine.hd.heap_39 w.params).In base) (TB : Top Mine.hd.view_39 (looseW Mine.hd.view_39 [Str.ofString "ApplyDeltaError"]) mean mg mb base)
    (ha : News h₀ L s.heap [(a, W.listOf vs.toArray n)]) (hI : IntsAre vs ks) (hkl : ks.length ≤ 10) (hk1 : 0 < ks.length) (hr : ∀ k ∈ ks, 0 ≤ k ∧ k < 256)
    (hA : Builtin.bitAnd (ks.getD (-1 + (ks.length : Int)).toNat 0) 128 ≠ 0 → ∀ t h' tk, Turned L s.heap h' → Q (.str "no end" t) { s with heap := h', toks := tk })
    (hZ : Builtin.bitAnd (ks.getD (-1 + (ks.length : Int)).toNat 0) 128 = 0 → decD (ks.getD 0 0 % 128) (ks.drop 1) = 0 → ∀ t h' tk, Turned L s.heap h' → Q (.str "itself" t) { s with heap := h', toks := tk })
    (hV : Builtin.bitAnd (ks.getD (-1 + (ks.length : Int)).toNat 0) 128 = 0 → decD (ks.getD 0 0 % 128) (ks.drop 1) ≠ 0 → ∀ t h' tk, Turned L s.heap h' → Q (.int (decD (ks.getD 0 0 % 128) (ks.drop 1)) t) { s with heap := h', toks := tk }) :
    wpAny (model prog w) (callerA.deeper env) (call (.ref 127) [.ref a]) Q E s := by
  refine wpAny_call ?_
  have hfL : [env].filterMap (·.frame) = [L] := by simp [C.hf]
  have h0 := ha _ (.head _)
  obtain ⟨oL, hoL⟩ : ∃ oL, s.heap.get? L = some oL := by
    obtain ⟨oL, es, ep, q, _⟩ := C.F.ns
    exact ⟨oL, q⟩
  have D' : KtsDicts ([env].filterMap (·.frame)) (hideAll s.heap [a]) := by
    refine dicts_hide (C.dicts ktsDicts_nil) fun b hb => ?_
    rw [hfL] at hb
    rw [List.mem_singleton.mp hb]
    exact h0.2.1.symm
  (k_dflt (refine' call_listM (by assumption) (by assumption) ?k6 ?k7 ?k8 ?k9 ?kB ?_ ?c2 ?c3 ?c4 ?c5; (case k6 => k_is); (case k7 => k_is); (case k8 => k_room); (case k9 => exact BindsTo.of_eq rfl); (case kB => exact locs rfl); (case c2 => exact rfl); (case c3 => exact rfl); (case c4 => exact rfl); (case c5 => decide)))
  clear C ha
  intro g L' h' hg F' N' B' X' T'; (try dsimp only)
  rw [← hg] at D'
  replace F' : Fr g L' h' (kstB (fun _ => none) [("octets", .ref a)]) := fr_lookup F'
  replace F' : Fr g L' h' (fun y => if y = "octets" then some (.ref a) else none) := F'
  (try k_fold)
  k_steps
  refine stop_mk ?_
  rename Fr _ _ _ _ => lF
  rename News _ _ _ _ => lN
  refine del_spec ⟨B', lF, X', T', rfl, rfl, rfl⟩ D' lN hI hkl hk1 hr ?_ ?_ ?_
  · intro hc e news h9 tk9 hmem hS hU
    have lF := fr_hide lF (lN _ (.head _))
    clear lN
    k_steps
    rename KtsTurn _ _ _ => hT
    rename Fr _ _ _ _ => lF2
    rename News _ _ _ _ => lN2
    rw [hfL] at hT
    subst hg
    exact hA hc _ _ _ (Turned.hidden hoL h0.2.1 h0.1 hT lF2.keep (lN2 _ hmem).1)
  · intro hc hz e t us news h9 tk9 hmem hS hU
    have lF := fr_hide lF (lN _ (.head _))
    clear lN
    k_steps
    rename KtsTurn _ _ _ => hT
    rename Fr _ _ _ _ => lF2
    rename News _ _ _ _ => lN2
    rw [hfL] at hT
    subst hg
    exact hZ hc hz _ _ _ (Turned.hidden hoL h0.2.1 h0.1 hT lF2.keep (lN2 _ hmem).1)
  · intro hc hz t h9 tk9 k
    k_steps
    refine hV hc hz _ _ _ (.of (hidden_stays h0.1 (k _ _ (lN _ (.head _)).1) fun b o e => k b o (lF.keep b o (hg ▸ e))))
end
end Mine
end
section
theorem Mine.offF10 : True := by w_top off; exact True.intro
open PySem PySem.W PyProof.Rows PySem.Spec PySem.Calls
set_option Elab.async false
set_option maxRecDepth 100000
set_option maxHeartbeats 8000000
set_option pp.deepTerms false
set_option pp.deepTerms.threshold 5
namespace Mine
section
local macro_rules | `(tactic| walk_at "exec While Name cons nil") => `(tactic| refine stop_of ?_)
local macro_rules | `(tactic| walk_at "exec If") => `(tactic| refine stop_of ?_)
local macro_rules | `(tactic| walk_at "KswEnd") => `(tactic| refine stop_of ?_)
theorem pack_raises {prog : Program} {w : World} {mean : ExcName → Option Value} {mg mb : Str → Option Value} {A₀ : Around} {base h₀ : Heap} {env : Env} {L : Addr} {m : Str → Option Value} {s : Shared}
    {Q E : Value → Shared → Prop} (size : Int) {b : Array UInt8} (x : Addr) (t1 t2 tb : Tok)
    (C : At w mean mg mb (callerA.deeper env) A₀ base h₀ [] env L m s.heap) (hs : 0 ≤ size ∧ size < 2 ^ 70)
    {dx : Addr} {es : List DictEntry} {ne : Nat} {t3 : Tok} (hx : s.heap.get? x = some (instObj 94 dx)) (hdx : s.heap.get? dx = some (dictOf es ne)) (hes : getL "oid_length" es = some (some (.int 20 t3)))
    (hb : b.size < 20) (hE : ∀ e news h' tk, RaisedSN base s.heap [env] e (.type "AssertionError") news h' → s.heap.UpToSlots h' → E (.ref e) { s with heap := h', toks := tk }) :
    wpAny (model prog w) (callerA.deeper env) (call (.ref 70) [.int 7 t1, .bytes b tb, .int size t2, .ref x]) Q E s := by
  refine wpAny_call ?_
  have D' := C.dicts ktsDicts_nil
  (k_dflt (refine' call_plainM (by assumption) ?k6 ?k7 ?k8 ?k9 ?kB ?_ ?c2 ?c3 ?c4 ?c5; (case k6 => k_is); (case k7 => k_is); (case k8 => k_room); (case k9 => exact BindsTo.of_eq rfl); (case kB => exact locs rfl); (case c2 => exact rfl); (case c3 => exact rfl); (case c4 => exact rfl); (case c5 => decide)))
  clear C
  intro g L' h' hg F' N' B' X' T'; (try dsimp only)
  rw [← hg] at hx hdx D'
  have hk : (0 : Int) ≤ 7 ∧ (7 : Int) < 8 := ⟨by decide, by decide⟩
  replace F' : Fr g L' h' (kstB (fun _ => none) [("object_format", .ref x), ("size", .int size t2), ("delta_base", .bytes b tb), ("type_num", .int 7 t1)]) := fr_lookup F'
  replace F' : Fr g L' h' (fun y => if y = "object_format" then some (.ref x) else if y = "size" then some (.int size t2) else if y = "delta_base" then some (.bytes b tb) else if y = "type_num" then some (.int 7 t1) else none) := F'
  (try k_fold)
  k_steps
  refine stop_mk ?_
  rename Fr _ _ _ _ => lF
  rename News _ _ _ _ => lN
  rename_i l _ _ _ _ _
  have e4 : (7 : Int) * 2 ^ Int.toNat 4 = 112 := rfl
  rw [or_first hk, fdiv_16] at lF
  refine' ksw_while (σ := List Value × List Int × Int × Tok × Int × Tok × Nat) (fun c => [(l, W.listOf c.1.toArray c.2.2.2.2.2.2)]) (fun c => [("size", .int c.2.2.2.2.1 c.2.2.2.2.2.1), ("c", .int c.2.2.1 c.2.2.2.1)])
    (fun c => IntsAre c.1 c.2.1 ∧ (0 ≤ c.2.2.1 ∧ c.2.2.1 < 128) ∧ 0 ≤ c.2.2.2.2.1 ∧ c.2.1 ++ cont (c.2.2.1 :: digs c.2.2.2.2.1.toNat) = hdL 7 size) [] (fun _ => True) (fun c => c.2.2.2.2.1.toNat) ([], [], 7 * 16 + size % 16, _, size / 16, _, 0) lF lN ?facts ?names trivial ?turn
  case facts => exact ⟨.nil, ⟨by dsimp only; omega, by dsimp only; omega⟩, by dsimp only; omega, rfl⟩
  case names => kst_all
  case turn =>
    clear lF lN
    rintro ⟨vs, D, c, tkc, sz, tks, n⟩ u h₁ tk₁ ⟨hI, hc, h0, hD⟩ - F N
    dsimp only at hI hc h0 hD F N ⊢
    have hDl : D.length ≤ 11 := by
      have := hdL_length (kind := 7) hs
      rw [← hD, List.length_append] at this; omega
    have hV : vs.length ≤ 11 := hI.length ▸ hDl
    (try k_fold)
    k_steps
    · refine stop_mk ?_
      rename sz ≠ 0 => hsz
      have e7 : sz.fdiv (2 ^ Int.toNat 7) = sz / 128 := fdiv_128 sz
      rename Fr _ _ _ _ => lF
      rename News _ _ _ _ => lN
      rw [or_128 hc] at lN
      rw [and_127, e7] at lF
      refine' ksw_end (vs ++ [.int (c + 128) _], D ++ [c + 128], sz % 128, _, sz / 128, _, n + 1) lF (by simp only [List.push_toArray] at lN; exact lN) (by intro p hp; exact hp) ?_ (by kst_all) (by intro z h2 h3; simp only [List.forall_mem_cons, List.not_mem_nil, false_implies, implies_true, and_true, ne_eq] at h2; simp [kstB, h2]) trivial ?_
      · refine ⟨IntsAre.append hI (.cons _ _ .nil), ⟨by dsimp only; omega, by dsimp only; omega⟩, by dsimp only; omega, ?_⟩
        dsimp only
        rw [← hD, cont_more c (n := sz.toNat) (by omega), List.append_assoc, List.singleton_append]
        congr 2
        congr 1
        have e1 : ((sz.toNat % 128 : Nat) : Int) = sz % 128 := by omega
        have e2 : (sz / 128).toNat = sz.toNat / 128 := by omega
        rw [e1, e2]
      · dsimp only; omega
    · refine stop_mk ?_
      rename sz = 0 => hsz
      subst hsz
      refine wpAny_If ?_
      k_steps
      refine stop_mk (wpAny_If ?_)
      k_steps
      rename Fr _ _ _ _ => lF
      refine get_shape lF X' hx hdx hes ?_
      k_steps
      · omega
      · rename RaisedSN _ _ _ _ _ _ _ => hS
        rename Heap.UpToSlots _ _ => hU
        subst hg
        exact hE _ _ _ _ hS hU
end
end Mine
end
section
open PySem PySem.W PyProof.Rows
namespace Mine
theorem takeM_cont : ∀ (L : List Int) (S : List Int), L ≠ [] → (∀ x ∈ L, 0 ≤ x ∧ x < 128) → takeM (cont L ++ S) = some (cont L)
  | [], _, h, _ => absurd rfl h
  | [x], S, _, h => by
    have := h x (.head _)
    rw [cont, List.cons_append, takeM, if_pos (by omega)]
  | x :: y :: r, S, _, h => by
    have := h x (.head _)
    rw [cont, List.cons_append, takeM, if_neg (by omega), takeM_cont (y :: r) S (by simp) fun z hz => h z (.tail _ hz)]
    rfl
theorem takeM_head {kind size : Int} (hk : 0 ≤ kind ∧ kind < 8) (S : List Int) : takeM (hdL kind size ++ S) = some (hdL kind size) := by
  unfold hdL
  refine takeM_cont _ S (by simp) fun x hx => ?_
  rcases List.mem_cons.mp hx with rfl | hx
  · omega
  · exact digs_in _ x hx
theorem takeM_dist (far : Int) (S : List Int) : takeM (dsL far ++ S) = some (dsL far) := by
  have e : dsL far = front ((far / 128).toNat) [] ++ [far % 128] := by
    rw [dsL, front_acc]
    congr 1
    congr 1
    omega
  rw [e, List.append_assoc]
  exact takeM_some (fun x hx => (front_in _ x hx).1) (by omega)
end Mine
end
section
open PySem PySem.W PyProof.Rows
namespace Mine
theorem rsum_cont : ∀ L : List Int, rsum (cont L) = rsum L
  | [] => rfl
  | [_] => rfl
  | x :: y :: r => by
    rw [cont, rsum, rsum_cont (y :: r)]
    show _ = x % 128 + 128 * rsum (y :: r)
    omega
theorem rsum_digs : ∀ n : Nat, rsum (digs n) = (n : Int) := by
  intro n
  induction n using Nat.strongRecOn with
  | _ n ih =>
    by_cases h : 0 < n
    · rw [digs_pos h, rsum, ih (n / 128) (by omega)]; omega
    · obtain rfl : n = 0 := by omega
      rw [digs_zero]; rfl
theorem dec_head {kind size : Int} (hk : 0 ≤ kind ∧ kind < 8) (hs : 0 ≤ size) :
    (hdL kind size).getD 0 0 / 16 % 8 = kind ∧ (hdL kind size).getD 0 0 % 16 + 16 * rsum ((hdL kind size).drop 1) = size := by
  have h2 := rsum_digs (size / 16).toNat
  unfold hdL
  cases hd : digs (size / 16).toNat with
  | nil =>
    rw [hd] at h2
    have h3 : rsum ([] : List Int) = 0 := rfl
    show (kind * 16 + size % 16) / 16 % 8 = kind ∧ (kind * 16 + size % 16) % 16 + 16 * rsum [] = size
    omega
  | cons y r =>
    rw [hd, ← rsum_cont] at h2
    show (kind * 16 + size % 16 + 128) / 16 % 8 = kind ∧ (kind * 16 + size % 16 + 128) % 16 + 16 * rsum (cont (y :: r)) = size
    omega
def decAll : List Int → Int
  | [] => 0
  | x :: r => decD (x % 128) r
theorem decAll_front : ∀ (d : Nat) (y : Int) (r : List Int), decAll (front d (y :: r)) = decD ((d : Int) * 128 + y % 128) r := by
  intro d
  induction d using Nat.strongRecOn with
  | _ d ih =>
    intro y r
    by_cases h : 0 < d
    · rw [front_pos h, ih ((d - 1) / 128) (by omega), decD]
      congr 2
      omega
    · obtain rfl : d = 0 := by omega
      rw [front_zero]
      show decD (y % 128) r = _
      congr 1
      omega
theorem decAll_eq : ∀ {ks : List Int}, ks ≠ [] → decAll ks = decD (ks.getD 0 0 % 128) (ks.drop 1)
  | [], h => absurd rfl h
  | _ :: _, _ => rfl
theorem dsL_ne (far : Int) : dsL far ≠ [] := by
  rw [dsL, front_acc]; simp
theorem dec_far {far : Int} (h : 0 ≤ far) : decD ((dsL far).getD 0 0 % 128) ((dsL far).drop 1) = far := by
  rw [← decAll_eq (dsL_ne far), dsL, decAll_front, decD]
  omega
theorem far_last (far : Int) : Builtin.bitAnd ((dsL far).getD (-1 + ((dsL far).length : Int)).toNat 0) 128 = 0 := by
  rw [← last_get (dsL_ne far), and_128]
  have e : (dsL far).getLast (dsL_ne far) = far % 128 := by
    have : dsL far = front (far.toNat / 128) [] ++ [far % 128] := by rw [dsL, front_acc]
    simp [this]
  rw [e]; omega
theorem last_200 (R : List Int) : Builtin.bitAnd ((R ++ [(200 : Int)]).getD (-1 + (((R ++ [(200 : Int)]).length : Nat) : Int)).toNat 0) 128 ≠ 0 := by
  rw [← last_get (by simp), and_128, List.getLast_concat]
  decide
end Mine
end
section
open PySem PySem.W PyProof.Rows
set_option Elab.async false
set_option maxRecDepth 100000
namespace Mine
/-- the def that the head's theorem speaks of -/
@[reducible] noncomputable def recOf {q : Program} {loose : List Str} {XP : (Str → Option Value) → Heap → Prop} {YP : World → Heap → Prop} {r : RowW} {d : DefRec} {kwd : List (Str × Expr)} {run : Value → List Value → Sem Value} {R : Prop} (_ : WalkO q loose XP YP r d kwd run → R) : DefRec := d
@[reducible] noncomputable def lawRec : DefRec := recOf hd
@[reducible] noncomputable def loopOf : List Stmt → List Stmt
  | _ :: .For _ _ b _ _ :: _ => b
  | _ => []
@[reducible] noncomputable def loopBody : List Stmt := loopOf lawRec.body
end Mine
end
section
theorem Mine.offLaw1 : True := by w_top off; exact True.intro
open PySem PySem.W PyProof.Rows PySem.Spec PySem.Calls
set_option Elab.async false
set_option maxRecDepth 100000
set_option maxHeartbeats 8000000
set_option pp.deepTerms false
set_option pp.deepTerms.threshold 5
namespace Mine
theorem pow_bound {a e : Int} (h0 : 0 ≤ e) (h1 : e < 70) : 0 ≤ a.fmod (2 ^ Int.toNat (1 + e)) ∧ a.fmod (2 ^ Int.toNat (1 + e)) < 2 ^ 70 := by
  have hp : (0 : Int) < 2 ^ Int.toNat (1 + e) := Int.pow_pos (by decide)
  have h2 : 2 ^ Int.toNat (1 + e) ≤ 2 ^ 70 := Nat.pow_le_pow_right (by decide) (by omega)
  have h3 : (((2 ^ Int.toNat (1 + e) : Nat)) : Int) = (2 : Int) ^ Int.toNat (1 + e) := Int.natCast_pow 2 _
  have a1 := Int.fmod_nonneg_of_pos a hp
  have a2 := Int.fmod_lt_of_pos a hp
  omega
section
local macro_rules | `(tactic| walk_at "call ref") => `(tactic| refine stop_of ?_)
local macro_rules | `(tactic| walk_at "binaryOp Mult int int") => `(tactic| dsimp only)
local macro_rules | `(tactic| walk_at "binaryOp Add int int") => `(tactic| dsimp only)
local macro_rules | `(tactic| walk_at "binaryOp Mod int int") => `(tactic| dsimp only)
local macro_rules | `(tactic| walk_at "binaryOp FloorDiv int int") => `(tactic| dsimp only)
local macro_rules | `(tactic| walk_at "binaryOp Pow int int") => `(tactic| dsimp only)
local macro_rules | `(tactic| walk_at "storeName") => `(tactic| dsimp only)
theorem segA {prog : Program} {w : World} {mean : ExcName → Option Value} {mg mb : Str → Option Value} {g : Heap} {L fa : Addr} {cd : Value} {s : Shared} {u : Str → Option Value} {E : Value → Shared → Prop} {Q : Flow → Shared → Prop}
    {l x dx lst it : Addr} {n : Int} {tn t3 : Tok} {es : List DictEntry} {ne : Nat} {oq ol oi : Obj}
    (B : Below callerA g [] g) (X : (Mine.hd.heap_39 w.params).In g) (T : Top Mine.hd.view_39 (looseW Mine.hd.view_39 [Str.ofString "ApplyDeltaError"]) mean mg mb g)
    (F : Fr g L s.heap (fun y => if y = "n" then some (.int n tn) else if y = "shape" then some (.ref x) else if y = "script" then some (.ref l) else u y))
    (N : News g L s.heap [(x, instObj 94 dx), (dx, dictOf es ne), (lst, ol), (it, oi), (L + 1, oq)]) (hq : ∃ v, oq.data = .cell v) (o1 : @LT.lt Nat instLTNat (L + 1) x) (o2 : @LT.lt Nat instLTNat (L + 1) dx) (o3 : @LT.lt Nat instLTNat (L + 1) lst) (o4 : @LT.lt Nat instLTNat (L + 1) it)
    {ns : List Int} (hn : n ∈ ns) (hlay : (PyData.list (ns.map PyData.int)).layable0 = true)
    (k : ∀ (kind size far q : Int) (tkd ts tf tq to : Tok) (oct : Array UInt8) (ocs : List Int) (o2' : Obj) (h : Heap) (tok : Nat), ((kind = 1 ∨ kind = 2 ∨ kind = 3 ∨ kind = 4) ∨ kind = 6 ∨ kind = 7) → (0 ≤ size ∧ size < 2 ^ 70) → (0 ≤ far ∧ far < 2 ^ 70) →
      o2'.data = .cell (some (.int q tq)) → KBw.bInts oct = ocs → ocs.length = 20 → (∀ k ∈ ocs, 0 ≤ k ∧ k < 256) →
      Fr g L h (fun y => if y = "octets" then some (.bytes oct to) else if y = "far" then some (.int far tf) else if y = "size" then some (.int size ts) else if y = "kind" then some (.int kind tkd) else if y = "n" then some (.int n tn) else if y = "shape" then some (.ref x) else if y = "script" then some (.ref l) else u y) →
      News g L h [(x, instObj 94 dx), (dx, dictOf es ne), (lst, ol), (it, oi), (L + 1, o2')] →
      wpP (model prog w) (callerA.deeper (envOfC "law" lawRec.scope L fa cd)) (execs (loopBody.drop 5) (envOfC "law" lawRec.scope L fa cd)) Q E { s with heap := h, toks := tok }) :
    wpP (model prog w) (callerA.deeper (envOfC "law" lawRec.scope L fa cd)) (execs loopBody (envOfC "law" lawRec.scope L fa cd)) Q E s := by
  obtain ⟨v0, hq⟩ := hq
  refine wpP_execs_split 1 ?_
  dsimp only [loopBody, loopOf, lawRec, recOf, List.take, List.drop]
  refine wpP_mono (Q := fun f s' => Stop (f = .next ∧ ∃ kind tk h tok, ((kind = 1 ∨ kind = 2 ∨ kind = 3 ∨ kind = 4) ∨ kind = 6 ∨ kind = 7) ∧ s' = { s with heap := h, toks := tok } ∧
      Fr g L h (fun y => if y = "kind" then some (.int kind tk) else if y = "n" then some (.int n tn) else if y = "shape" then some (.ref x) else if y = "script" then some (.ref l) else u y) ∧
      News g L h [(x, instObj 94 dx), (dx, dictOf es ne), (lst, ol), (it, oi), (L + 1, oq)])) (E := E) ?_ ?_ (fun _ _ e => e)
  · refine wpP_of ?_
    k_steps
    all_goals
      rename Fr _ _ _ _ => lF
      rename News _ _ _ _ => lN
      exact stop_mk ⟨rfl, _, _, _, _, by decide, rfl, lF, fun p hp => lN p (.tail _ hp)⟩
  intro f s' hS
  obtain ⟨rfl, kind, tkd, h1, tok1, hkind, rfl, F, N⟩ := stop_mk hS
  dsimp only
  refine wpP_execs_split 2 ?_
  dsimp only [List.take, List.drop]
  refine wpP_of ?_
  clear hS
  k_steps
  rename Fr _ _ _ _ => lF
  rename News _ _ _ _ => lN
  rename_i o2' d2' _ hlo hhi h3
  obtain ⟨size, ts, hsz, lF⟩ : ∃ size ts, (0 ≤ size ∧ size < 2 ^ 70) ∧ Fr g L h3 (fun y => if y = "size" then some (.int size ts) else if y = "kind" then some (.int kind tkd) else if y = "n" then some (.int n tn) else if y = "shape" then some (.ref x) else if y = "script" then some (.ref l) else u y) := ⟨_, _, pow_bound hlo hhi, lF⟩
  obtain ⟨q, tq, d2⟩ : ∃ q tq, o2'.data = .cell (some (.int q tq)) := ⟨_, _, d2'⟩
  clear d2' hlo hhi
  dsimp only
  refine wpP_execs_split 1 ?_
  dsimp only [List.take, List.drop]
  refine wpP_of ?_
  k_steps
  rename Fr _ _ _ _ => lF
  rename News _ _ _ _ => lN
  rename_i hlo hhi h4
  obtain ⟨far, tf, hfar, lF⟩ : ∃ far tf, (0 ≤ far ∧ far < 2 ^ 70) ∧ Fr g L h4 (fun y => if y = "far" then some (.int far tf) else if y = "size" then some (.int size ts) else if y = "kind" then some (.int kind tkd) else if y = "n" then some (.int n tn) else if y = "shape" then some (.ref x) else if y = "script" then some (.ref l) else u y) := ⟨_, _, pow_bound hlo hhi, lF⟩
  clear hlo hhi
  dsimp only
  refine wpP_execs_split 1 ?_
  dsimp only [List.take, List.drop]
  refine wpP_of ?_
  k_steps
  rename Fr _ _ _ _ => lF
  rename News _ _ _ _ => lN
  rename KBa.In _ => hin
  rename_i h5
  dsimp only
  exact k kind size far q tkd ts tf tq _ _ _ o2' h5 _ hkind hsz hfar d2 (KBa.ints_make hin) (by rw [List.length_map, rangeKs_length]; rfl) hin lF fun p hp => lN p (.tail _ hp)
end
end Mine
end
section
theorem Mine.offLaw2 : True := by w_top off; exact True.intro
open PySem PySem.W PyProof.Rows PySem.Spec PySem.Calls
set_option Elab.async false
set_option maxRecDepth 100000
set_option maxHeartbeats 8000000
set_option pp.deepTerms false
set_option pp.deepTerms.threshold 5
namespace Mine
/-- what the turn knows of the base and the tail -/
def BaseIs (kind far : Int) (tf : Tok) (oct : Array UInt8) (to : Tok) (ocs : List Int) (bv : Value) (T : List Int) : Prop :=
  ((kind = 1 ∨ kind = 2 ∨ kind = 3 ∨ kind = 4) ∧ T = []) ∨ (kind = 6 ∧ bv = .int far tf ∧ T = dsL far) ∨ (kind = 7 ∧ bv = .bytes oct to ∧ T = ocs)
section
local macro_rules | `(tactic| walk_at "call ref") => `(tactic| refine stop_of ?_)
local macro_rules | `(tactic| walk_at "storeName") => `(tactic| dsimp only)
set_option hygiene false in
local macro_rules | `(tactic| walk_at "m head") => `(tactic| (
      refine stop_mk ?_
      rename Fr _ _ _ _ => lF
      rename News _ _ _ _ => lN
      refine head_spec _ size _ _ ⟨B, lF, X, T, rfl, rfl, rfl⟩ hk8 hsz fun t9 h9 k9 st => ?_
      replace lF := fr_stays lF st
      replace lN := news_stays lN st
      clear st
      k_steps
      rename Fr _ _ _ _ => lF
      rename News _ _ _ _ => lN
      rename_i h10
      dsimp only))
theorem segB {prog : Program} {w : World} {mean : ExcName → Option Value} {mg mb : Str → Option Value} {g : Heap} {L fa : Addr} {cd : Value} {s : Shared} {u : Str → Option Value} {E : Value → Shared → Prop} {Q : Flow → Shared → Prop}
    {l x dx lst it : Addr} {n : Int} {tn : Tok} {es : List DictEntry} {ne : Nat} {oq ol oi : Obj}
    (B : Below callerA g [] g) (X : (Mine.hd.heap_39 w.params).In g) (T : Top Mine.hd.view_39 (looseW Mine.hd.view_39 [Str.ofString "ApplyDeltaError"]) mean mg mb g)
    {kind size far : Int} {tkd ts tf to : Tok} {oct : Array UInt8} {ocs : List Int} (hkind : (kind = 1 ∨ kind = 2 ∨ kind = 3 ∨ kind = 4) ∨ kind = 6 ∨ kind = 7) (hsz : 0 ≤ size ∧ size < 2 ^ 70) (hfar : 0 ≤ far ∧ far < 2 ^ 70)
    (hoc : KBw.bInts oct = ocs) (hol : ocs.length = 20) (hoi : ∀ k ∈ ocs, 0 ≤ k ∧ k < 256)
    (F : Fr g L s.heap (fun y => if y = "octets" then some (.bytes oct to) else if y = "far" then some (.int far tf) else if y = "size" then some (.int size ts) else if y = "kind" then some (.int kind tkd) else if y = "n" then some (.int n tn) else if y = "shape" then some (.ref x) else if y = "script" then some (.ref l) else u y))
    (N : News g L s.heap [(x, instObj 94 dx), (dx, dictOf es ne), (lst, ol), (it, oi), (L + 1, oq)])
    (k : ∀ (bv : Value) (tl : Array UInt8) (T : List Int) (tt th : Tok) (h : Heap) (tok : Nat), BaseIs kind far tf oct to ocs bv T → KBw.bInts tl = T → T.length ≤ 20 → (∀ k ∈ T, 0 ≤ k ∧ k < 256) →
      Fr g L h (fun y => if y = "head" then some (.bytes (byteArr (hdL kind size)) th) else if y = "tail" then some (.bytes tl tt) else if y = "base" then some bv else if y = "octets" then some (.bytes oct to) else if y = "far" then some (.int far tf) else if y = "size" then some (.int size ts) else if y = "kind" then some (.int kind tkd) else if y = "n" then some (.int n tn) else if y = "shape" then some (.ref x) else if y = "script" then some (.ref l) else u y) →
      News g L h [(x, instObj 94 dx), (dx, dictOf es ne), (lst, ol), (it, oi), (L + 1, oq)] →
      wpP (model prog w) (callerA.deeper (envOfC "law" lawRec.scope L fa cd)) (execs (loopBody.drop 8) (envOfC "law" lawRec.scope L fa cd)) Q E { s with heap := h, toks := tok }) :
    wpP (model prog w) (callerA.deeper (envOfC "law" lawRec.scope L fa cd)) (execs (loopBody.drop 5) (envOfC "law" lawRec.scope L fa cd)) Q E s := by
  have hk8 : 0 ≤ kind ∧ kind < 8 := by omega
  refine wpP_execs_split 3 ?_
  dsimp only [loopBody, loopOf, lawRec, recOf, List.take, List.drop] at k ⊢
  refine wpP_of ?_
  rcases hkind with hkind | rfl | rfl
  · have h6 : kind ≠ 6 := by omega
    have h7 : kind ≠ 7 := by omega
    k_steps
    · exact absurd (by assumption) h6
    · exact absurd (by assumption) h7
    · exact absurd (by assumption) h6
    · exact absurd (by assumption) h7
    · walk_at "m head"
      exact k .none #[] [] _ t9 h10 _ (.inl ⟨hkind, rfl⟩) rfl (by decide) (fun _ hk => nomatch hk) lF lN
  · k_steps
    refine stop_mk ?_
    rename Fr _ _ _ _ => lF
    rename News _ _ _ _ => lN
    refine dist_spec far tf ⟨B, lF, X, T, rfl, rfl, rfl⟩ hfar fun t8 h8 k8 st => ?_
    replace lF := fr_stays lF st
    replace lN := news_stays lN st
    clear st
    k_steps
    walk_at "m head"
    exact k (.int far tf) _ (dsL far) t8 t9 h10 _ (.inr (.inl ⟨rfl, rfl, rfl⟩)) (KBa.ints_make fun k hk => dsL_in k hk) (Nat.le_trans (dsL_length hfar) (by decide)) (fun k hk => dsL_in k hk) lF lN
  · k_steps
    walk_at "m head"
    exact k (.bytes oct to) oct ocs to t9 h10 _ (.inr (.inr ⟨rfl, rfl, rfl⟩)) hoc (Nat.le_of_eq hol) hoi lF lN
end
end Mine
end
section
theorem Mine.offLaw3 : True := by w_top off; exact True.intro
local macro_rules | `(tactic| walk_at "none of these") => `(tactic| fail "none")
open PySem PySem.W PyProof.Rows PySem.Spec PySem.Calls
set_option Elab.async false
set_option maxRecDepth 100000
set_option maxHeartbeats 8000000
set_option pp.deepTerms false
set_option pp.deepTerms.threshold 5
namespace Mine
theorem ints_inj {a b : Array UInt8} (h : KBw.bInts a = KBw.bInts b) : a = b := by
  have key : ∀ (l r : List UInt8), l.map (fun c => (c.toNat : Int)) = r.map (fun c => (c.toNat : Int)) → l = r := by
    intro l
    induction l with
    | nil => intro r e; cases r with | nil => rfl | cons _ _ => cases e
    | cons x l ih =>
      intro r e
      cases r with
      | nil => cases e
      | cons y r =>
        rw [List.map_cons, List.map_cons, List.cons.injEq] at e
        rw [ih r e.2, UInt8.toNat_inj.mp (Int.ofNat.inj e.1)]
  exact Array.ext' (key _ _ h)
theorem ints_app (a b : Array UInt8) : KBw.bInts (a ++ b) = KBw.bInts a ++ KBw.bInts b := by
  unfold KBw.bInts
  rw [Array.toList_append, List.map_append]
section
local macro_rules | `(tactic| walk_at "call ref") => `(tactic| refine stop_of ?_)
local macro_rules | `(tactic| walk_at "storeName") => `(tactic| dsimp only)
local macro_rules | `(tactic| walk_at "compareOp NotEq bytes bytes") => `(tactic| refine stop_of ?_)
theorem segC {prog : Program} {w : World} {mean : ExcName → Option Value} {mg mb : Str → Option Value} {g : Heap} {L fa : Addr} {cd : Value} {s : Shared} {u : Str → Option Value} {E : Value → Shared → Prop} {Q : Flow → Shared → Prop}
    {l x dx lst it : Addr} {n : Int} {tn t3 : Tok} {es : List DictEntry} {ne : Nat} {oq ol oi : Obj}
    (B : Below callerA g [] g) (X : (Mine.hd.heap_39 w.params).In g) (T : Top Mine.hd.view_39 (looseW Mine.hd.view_39 [Str.ofString "ApplyDeltaError"]) mean mg mb g)
    {kind size far : Int} {tkd ts tf to tt th : Tok} {oct tl : Array UInt8} {ocs Tl : List Int} {bv : Value} (hkind : (kind = 1 ∨ kind = 2 ∨ kind = 3 ∨ kind = 4) ∨ kind = 6 ∨ kind = 7) (hsz : 0 ≤ size ∧ size < 2 ^ 70) (hfar : 0 ≤ far ∧ far < 2 ^ 70)
    (hoc : KBw.bInts oct = ocs) (hol : ocs.length = 20) (hB : BaseIs kind far tf oct to ocs bv Tl) (htl : KBw.bInts tl = Tl) (hTl : Tl.length ≤ 20) (hTi : ∀ k ∈ Tl, 0 ≤ k ∧ k < 256) (hes : getL "oid_length" es = some (some (.int 20 t3)))
    (F : Fr g L s.heap (fun y => if y = "head" then some (.bytes (byteArr (hdL kind size)) th) else if y = "tail" then some (.bytes tl tt) else if y = "base" then some bv else if y = "octets" then some (.bytes oct to) else if y = "far" then some (.int far tf) else if y = "size" then some (.int size ts) else if y = "kind" then some (.int kind tkd) else if y = "n" then some (.int n tn) else if y = "shape" then some (.ref x) else if y = "script" then some (.ref l) else u y))
    (N : News g L s.heap [(x, instObj 94 dx), (dx, dictOf es ne), (lst, ol), (it, oi), (L + 1, oq)])
    (k : ∀ (h : Heap) (tok : Nat),
      Fr g L h (fun y => if y = "head" then some (.bytes (byteArr (hdL kind size)) th) else if y = "tail" then some (.bytes tl tt) else if y = "base" then some bv else if y = "octets" then some (.bytes oct to) else if y = "far" then some (.int far tf) else if y = "size" then some (.int size ts) else if y = "kind" then some (.int kind tkd) else if y = "n" then some (.int n tn) else if y = "shape" then some (.ref x) else if y = "script" then some (.ref l) else u y) →
      News g L h [(x, instObj 94 dx), (dx, dictOf es ne), (lst, ol), (it, oi), (L + 1, oq)] →
      wpP (model prog w) (callerA.deeper (envOfC "law" lawRec.scope L fa cd)) (execs (loopBody.drop 9) (envOfC "law" lawRec.scope L fa cd)) Q E { s with heap := h, toks := tok }) :
    wpP (model prog w) (callerA.deeper (envOfC "law" lawRec.scope L fa cd)) (execs (loopBody.drop 8) (envOfC "law" lawRec.scope L fa cd)) Q E s := by
  have hk8 : 0 ≤ kind ∧ kind < 8 := by omega
  dsimp only [loopBody, loopOf, lawRec, recOf, List.drop] at k ⊢
  refine wpP_execs_cons (wpP_If (wpP_Compare1 (wpP_Call ?_)))
  refine nameX_B F X (topRead_of T) (by k_is) (v := .type "bytes") (by boot_by_name) (by decide) ?_ rfl rfl
  refine callWith_type1P (wpP_Call ?_)
  refine nameX_K F X (topRead_of T) (v := .ref 70) (by k_is) ?_ rfl rfl
  refine callWith_refP (K := Mine.hd.heap_39 w.params) (by k_is) ?_
  k_steps
  refine pack_spec kind size bv x _ _ ⟨B, by assumption, X, T, rfl, rfl, rfl⟩ hk8 hsz (dx := dx) (es := es) (ne := ne) (t3 := t3) (N _ (.head _)).1 (N _ (.tail _ (.head _))).1 hes (T := Tl) ?_ fun S h9 k9 st hS1 hS2 => ?_
  · rcases hB with ⟨a, b⟩ | ⟨a, b, c⟩ | ⟨a, b, c⟩
    · exact .inl ⟨by omega, by omega, b⟩
    · exact .inr (.inl ⟨a, far, tf, b, hfar, c⟩)
    · exact .inr (.inr ⟨a, oct, to, b, by rw [← KBw.ints_length, hoc, hol], by rw [c, hoc]⟩)
  have hH := hdL_length (kind := kind) hsz
  have hin : ∀ z ∈ hdL kind size ++ Tl, 0 ≤ z ∧ z < 256 := fun z hz => (List.mem_append.mp hz).elim (hdL_in hk8 z) (hTi z)
  have hsize : (byteArr (hdL kind size ++ Tl)).size ≤ sizeLine := by
    rw [← KBw.ints_length, KBa.ints_make hin, List.length_append, sizeLine_eq]; omega
  refine wpP_of (call_bytes_ba hS2 hsize fun t kk => ?_)
  have lF := fr_stays F st
  have lN := news_stays N st
  clear F N
  k_steps
  refine stop_mk (ne_bytes ?_)
  have eb : byteArr (hdL kind size ++ Tl) = byteArr (hdL kind size) ++ tl := ints_inj (by rw [KBa.ints_make hin, ints_app, KBa.ints_make (hdL_in hk8), htl])
  rw [eb, bne_self_eq_false]
  k_steps
  exact wpP_execs_nil (k h9 _ lF lN)
end
end Mine
end
section
open PySem PySem.W PyProof.Rows PySem.Spec PySem.Calls
set_option Elab.async false
set_option maxRecDepth 100000
namespace Mine
section
variable {prog : Program} {w : World} {A : Around} {E : Value → Shared → Prop} {h₀ : Heap} {L : Addr} {m : Str → Option Value} {env : Env} {s : Shared} {x : Str} {px : Pos} {scope : Scope} {cl : List (Str × Addr)} {pos : Pos} {Q : Value → Shared → Prop} {elt iter : Expr} {news : List (Addr × Obj)} {b : Array UInt8} {t : Tok} {ks : List Int}
theorem ListComp_B (F : Fr h₀ L s.heap m) (N : News h₀ L s.heap news) (hh : A.handled = none)
    (hclos : closureFor scope env = pure cl) (hcell : ∀ y ∈ scope.names, y.2 ≠ .cell) (hkind : scope.kind = .function)
    (hnames : ∀ y ∈ scope.names, y.2 = .local → scope.names.lookup y.1 = some .local) (hx : scope.names.lookup x = some .local)
    (hb : KBw.bInts b = ks) (hsz : ks.length ≤ sizeLine)
    (hi : wpAny (model prog w) A (eval iter env) (fun v s₁ => v = .bytes b t ∧ s₁ = s) E s)
    (turn : ∀ k t I oI C oC D m₂ ys h tk (E' : Value → Shared → Prop), k ∈ ks → LCg.NsObj oC m₂ → m₂ x = some (.int k t) → Fr h₀ L h m → News h₀ L h ((I, oI) :: (C, oC) :: (D, LCg.lst ys) :: news) → LCg.Off3 I C D news → ((@Ne Nat I C) ∧ (@Ne Nat I D) ∧ (@Ne Nat C D)) → KPfMark →
      wpAny (model prog w) A (eval elt (compEnvC scope cl C env)) (LCg.CompEnd h₀ L m { s with heap := h, toks := tk } I oI C oC D (LCg.lst ys) (fun _ => True) (fun y news' => KCfEl news k y news')) E' { s with heap := h, toks := tk })
    (done : ∀ D h tk ys, IntsAre ys ks → Fr h₀ L h m → News h₀ L h ((D, LCg.lst ys) :: news) → LCg.Off1 D news → Q (.ref D) { s with heap := h, toks := tk })
    (hs : ∀ x, foldedSetIterable iter env x = pure x := by intro _; rfl) :
    wpAny (model prog w) A (eval (.ListComp elt [⟨.Name x px, iter, [], 0⟩] scope pos) env) Q E s := by
  rw [eval_ListComp]
  refine wpAny_comprehension_free (use := none) rfl hs hclos hkind hnames (wpAny_mono hi (fun xv s₁ h₁ => ?_) fun _ _ e => e)
  obtain ⟨rfl, rfl⟩ := h₁
  refine KBw.pyIter_bytes ?_
  refine LCg.block_U (S := fun _ => True) (Fin := LCg.FinE h₀ L m s₁ Q) (KBw.walks hh s₁.heap.objs.size b t) (by rw [← KBw.ints_length, hb]; exact hsz) (fun i h st => by obtain ⟨o, e, _⟩ := st; exact ⟨o, e⟩)
    (fun i h h' o nw st e e' _ _ _ => by obtain ⟨o', q, r⟩ := st; rw [e] at q; cases q; exact ⟨o, e', r⟩) hcell hkind hx ⟨_, Heap.get?_push_size _ rfl, rfl, rfl⟩ (fun c hc => ?_)
    (F.keeps fun _ _ e => Heap.get?_push_of_some _ e) (N.grown fun _ _ e => Heap.get?_push_of_some _ e) (Nat.ne_of_lt F.ns.lt) (next_is_new F) (fun p hp => Nat.ne_of_lt (Heap.lt_size (N p hp).1)) trivial ?_ ?_
  · rw [List.mem_singleton.mp hc]
    show s₁.heap.objs.size < (s₁.heap.push _).objs.size
    rw [Heap.size_push]; exact Nat.lt_succ_self _
  · refine kcf_rest (ks := ks) (fun k => k) (by rw [← hb, KBw.ints_length]) (fun i v hi hv => ?_) (fun k t I oI C oC D m₂ ys h tk E' hk hC hx F N off ne mk => turn k t I oI C oC D m₂ ys h tk E' hk hC hx F N off ne mk) ?_
    · obtain ⟨c, u, hc, rfl⟩ := hv
      exact ⟨_, u, hb ▸ KBw.ints_get hc, rfl⟩
    · intro ys hy D h tk F' N' o
      rw [List.map_id'] at hy
      exact done D h tk ys hy F' N' o
  · intro D C h tk m' ys news' F' N' o1 hn hC₀ hD₀ hCL hDL hCD offC fin
    refine ⟨m', hn, fun h'' hs'' => fin D h'' tk (F'.change hs'' hCL hC₀) (fun p hp => ?_) o1⟩
    refine ⟨hs''.extBut _ _ ?_ (N' p hp).1, (N' p hp).2⟩
    rcases List.mem_cons.mp hp with rfl | hp
    · exact Ne.symm hCD
    · exact offC p hp
end
end Mine
end
section
open PySem PySem.W PyProof.Rows PySem.Spec PySem.Calls
set_option Elab.async false
set_option maxRecDepth 100000
namespace Mine
section
variable {prog : Program} {w : World} {A : Around} {E : Value → Shared → Prop} {s : Shared} {Q : Value → Shared → Prop}
theorem eqv_pair (ns : List Int) (i : Int) : PyData.eqv (.tuple [.list (ns.map PyData.int), .int i]) (.tuple [.list (ns.map PyData.int), .int i]) = true := by
  have h1 : PyData.eqv (.list (ns.map PyData.int)) (.list (ns.map PyData.int)) = true := by
    rw [← SeqAt.same_eq_eqv _ _ (SeqAt.noMix_of_shape (.list .int) rfl _ _ (list_map_has fun _ => rfl) (list_map_has fun _ => rfl)), ke_same]
    simp
  simp [PyData.eqv, PyData.eqvAll] at h1 ⊢
  exact h1
theorem shaped_pair (ns : List Int) (i : Int) : SeqAt.shaped (.tuple [.list (ns.map PyData.int), .int i]) = true := by
  simp [SeqAt.shaped, PyData.canLay0, PyData.canLayAll0, PyData.depth, PyData.depthAll, ke_canLayAll0, ke_depthAll]
theorem reads_pair {h : Heap} {d a : Addr} {vs : List Value} {ns : List Int} {n k : Nat} {i : Int} {t : Tok} (hd : h.get? d = some { cls := .type "tuple", data := .seq #[.ref a, .int i t] k }) (ha : h.get? a = some (W.listOf vs.toArray n)) (hI : IntsAre vs ns) :
    ∃ as, Reads h (.ref d) (.tuple [.list (ns.map PyData.int), .int i]) as :=
  ⟨_, reads_tuple_at hd rfl rfl (ReadsAll.cons (reads_newData ⟨_, ha, rfl, n, rfl⟩ (ke_carried hI)) (ReadsAll.cons (Reads.int _ _) ReadsAll.nil))⟩
theorem ne_pair {d a d' a' : Addr} {vs vs' : List Value} {ns : List Int} {n n' k k' : Nat} {i : Int} {t t' : Tok}
    (hd : s.heap.get? d = some { cls := .type "tuple", data := .seq #[.ref a, .int i t] k }) (ha : s.heap.get? a = some (W.listOf vs.toArray n)) (hI : IntsAre vs ns)
    (hd' : s.heap.get? d' = some { cls := .type "tuple", data := .seq #[.ref a', .int i t'] k' }) (ha' : s.heap.get? a' = some (W.listOf vs'.toArray n')) (hI' : IntsAre vs' ns)
    (hu : A.units + 64 < cLine) (h : Q (.bool false) s) : wpAny (model prog w) A (compareOp .NotEq (.ref d) (.ref d')) Q E s := by
  obtain ⟨as, r1⟩ := reads_pair hd ha hI
  obtain ⟨bs, r2⟩ := reads_pair hd' ha' hI'
  exact ne_dataH r1 r2 (shaped_pair _ _) (shaped_pair _ _) hu (by rw [eqv_pair]; exact h)
theorem ne_ints2 {d d' : Addr} {k k' : Nat} {i j : Int} {t1 t2 t3 t4 : Tok}
    (hd : s.heap.get? d = some { cls := .type "tuple", data := .seq #[.int i t1, .int j t2] k }) (hd' : s.heap.get? d' = some { cls := .type "tuple", data := .seq #[.int i t3, .int j t4] k' })
    (hu : A.units + 64 < cLine) (h : Q (.bool false) s) : wpAny (model prog w) A (compareOp .NotEq (.ref d) (.ref d')) Q E s := by
  have r1 := reads_tuple_at hd rfl rfl (ReadsAll.cons (Reads.int i t1) (ReadsAll.cons (Reads.int j t2) ReadsAll.nil))
  have r2 := reads_tuple_at hd' rfl rfl (ReadsAll.cons (Reads.int i t3) (ReadsAll.cons (Reads.int j t4) ReadsAll.nil))
  have e : PyData.eqv (.tuple [.int i, .int j]) (.tuple [.int i, .int j]) = true := by simp [PyData.eqv, PyData.eqvAll]
  have sh : SeqAt.shaped (.tuple [.int i, .int j]) = true := by simp [SeqAt.shaped, PyData.canLay0, PyData.canLayAll0, PyData.depth, PyData.depthAll]
  exact ne_dataH r1 r2 sh sh hu (by rw [e]; exact h)
end
end Mine
end
section
theorem Mine.offLaw4 : True := by w_top off; exact True.intro
open PySem PySem.W PyProof.Rows PySem.Spec PySem.Calls
set_option Elab.async false
set_option maxRecDepth 100000
set_option maxHeartbeats 8000000
set_option pp.deepTerms false
set_option pp.deepTerms.threshold 5
namespace Mine
theorem wpAny_execs_split {M : Model} {A : Around} {E : Value → Shared → Prop} {s : Shared} {env : Env} (n : Nat) {body : List Stmt} {Q : Flow → Shared → Prop}
    (h : wpAny M A (execs (body.take n) env) (fun f s' => match f with | .next => Stop (wpAny M A (execs (body.drop n) env) Q E s') | f => Q f s') E s) : wpAny M A (execs body env) Q E s := by
  have e := List.take_append_drop n body
  rw [← e, execs_app]
  refine wpAny_bind (wpAny_mono h (fun f s' h' => ?_) fun _ _ e => e)
  cases f with
  | next => exact h'
  | _ => exact wpAny_pure h'
theorem whole_len {ocs H T : List Int} {p : Int} (hp : 0 ≤ p ∧ p < 5) (hol : ocs.length = 20) :
    ((List.take (clipAt ocs.length p) ocs ++ H ++ T ++ List.take (clipAt ocs.length 2) ocs).length : Int) = p + H.length + T.length + 2 := by
  obtain ⟨k, rfl⟩ : ∃ k : Nat, p = k := ⟨p.toNat, by omega⟩
  have e2 : clipAt ocs.length 2 = min 2 ocs.length := clipAt_nat _ 2
  rw [clipAt_nat, e2]
  simp only [List.length_append, List.length_take]
  omega
theorem whole_drop1 {ocs H T : List Int} {p : Int} (hp : 0 ≤ p ∧ p < 5) (hol : ocs.length = 20) :
    (List.take (clipAt ocs.length p) ocs ++ H ++ T ++ List.take (clipAt ocs.length 2) ocs).drop p.toNat = H ++ (T ++ List.take (clipAt ocs.length 2) ocs) := by
  obtain ⟨k, rfl⟩ : ∃ k : Nat, p = k := ⟨p.toNat, by omega⟩
  rw [clipAt_nat, List.append_assoc, List.append_assoc, Int.toNat_natCast]
  have : (List.take (min k ocs.length) ocs).length = k := by rw [List.length_take]; omega
  rw [List.drop_append_of_le_length (by omega), List.drop_of_length_le (by omega), List.nil_append]
theorem whole_drop2 {ocs H T : List Int} {p : Int} (hp : 0 ≤ p ∧ p < 5) (hol : ocs.length = 20) :
    (List.take (clipAt ocs.length p) ocs ++ H ++ T ++ List.take (clipAt ocs.length 2) ocs).drop (p + H.length).toNat = T ++ List.take (clipAt ocs.length 2) ocs := by
  have e : (p + (H.length : Int)).toNat = p.toNat + H.length := by omega
  rw [e, ← List.drop_drop, whole_drop1 hp hol, List.drop_append_of_le_length (Nat.le_refl _), List.drop_length, List.nil_append]
theorem news_add {g h h' : Heap} {L a : Addr} {m m' : Str → Option Value} {o : Obj} {news : List (Addr × Obj)} (F : Fr g L h m) (_ : Fr g L h' m') (N : News g L h' news) (na : h.get? a = none) (ha : h'.get? a = some o) : News g L h' ((a, o) :: news) := fun p hp => by
  rcases List.mem_cons.mp hp with rfl | hp
  · refine ⟨ha, fun e => ?_, kts_none F.keep na⟩
    obtain ⟨oL, _, _, hL, _⟩ := F.ns
    rw [show L = a from e.symm, na] at hL
    cases hL
  · exact N p hp
section
local macro_rules | `(tactic| walk_at "call ref") => `(tactic| refine stop_of ?_)
local macro_rules | `(tactic| walk_at "compareOp NotEq ref ref") => `(tactic| refine stop_of ?_)
local macro_rules | `(tactic| walk_at "call builtin:len") => `(tactic| refine stop_of ?_)
local macro_rules | `(tactic| walk_at "exec If") => `(tactic| refine stop_of ?_)
local macro_rules | `(tactic| walk_at "eval ListComp") => `(tactic| refine stop_of ?_)
local macro_rules | `(tactic| walk_at "storeName") => `(tactic| dsimp only)
theorem segD {prog : Program} {w : World} {mean : ExcName → Option Value} {mg mb : Str → Option Value} {g : Heap} {L fa : Addr} {cd : Value} {s : Shared} {u : Str → Option Value} {E : Value → Shared → Prop} {Q : Flow → Shared → Prop}
    {l x dx lst it : Addr} {n q : Int} {tn tq t3 : Tok} {es : List DictEntry} {ne : Nat} {oq ol oi : Obj}
    (B : Below callerA g [] g) (X : (Mine.hd.heap_39 w.params).In g) (T : Top Mine.hd.view_39 (looseW Mine.hd.view_39 [Str.ofString "ApplyDeltaError"]) mean mg mb g)
    {kind size far : Int} {tkd ts tf to tt th : Tok} {oct tl : Array UInt8} {ocs Tl : List Int} {bv : Value} (hkind : (kind = 1 ∨ kind = 2 ∨ kind = 3 ∨ kind = 4) ∨ kind = 6 ∨ kind = 7) (hsz : 0 ≤ size ∧ size < 2 ^ 70) (hfar : 0 ≤ far ∧ far < 2 ^ 70)
    (hoc : KBw.bInts oct = ocs) (hol : ocs.length = 20) (hoi : ∀ k ∈ ocs, 0 ≤ k ∧ k < 256) (hB : BaseIs kind far tf oct to ocs bv Tl) (htl : KBw.bInts tl = Tl) (hTl : Tl.length ≤ 20) (hTi : ∀ k ∈ Tl, 0 ≤ k ∧ k < 256) (hes : getL "oid_length" es = some (some (.int 20 t3)))
    (hq : oq.data = .cell (some (.int q tq))) (o1 : @LT.lt Nat instLTNat (L + 1) x) (o2 : @LT.lt Nat instLTNat (L + 1) dx) (o3 : @LT.lt Nat instLTNat (L + 1) lst) (o4 : @LT.lt Nat instLTNat (L + 1) it)
    {hd : Array UInt8} {Hd : List Int} (hHd : Hd = hdL kind size) (hhd : KBw.bInts hd = Hd)
    (F : Fr g L s.heap (fun y => if y = "head" then some (.bytes hd th) else if y = "tail" then some (.bytes tl tt) else if y = "base" then some bv else if y = "octets" then some (.bytes oct to) else if y = "far" then some (.int far tf) else if y = "size" then some (.int size ts) else if y = "kind" then some (.int kind tkd) else if y = "n" then some (.int n tn) else if y = "shape" then some (.ref x) else if y = "script" then some (.ref l) else u y))
    (N : News g L s.heap [(x, instObj 94 dx), (dx, dictOf es ne), (lst, ol), (it, oi), (L + 1, oq)])
    (k : ∀ (wh : Array UInt8) (W : List Int) (p : Int) (d a : Addr) (tw tp td : Tok) (h : Heap) (tok : Nat), KBw.bInts wh = W → (0 ≤ p ∧ p < 5) → ((W.length : Int) = p + Hd.length + Tl.length + 2) → W.drop (p + Hd.length).toNat = Tl ++ List.take (clipAt ocs.length 2) ocs → Hd.length ≤ 11 →
      Fr g L h (fun y => if y = "told" then some (.ref d) else if y = "place" then some (.int p tp) else if y = "whole" then some (.bytes wh tw) else if y = "head" then some (.bytes hd th) else if y = "tail" then some (.bytes tl tt) else if y = "base" then some bv else if y = "octets" then some (.bytes oct to) else if y = "far" then some (.int far tf) else if y = "size" then some (.int size ts) else if y = "kind" then some (.int kind tkd) else if y = "n" then some (.int n tn) else if y = "shape" then some (.ref x) else if y = "script" then some (.ref l) else u y) →
      News g L h [(d, { cls := .type "tuple", data := .seq #[.ref a, .int (p + Hd.length) td] }), (x, instObj 94 dx), (dx, dictOf es ne), (lst, ol), (it, oi), (L + 1, oq)] →
      wpAny (model prog w) (callerA.deeper (envOfC "law" lawRec.scope L fa cd)) (execs (loopBody.drop 13) (envOfC "law" lawRec.scope L fa cd)) Q E { s with heap := h, toks := tok }) :
    wpAny (model prog w) (callerA.deeper (envOfC "law" lawRec.scope L fa cd)) (execs (loopBody.drop 9) (envOfC "law" lawRec.scope L fa cd)) Q E s := by
  have hk8 : 0 ≤ kind ∧ kind < 8 := by omega
  have hH : Hd.length ≤ 11 := hHd ▸ hdL_length (kind := kind) hsz
  have hT1 : ∀ S, takeM (Hd ++ S) = some Hd := fun S => hHd ▸ takeM_head hk8 S
  have hD1 := dec_head hk8 hsz.1
  rw [← hHd] at hD1
  have hHi : ∀ k ∈ Hd, 0 ≤ k ∧ k < 256 := hHd ▸ hdL_in hk8
  have hH0 : 0 < Hd.length := by rw [hHd]; unfold hdL; rw [cont_length]; simp
  clear hHd
  refine wpAny_execs_split 4 ?_
  dsimp only [loopBody, loopOf, lawRec, recOf, List.drop, List.take] at k ⊢
  k_steps
  refine stop_mk ?_
  rename Fr _ _ _ _ => lF
  rename News _ _ _ _ => lN
  rename KBw.bInts (_ ++ _ ++ _ ++ _) = _ => hW
  have hp : 0 ≤ q.fmod 5 ∧ q.fmod 5 < 5 := ⟨Int.fmod_nonneg_of_pos q (by decide), Int.fmod_lt_of_pos q (by decide)⟩
  have hWl := whole_len (H := Hd) (T := Tl) hp hol
  generalize hWL : List.take (clipAt ocs.length (q.fmod 5)) ocs ++ Hd ++ Tl ++ List.take (clipAt ocs.length 2) ocs = W at hW hWl
  generalize KBy.picked oct none (some (q.fmod 5)) ++ hd ++ tl ++ KBy.picked oct none (some 2) = wh at hW lF ⊢
  generalize hpe : q.fmod 5 = p at hp lF hWl hWL ⊢
  rename KBw.bInts (KBy.picked oct none (some 2)) = _ => e1
  refine told_spec ⟨B, lF, X, T, rfl, rfl, rfl⟩ X T hW (by omega) (by omega) ?_ ?_
  rotate_left
  · intro hno
    rw [← hWL, whole_drop1 hp hol, hT1] at hno
    cases hno
  intro R hR a d vs nn tp h9 tk9 st hd1 ha1 hI na nd
  rw [← hWL, whole_drop1 hp hol, hT1] at hR
  obtain rfl := Option.some.inj hR
  clear hR
  have lF2 := fr_turn lF st
  have lN2 := news_add lF lF2 (news_add lF lF2 (news_turn lN st) na ha1) nd hd1
  clear st hd1 ha1 na nd lF lN
  k_steps
  refine stop_mk (wpAny_If ?_)
  k_steps
  refine stop_mk ?_
  rename Fr _ _ _ _ => lF
  rename News _ _ _ _ => lN
  refine' ListComp_B lF lN rfl ?c1 ?c2 ?c3 ?c4 ?c5 hhd ?c6 ?c7 ?turn ?done ?c8
  case c1 => with_unfolding_all rfl
  case c2 => decide
  case c3 => rfl
  case c4 => decide
  case c5 => rfl
  case c6 => exact Nat.le_trans hH (by decide)
  case c7 => exact nameX_L lF rfl ⟨rfl, rfl⟩ rfl rfl
  case c8 => intro _; rfl
  case turn =>
    intro k t I oI C oC D m₂ ys h tk E' hk hC hx F' N' off ne mk
    k_steps
  case done =>
    clear lF lN
    intro D h tk ys hys F' N' off
    k_steps
    refine stop_mk (KBw.len_K hhd (by omega) ?_)
    refine add_int ?_
    dsimp only
    k_steps
    refine stop_mk ?_
    rename Fr _ _ _ _ => lF
    rename News _ _ _ _ => lN
    refine ne_pair (lN _ (.tail _ (.tail _ (.head _)))).1 (lN _ (.tail _ (.tail _ (.tail _ (.head _))))).1 hI (lN _ (.head _)).1 (lN _ (.tail _ (.head _))).1 hys (by ke_room) ?_
    k_steps
    refine stop_mk ?_
    rename Fr _ _ _ _ => lF
    rename News _ _ _ _ => lN
    refine dec_spec ⟨B, lF, X, T, rfl, rfl, rfl⟩ (fun p hp => by rcases List.mem_singleton.mp hp with rfl; exact lN _ (.tail _ (.tail _ (.tail _ (.head _))))) hI hH hH0 hHi fun dd u1 u2 h11 tk11 st2 ndd hdd => ?_
    rw [hD1.1, hD1.2] at hdd
    have lF2 := fr_stays lF st2
    replace lN := news_add lF lF2 (news_stays lN st2) ndd hdd
    replace lF := lF2
    clear st2 lF2 ndd hdd
    k_steps
    refine stop_mk ?_
    rename Fr _ _ _ _ => lF
    rename News _ _ _ _ => lN
    refine ne_ints2 (lN _ (.tail _ (.head _))).1 (lN _ (.head _)).1 (by ke_room) ?_
    k_steps
    refine stop_mk ?_
    rename Fr _ _ _ _ => lF
    rename News _ _ _ _ => lN
    refine k wh W p d a _ _ tp _ _ hW hp hWl (by rw [← hWL]; exact whole_drop2 hp hol) hH lF fun q hq => ?_
    rcases List.mem_cons.mp hq with rfl | hq
    · exact lN _ (.tail _ (.tail _ (.tail _ (.tail _ (.head _)))))
    · exact lN _ (.tail _ (.tail _ (.tail _ (.tail _ (.tail _ (.tail _ hq))))))
end
end Mine
end
section
theorem Mine.offLaw5 : True := by w_top off; exact True.intro
local macro_rules | `(tactic| walk_at "none of these") => `(tactic| fail "none")
open PySem PySem.W PyProof.Rows PySem.Spec PySem.Calls
set_option Elab.async false
set_option maxRecDepth 100000
set_option maxHeartbeats 8000000
set_option pp.deepTerms false
set_option pp.deepTerms.threshold 5
namespace Mine
theorem fr_five {g h : Heap} {L : Addr} {m : Str → Option Value} {v1 v2 v3 v4 v5 : Value} (F : Fr g L h m) (h1 : m "octets" = some v1) (h2 : m "size" = some v2) (h3 : m "kind" = some v3) (h4 : m "shape" = some v4) (h5 : m "script" = some v5) :
    Fr g L h (fun (y : Str) => if y = "octets" then some v1 else if y = "size" then some v2 else if y = "kind" then some v3 else if y = "shape" then some v4 else if y = "script" then some v5 else m y) := by
  have e : (fun (y : Str) => if y = "octets" then some v1 else if y = "size" then some v2 else if y = "kind" then some v3 else if y = "shape" then some v4 else if y = "script" then some v5 else m y) = m := by
    funext y
    by_cases q1 : y = "octets"
    · rw [if_pos q1, q1, h1]
    · rw [if_neg q1]
      by_cases q2 : y = "size"
      · rw [if_pos q2, q2, h2]
      · rw [if_neg q2]
        by_cases q3 : y = "kind"
        · rw [if_pos q3, q3, h3]
        · rw [if_neg q3]
          by_cases q4 : y = "shape"
          · rw [if_pos q4, q4, h4]
          · rw [if_neg q4]
            by_cases q5 : y = "script"
            · rw [if_pos q5, q5, h5]
            · rw [if_neg q5]
  rw [e]; exact F
section
local macro_rules | `(tactic| walk_at "call ref") => `(tactic| refine stop_of ?_)
local macro_rules | `(tactic| walk_at "compareOp NotEq ref ref") => `(tactic| refine stop_of ?_)
local macro_rules | `(tactic| walk_at "call builtin:len") => `(tactic| refine stop_of ?_)
local macro_rules | `(tactic| walk_at "eval ListComp") => `(tactic| refine stop_of ?_)
local macro_rules | `(tactic| walk_at "storeName") => `(tactic| dsimp only)
set_option hygiene false in
local macro_rules | `(tactic| walk_at "m end6") => `(tactic| (
        refine stop_mk ?_
        rename Fr _ _ _ _ => lF
        rename News _ _ _ _ => lN
        rename IntsAre _ (List.take (Tl.length - 1) Tl ++ [200]) => h200
        refine far_spec ⟨B, lF, X, T, rfl, rfl, rfl⟩ X T (fun q hq => by rcases List.mem_singleton.mp hq with rfl; exact lN _ (.head _)) h200
          (by rw [List.length_append, List.length_take, List.length_singleton]; omega) (by rw [List.length_append, List.length_singleton]; omega)
          (fun z hz => by rcases List.mem_append.mp hz with q | q; exact hTi z (List.mem_of_mem_take q); rw [List.mem_singleton.mp q]; decide) ?_ (fun hc => absurd hc (last_200 _)) (fun hc => absurd hc (last_200 _))
        intro _ t6 h6' k6 st6
        replace lF := fr_turn lF st6
        replace lN := news_turn lN st6
        clear st6
        k_steps
        refine stop_mk ?_
        rename Fr _ _ _ _ => lF
        rename News _ _ _ _ => lN
        exact k _ _ _ (fr_five lF rfl rfl rfl rfl rfl) fun q hq => lN q (.tail _ (.tail _ (.tail _ (.tail _ (.tail _ (.tail _ (.tail _ (.tail _ hq))))))))))
theorem segE {prog : Program} {w : World} {mean : ExcName → Option Value} {mg mb : Str → Option Value} {g : Heap} {L fa : Addr} {cd : Value} {s : Shared} {u : Str → Option Value} {E : Value → Shared → Prop} {Q : Flow → Shared → Prop}
    {l x dx lst it : Addr} {n : Int} {tn : Tok} {es : List DictEntry} {ne : Nat} {oq ol oi : Obj}
    (B : Below callerA g [] g) (X : (Mine.hd.heap_39 w.params).In g) (T : Top Mine.hd.view_39 (looseW Mine.hd.view_39 [Str.ofString "ApplyDeltaError"]) mean mg mb g)
    {kind size far : Int} {tkd ts tf to tt th : Tok} {oct tl : Array UInt8} {ocs Tl : List Int} {bv : Value} (hkind : (kind = 1 ∨ kind = 2 ∨ kind = 3 ∨ kind = 4) ∨ kind = 6 ∨ kind = 7) (hfar : 0 ≤ far ∧ far < 2 ^ 70)
    (hol : ocs.length = 20) (hB : BaseIs kind far tf oct to ocs bv Tl) (htl : KBw.bInts tl = Tl) (hTl : Tl.length ≤ 20) (hTi : ∀ k ∈ Tl, 0 ≤ k ∧ k < 256)
    {hd wh : Array UInt8} {Hd W : List Int} {p : Int} {d a : Addr} {tw tp td : Tok} (hW : KBw.bInts wh = W) (hp : 0 ≤ p ∧ p < 5) (hWl : (W.length : Int) = p + Hd.length + Tl.length + 2) (hWd : W.drop (p + Hd.length).toNat = Tl ++ List.take (clipAt ocs.length 2) ocs) (hHl : Hd.length ≤ 11)
    (F : Fr g L s.heap (fun y => if y = "told" then some (.ref d) else if y = "place" then some (.int p tp) else if y = "whole" then some (.bytes wh tw) else if y = "head" then some (.bytes hd th) else if y = "tail" then some (.bytes tl tt) else if y = "base" then some bv else if y = "octets" then some (.bytes oct to) else if y = "far" then some (.int far tf) else if y = "size" then some (.int size ts) else if y = "kind" then some (.int kind tkd) else if y = "n" then some (.int n tn) else if y = "shape" then some (.ref x) else if y = "script" then some (.ref l) else u y))
    (N : News g L s.heap [(d, { cls := .type "tuple", data := .seq #[.ref a, .int (p + Hd.length) td] }), (x, instObj 94 dx), (dx, dictOf es ne), (lst, ol), (it, oi), (L + 1, oq)])
    (k : ∀ (u' : Str → Option Value) (h : Heap) (tok : Nat),
      Fr g L h (fun y => if y = "octets" then some (.bytes oct to) else if y = "size" then some (.int size ts) else if y = "kind" then some (.int kind tkd) else if y = "shape" then some (.ref x) else if y = "script" then some (.ref l) else u' y) →
      News g L h [(x, instObj 94 dx), (dx, dictOf es ne), (lst, ol), (it, oi), (L + 1, oq)] →
      wpAny (model prog w) (callerA.deeper (envOfC "law" lawRec.scope L fa cd)) (execs (loopBody.drop 14) (envOfC "law" lawRec.scope L fa cd)) Q E { s with heap := h, toks := tok }) :
    wpAny (model prog w) (callerA.deeper (envOfC "law" lawRec.scope L fa cd)) (execs (loopBody.drop 13) (envOfC "law" lawRec.scope L fa cd)) Q E s := by
  refine wpAny_execs_split 1 ?_
  dsimp only [loopBody, loopOf, lawRec, recOf, List.drop, List.take] at k ⊢
  by_cases h6 : kind = 6
  · subst h6
    have hTd : Tl = dsL far := by
      rcases hB with ⟨a, _⟩ | ⟨_, _, b⟩ | ⟨a, _⟩
      · omega
      · exact b
      · omega
    have hT1 : ∀ S, takeM (Tl ++ S) = some Tl := fun S => hTd ▸ takeM_dist far S
    have hT2 : decD (Tl.getD 0 0 % 128) (Tl.drop 1) = far := hTd ▸ dec_far hfar.1
    have hT3 : Builtin.bitAnd (Tl.getD (-1 + (Tl.length : Int)).toNat 0) 128 = 0 := hTd ▸ far_last far
    have hT4 : Tl.length ≤ 10 := hTd ▸ dsL_length hfar
    have hT5 : 0 < Tl.length := List.length_pos_iff.mpr (hTd ▸ dsL_ne far)
    clear hTd
    k_steps
    refine stop_mk ?_
    rename Fr _ _ _ _ => lF
    rename News _ _ _ _ => lN
    refine told_spec ⟨B, lF, X, T, rfl, rfl, rfl⟩ X T hW (by omega) (by omega) ?_ ?_
    rotate_left
    · intro hno
      rw [hWd, hT1] at hno
      cases hno
    intro R hR a2 d2 vs nn tp2 h9 tk9 st hd2 ha2 hI na nd
    rw [hWd, hT1] at hR
    obtain rfl := Option.some.inj hR
    clear hR
    have lF2 := fr_turn lF st
    have lN2 := news_add lF lF2 (news_add lF lF2 (news_turn lN st) na ha2) nd hd2
    clear st hd2 ha2 na nd lF lN hT1
    k_steps
    refine stop_mk ?_
    rename Fr _ _ _ _ => lF
    rename News _ _ _ _ => lN
    refine' ListComp_B lF lN rfl ?c1 ?c2 ?c3 ?c4 ?c5 htl ?c6 ?c7 ?turn ?done ?c8
    case c1 => with_unfolding_all rfl
    case c2 => decide
    case c3 => rfl
    case c4 => decide
    case c5 => rfl
    case c6 => exact Nat.le_trans hT4 (by decide)
    case c7 => exact nameX_L lF rfl ⟨rfl, rfl⟩ rfl rfl
    case c8 => intro _; rfl
    case turn =>
      intro k t I oI C oC D m₂ ys h tk E' hk hC hx F' N' off ne mk
      k_steps
    case done =>
      clear lF lN
      intro D h tk ys hys F' N' off
      k_steps
      refine stop_mk (KBw.len_K hW (by omega) ?_)
      k_steps
      refine stop_mk ?_
      rename Fr _ _ _ _ => lF
      rename News _ _ _ _ => lN
      have e9 : (W.length : Int) - 2 = p + Hd.length + Tl.length := by omega
      rw [e9] at lN
      refine ne_pair (lN _ (.tail _ (.tail _ (.head _)))).1 (lN _ (.tail _ (.tail _ (.tail _ (.head _))))).1 hI (lN _ (.head _)).1 (lN _ (.tail _ (.head _))).1 hys (by ke_room) ?_
      k_steps
      refine stop_mk ?_
      rename Fr _ _ _ _ => lF
      rename News _ _ _ _ => lN
      refine far_spec ⟨B, lF, X, T, rfl, rfl, rfl⟩ X T (fun q hq => by rcases List.mem_singleton.mp hq with rfl; exact lN _ (.tail _ (.tail _ (.tail _ (.head _))))) hI hT4 hT5 hTi (fun hc => absurd hT3 hc) ?_ ?_
      · intro _ hz t5 h5 k5 st5
        obtain rfl : far = 0 := by rw [← hT2]; exact hz
        replace lF := fr_turn lF st5
        replace lN := news_turn lN st5
        clear st5 hz
        k_steps
        walk_at "m end6"
      · intro _ hz t5 h5 k5 st5
        rw [hT2] at hz ⊢
        replace lF := fr_turn lF st5
        replace lN := news_turn lN st5
        clear st5
        k_steps
        · exact absurd (by assumption) hz
        · exact absurd rfl (by assumption : far ≠ far)
        · walk_at "m end6"
  · k_steps
    · exact absurd (by assumption) h6
    · refine stop_mk ?_
      rename Fr _ _ _ _ => lF
      rename News _ _ _ _ => lN
      exact k _ _ _ (fr_five lF rfl rfl rfl rfl rfl) fun q hq => lN q (.tail _ hq)
end
end Mine
end
section
open PySem PySem.W PyProof.Rows PySem.Spec PySem.Calls
set_option Elab.async false
set_option maxRecDepth 100000
namespace Mine
section
variable {prog : Program} {w : World} {A₀ : Around} {E : Value → Shared → Prop} {s' : Shared} {g G : Heap} {L e : Addr} {m : Str → Option Value} {env : Env} {b₀ : Stmt} {suite : List Stmt} {pos np : Pos} {rest : List ExceptHandler} {Q : Flow → Shared → Prop} {news nw : List (Addr × Obj)} {x : Str}
/-- the law's own handler -/
theorem caught_law (R : RaisedSN g G [env] e (.type "AssertionError") news s'.heap) (hf : env.frame = some L) (F : Fr g L G m) (K : Below A₀ g [] g) (hsm : G.UpToSlots s'.heap) (N : News g L G nw)
    (hname : ∀ (A : Around) (Q' : Value → Shared → Prop) (E' : Value → Shared → Prop) (h : Heap), Fr g L h m → Q' (.type "AssertionError") { s' with heap := h } → wpAny (model prog w) A (eval (.Name x np) env) Q' E' { s' with heap := h })
    (k : ∀ h', Fr g L h' m → News g L h' nw → wpAny (model prog w) ((A₀.deeper env).mark (some (.ref e))) (execs (b₀ :: suite) env) Q E { s' with heap := h' })
    (hE : PassesOwnAt (model prog w) ((A₀.deeper env).mark (some (.ref e))) (A₀.deeper env) env E) :
    wpAny (model prog w) (A₀.deeper env) (noteFrame (.ref e) env)
      (fun _ s₂ => wpAny (model prog w) (A₀.deeper env) (setFlight (.ref e) none) (fun _ s₃ =>
        wpAny (model prog w) (A₀.deeper env) (handleBy (.ref e) env (.ExceptHandler (some (.Name x np)) none (b₀ :: suite) pos :: rest)) Q E s₃) E s₂) E s' := by
  obtain ⟨B, a0, hB, hBG, hl, hfl⟩ := R
  have hn : ∀ q ∈ nw, B.get? q.1 = some q.2 := fun q hq => hBG _ _ (N q hq).1 fun hm => (N q hq).2.1 (by
    obtain ⟨ev, he, hf'⟩ := List.mem_filterMap.mp hm
    obtain rfl := List.mem_singleton.mp he
    exact Option.some.inj (hf'.symm.trans hf))
  refine wpAny_looks_onW (Around.frames_deeper K.stack) hf hfl fun h₄ hheld₄ hsm₄ => ?_
  refine wpAny_landsW hheld₄ fun h₅ hheld hsm₅' => ?_
  have hsm₅ := hsm₄.trans hsm₅'
  have F₅ := F.of_stays (fun b o q => hheld.1 b o (hB b o q)) (hsm.trans hsm₅)
  obtain ⟨ob, hob, hobc⟩ := hheld.there
  refine wpAny_handleBy_builtin (X := "AssertionError") (T := "AssertionError") (b := true) PySem.F.isExc_AssertionError PySem.F.notTuple_AssertionError (by rw [isSubtype_type]; kernel_rfl) (hname _ _ _ h₅ F₅ ⟨rfl, ⟨ob, hob, hobc⟩, ?_⟩)
  refine lands_againW hheld fun h₆ hfl₆ hsm₆ => ?_
  exact wpAny_passesOwnAt hE (k h₆ (F.of_stays (fun b o q => hfl₆.1 b o (hB b o q)) ((hsm.trans hsm₅).trans hsm₆)) fun q hq => ⟨hfl₆.1 _ _ (hn q hq), (N q hq).2⟩)
end
end Mine
end
section
theorem Mine.offLaw6 : True := by w_top off; exact True.intro
open PySem PySem.W PyProof.Rows PySem.Spec PySem.Calls
set_option Elab.async false
set_option maxRecDepth 100000
set_option maxHeartbeats 8000000
set_option pp.deepTerms false
set_option pp.deepTerms.threshold 5
namespace Mine
theorem fr_two {g h : Heap} {L : Addr} {m : Str → Option Value} {v4 v5 : Value} (F : Fr g L h m) (h4 : m "shape" = some v4) (h5 : m "script" = some v5) :
    Fr g L h (fun (y : Str) => if y = "shape" then some v4 else if y = "script" then some v5 else m y) := by
  have e : (fun (y : Str) => if y = "shape" then some v4 else if y = "script" then some v5 else m y) = m := by
    funext y
    by_cases q4 : y = "shape"
    · rw [if_pos q4, q4, h4]
    · rw [if_neg q4]
      by_cases q5 : y = "script"
      · rw [if_pos q5, q5, h5]
      · rw [if_neg q5]
  rw [e]; exact F
section
local macro_rules | `(tactic| walk_at "call ref") => `(tactic| refine stop_of ?_)
local macro_rules | `(tactic| walk_at "noteFrame ref") => `(tactic| refine stop_of ?_)
local macro_rules | `(tactic| walk_at "exec Try") => `(tactic| refine wpAny_Try_except ?_)
local macro_rules | `(tactic| walk_at "storeName") => `(tactic| dsimp only)
theorem segF {prog : Program} {w : World} {mean : ExcName → Option Value} {mg mb : Str → Option Value} {g : Heap} {L fa : Addr} {cd : Value} {s : Shared} {u : Str → Option Value} {Q : Flow → Shared → Prop}
    {l x dx lst it : Addr} {q : Int} {t3 tq : Tok} {es : List DictEntry} {ne : Nat} {oq ol oi : Obj}
    (B : Below callerA g [] g) (X : (Mine.hd.heap_39 w.params).In g) (T : Top Mine.hd.view_39 (looseW Mine.hd.view_39 [Str.ofString "ApplyDeltaError"]) mean mg mb g)
    {kind size : Int} {tkd ts to : Tok} {oct : Array UInt8} {ocs : List Int} (hsz : 0 ≤ size ∧ size < 2 ^ 70)
    (hoc : KBw.bInts oct = ocs) (hol : ocs.length = 20) (hes : getL "oid_length" es = some (some (.int 20 t3))) (hq : oq.data = .cell (some (.int q tq)))
    (F : Fr g L s.heap (fun y => if y = "octets" then some (.bytes oct to) else if y = "size" then some (.int size ts) else if y = "kind" then some (.int kind tkd) else if y = "shape" then some (.ref x) else if y = "script" then some (.ref l) else u y))
    (N : News g L s.heap [(x, instObj 94 dx), (dx, dictOf es ne), (lst, ol), (it, oi), (L + 1, oq)])
    (k : ∀ (u' : Str → Option Value) (h : Heap) (tok : Nat),
      Fr g L h (fun y => if y = "shape" then some (.ref x) else if y = "script" then some (.ref l) else u' y) →
      News g L h [(x, instObj 94 dx), (dx, dictOf es ne), (lst, ol), (it, oi), (L + 1, oq)] → Q .next { s with heap := h, toks := tok }) :
    wpAny (model prog w) (callerA.deeper (envOfC "law" lawRec.scope L fa cd)) (execs (loopBody.drop 14) (envOfC "law" lawRec.scope L fa cd)) Q (fun _ _ => False) s := by
  dsimp only [loopBody, loopOf, lawRec, recOf, List.drop]
  by_cases h7 : kind = 7
  · subst h7
    k_steps
    refine stop_mk ?_
    rename Fr _ _ _ _ => lF
    rename News _ _ _ _ => lN
    rename KBw.bInts (KBy.picked _ _ _) = _ => hpk
    have hb : (KBy.picked oct none (some (q.fmod 20))).size < 20 := by
      have h1 := Int.fmod_nonneg_of_pos q (by decide : (0 : Int) < 20)
      have h2 := Int.fmod_lt_of_pos q (by decide : (0 : Int) < 20)
      obtain ⟨j, hj⟩ : ∃ j : Nat, q.fmod 20 = j := ⟨(q.fmod 20).toNat, by omega⟩
      rw [hj] at hpk ⊢
      rw [← KBw.ints_length, hpk, clipAt_nat, List.length_take]
      omega
    refine pack_raises size x _ _ _ ⟨B, lF, X, T, rfl, rfl, rfl⟩ hsz (lN _ (.head _)).1 (lN _ (.tail _ (.head _))).1 hes hb fun e news h' tk hS hU => ?_
    refine caught_law hS rfl lF B hU lN (fun A Q' E' h F' h1 => nameX_B F' X (topRead_of T) (by k_is) (v := .type "AssertionError") Boot.«AssertionError» (by decide) h1 rfl rfl) (fun h6 F6 N6 => ?_) (by passes_own)
    k_steps
    rename Fr _ _ _ _ => lF9
    rename News _ _ _ _ => lN9
    exact k _ _ _ (fr_two lF9 rfl rfl) lN9
  · k_steps
    · exact absurd (by assumption) h7
    · exact k _ _ _ (fr_two F rfl rfl) N
end
end Mine
end
section
open PySem PySem.W PyProof.Rows PySem.Spec PySem.Calls
set_option Elab.async false
set_option maxRecDepth 100000
namespace Mine
theorem turn_spec {prog : Program} {w : World} {mean : ExcName → Option Value} {mg mb : Str → Option Value} {g : Heap} {L fa : Addr} {cd : Value} {s : Shared} {u : Str → Option Value} {Q : Flow → Shared → Prop}
    {l x dx lst it : Addr} {n : Int} {tn t3 : Tok} {es : List DictEntry} {ne : Nat} {oq ol oi : Obj}
    (B : Below callerA g [] g) (X : (Mine.hd.heap_39 w.params).In g) (T : Top Mine.hd.view_39 (looseW Mine.hd.view_39 [Str.ofString "ApplyDeltaError"]) mean mg mb g)
    (F : Fr g L s.heap (fun y => if y = "n" then some (.int n tn) else if y = "shape" then some (.ref x) else if y = "script" then some (.ref l) else u y))
    (N : News g L s.heap [(x, instObj 94 dx), (dx, dictOf es ne), (lst, ol), (it, oi), (L + 1, oq)]) (hq : ∃ v, oq.data = .cell v)
    (o1 : @LT.lt Nat instLTNat (L + 1) x) (o2 : @LT.lt Nat instLTNat (L + 1) dx) (o3 : @LT.lt Nat instLTNat (L + 1) lst) (o4 : @LT.lt Nat instLTNat (L + 1) it) (hes : getL "oid_length" es = some (some (.int 20 t3)))
    {ns : List Int} (hn : n ∈ ns) (hlay : (PyData.list (ns.map PyData.int)).layable0 = true)
    (k : ∀ (u' : Str → Option Value) (oq' : Obj) (h : Heap) (tok : Nat), (∃ v, oq'.data = .cell v) →
      Fr g L h (fun y => if y = "shape" then some (.ref x) else if y = "script" then some (.ref l) else u' y) →
      News g L h [(x, instObj 94 dx), (dx, dictOf es ne), (lst, ol), (it, oi), (L + 1, oq')] → Q .next { s with heap := h, toks := tok }) :
    wpP (model prog w) (callerA.deeper (envOfC "law" lawRec.scope L fa cd)) (execs loopBody (envOfC "law" lawRec.scope L fa cd)) Q (fun _ _ => False) s := by
  refine segA B X T F N hq o1 o2 o3 o4 (t3 := t3) hn hlay fun kind size far q tkd ts tf tq to oct ocs o2' h tok hk hs hf d2 hoc hol hoi F N => ?_
  refine segB B X T hk hs hf hoc hol hoi F N fun bv tl Tl tt th h tok hB htl hTl hTi F N => ?_
  refine segC B X T hk hs hf hoc hol hB htl hTl hTi hes F N fun h tok F N => ?_
  refine wpP_of (segD B X T hk hs hf hoc hol hoi hB htl hTl hTi hes d2 o1 o2 o3 o4 rfl (KBa.ints_make (hdL_in (by omega))) F N fun wh W p d a tw tp td h tok hW hp hWl hWd hHl F N => ?_)
  refine segE B X T hk hf hol hB htl hTl hTi hW hp hWl hWd hHl F N fun u' h tok F N => ?_
  refine segF B X T hs hoc hol hes d2 F N fun u' h tok F N => ?_
  exact k u' o2' h tok ⟨_, d2⟩ F N
end Mine
end
section
theorem Mine.offLaw9 : True := by w_top off; exact True.intro
open PySem PySem.W PyProof.Rows PySem.Spec PySem.Calls
set_option Elab.async false
set_option maxRecDepth 100000
set_option maxHeartbeats 8000000
set_option pp.deepTerms false
set_option pp.deepTerms.threshold 6
namespace Mine
section
/-- what stands at the head of the i-th turn -/
def TurnJ (g : Heap) (L l x dx lst it : Addr) (es : List DictEntry) (ne : Nat) (ol : Obj) (s₀ : Shared) (i : Nat) (s : Shared) : Prop :=
  ∃ (u : Str → Option Value) (oq oi : Obj) (h : Heap) (tok : Nat), s = { s₀ with heap := h, toks := tok } ∧ (∃ v, oq.data = .cell v) ∧ oi.cls = .type "list_iterator" ∧ oi.data = .fields #[.ref lst, .int i 0] ∧
    Fr g L h (fun y => if y = "shape" then some (.ref x) else if y = "script" then some (.ref l) else u y) ∧
    News g L h [(x, instObj 94 dx), (dx, dictOf es ne), (lst, ol), (it, oi), (L + 1, oq)]
theorem loop_spec {prog : Program} {w : World} {mean : ExcName → Option Value} {mg mb : Str → Option Value} {g : Heap} {L fa : Addr} {cd : Value} {s s₀ : Shared} {R : Result → Shared → Prop}
    {l x dx lst it : Addr} {t3 : Tok} {es : List DictEntry} {ne : Nat} {np : Pos} {vs : List Value} {ms ns : List Int} {nl : Nat}
    (B : Below callerA g [] g) (X : (Mine.hd.heap_39 w.params).In g) (T : Top Mine.hd.view_39 (looseW Mine.hd.view_39 [Str.ofString "ApplyDeltaError"]) mean mg mb g)
    (o1 : @LT.lt Nat instLTNat (L + 1) x) (o2 : @LT.lt Nat instLTNat (L + 1) dx) (o3 : @LT.lt Nat instLTNat (L + 1) lst) (o4 : @LT.lt Nat instLTNat (L + 1) it) (o5 : x ≠ it) (o6 : dx ≠ it) (o7 : lst ≠ it) (hes : getL "oid_length" es = some (some (.int 20 t3)))
    (hI : IntsAre vs ms) (hms : ∀ n ∈ ms, n ∈ ns) (hlay : (PyData.list (ns.map PyData.int)).layable0 = true)
    (hJ : TurnJ g L l x dx lst it es ne (W.listOf vs.toArray nl) s₀ 0 s)
    (fin : ∀ s, TurnJ g L l x dx lst it es ne (W.listOf vs.toArray nl) s₀ vs.length s → wpAny (model prog w) (callerA.deeper (envOfC "law" lawRec.scope L fa cd)) (pyNext (.ref it)) (fun r s₁ => r = none ∧ R (.ok .next) s₁) (fun _ _ => False) s) :
    codeP (model prog w) (callerA.deeper (envOfC "law" lawRec.scope L fa cd)) (.forLoop (.Name "n" np) (.ref it) loopBody [] (envOfC "law" lawRec.scope L fa cd)) R s := by
  refine codeP_forList (TurnJ g L l x dx lst it es ne (W.listOf vs.toArray nl) s₀) vs.length ?_ fin ?_ vs.length 0 s (by omega) (by omega) hJ
  · rintro i s hi ⟨u, oq, oi, h, tok, rfl, hq, hc, hd, F, N⟩
    obtain ⟨n, t, hn, hv⟩ := IntsAre.at hI i vs[i] (by simp [hi])
    refine wpAny_pyNext_list_item (i := i) ⟨oi, (N _ (.tail _ (.tail _ (.tail _ (.head _))))).1, hc, hd⟩ ⟨_, (N _ (.tail _ (.tail _ (.head _)))).1, rfl, nl, rfl⟩ (x := vs[i]) (by simp [hi]) fun h' hit hs => ?_
    refine ⟨_, rfl, ?_⟩
    have ni := N _ (.tail _ (.tail _ (.tail _ (.head _))))
    have up : ∀ c o, c ≠ it → h.get? c = some o → h'.get? c = some o := fun c o hne e => hs.extBut c o hne e
    obtain ⟨oi', hoi, hci, hdi⟩ := hit
    have lF := fr_but F ni.2.1 ni.2.2 up
    have lN : News g L h' [(x, instObj 94 dx), (dx, dictOf es ne), (lst, W.listOf vs.toArray nl), (it, oi'), (L + 1, oq)] := fun p hp => by
      rcases List.mem_cons.mp hp with rfl | hp
      · exact ⟨up _ _ o5 (N _ (.head _)).1, (N _ (.head _)).2⟩
      rcases List.mem_cons.mp hp with rfl | hp
      · exact ⟨up _ _ o6 (N _ (.tail _ (.head _))).1, (N _ (.tail _ (.head _))).2⟩
      rcases List.mem_cons.mp hp with rfl | hp
      · exact ⟨up _ _ o7 (N _ (.tail _ (.tail _ (.head _)))).1, (N _ (.tail _ (.tail _ (.head _)))).2⟩
      rcases List.mem_cons.mp hp with rfl | hp
      · exact ⟨hoi, ni.2⟩
      rcases List.mem_singleton.mp hp with rfl
      have q := N (L + 1, oq) (.tail _ (.tail _ (.tail _ (.tail _ (.head _)))))
      exact ⟨up _ _ (Nat.ne_of_lt o4) q.1, q.2⟩
    rw [hn]
    clear F N up ni hs hoi
    dsimp only [lawRec, recOf]
    k_steps
    rename Fr _ _ _ _ => lF
    rename News _ _ _ _ => lN
    dsimp only
    refine turn_spec B X T lF lN hq o1 o2 o3 o4 (t3 := t3) hes (hms n (List.mem_of_getElem? hv)) hlay fun u' oq' h'' tok' hq' F' N' => ?_
    exact ⟨rfl, u', oq', oi', h'', tok', rfl, hq', hci, hdi, F', N'⟩
  · intro v; rfl
end
end Mine
end
section
theorem Mine.offLaw10 : True := by w_top off; exact True.intro
open PySem PySem.W PyProof.Rows PySem.Spec PySem.Calls
set_option Elab.async false
set_option maxRecDepth 100000
set_option maxHeartbeats 8000000
set_option pp.deepTerms false
set_option pp.deepTerms.threshold 6
namespace Mine
section
local macro_rules | `(tactic| walk_at "call ref") => `(tactic| refine stop_of ?_)
local macro_rules | `(tactic| walk_at "pyIter ref") => `(tactic| ((with_reducible show wpAny _ _ (pyIter (Value.ref _)) (fun it s₂ => LoopAtV _ _ _ _ _ _ _ _ _ it s₂) _ _); refine stop_of ?_))
local macro_rules | `(tactic| walk_at "InvEndN") => `(tactic| refine stop_of ?_)
local macro_rules | `(tactic| walk_at "compareOp NotEq ref ref") => `(tactic| refine stop_of ?_)
theorem rest_spec {prog : Program} {w : World} {mean : ExcName → Option Value} {mg mb : Str → Option Value} {g : Heap} {L fa : Addr} {cd : Value} {s : Shared} {u : Str → Option Value}
    {l x : Addr} {oq : Obj} {vs : List Value} {ns : List Int}
    (B : Below callerA g [] g) (X : (Mine.hd.heap_39 w.params).In g) (T : Top Mine.hd.view_39 (looseW Mine.hd.view_39 [Str.ofString "ApplyDeltaError"]) mean mg mb g)
    (F : Fr g L s.heap (fun y => if y = "shape" then some (.ref x) else if y = "script" then some (.ref l) else u y)) (N : News g L s.heap [(L + 1, oq)])
    (hL : g.IsList l vs.toArray) (hI : IntsAre vs ns) (hlen : ns.length ≤ 63) (hlay : (PyData.list (ns.map PyData.int)).layable0 = true) :
    wpAny (model prog w) (callerA.deeper (envOfC "law" lawRec.scope L fa cd)) (execs (lawRec.body.drop 2) (envOfC "law" lawRec.scope L fa cd)) (fun f s' => Stop (f = .ret (.bool true) ∧ ∃ h tok, s' = { s with heap := h, toks := tok } ∧ g.StaysIn h)) (fun _ _ => False) s := by
  dsimp only [lawRec, recOf, List.drop]
  k_steps
  refine stop_mk ?_
  rename Fr _ _ _ _ => lF
  rename News _ _ _ _ => lN
  rename IsRange _ _ _ _ _ _ _ _ => rgX
  rename KBa.In _ => hin
  have hrl : ((List.map (fun k' : Int => if 0 < k'.fmod 3 then k'.fmod 256 else 128 + k'.fmod 128) (List.take (min 40 ns.length - 8) (List.drop 8 ns))).length : Int) + 1 = ((min (min 40 ns.length - 8) (ns.length - 8) : Nat) : Int) + 1 := by
    rw [List.length_map, List.length_take, List.length_drop]
  have hr40 : (List.map (fun k' : Int => if 0 < k'.fmod 3 then k'.fmod 256 else 128 + k'.fmod 128) (List.take (min 40 ns.length - 8) (List.drop 8 ns))).length ≤ 40 := by
    rw [List.length_map, List.length_take, List.length_drop]; omega
  have hrow := KBa.ints_make hin
  generalize List.map (fun k' : Int => if 0 < k'.fmod 3 then k'.fmod 256 else 128 + k'.fmod 128) (List.take (min 40 ns.length - 8) (List.drop 8 ns)) = rs at hrl hr40 hrow lF
  generalize byteArr rs = rb at hrow lF
  rw [← hrl] at rgX
  refine' kst_range (σ := Unit) (Led := fun _ => [(L + 1, oq)]) (ps := fun _ => []) (Facts := fun _ => True) [] (fun _ _ => True) () rfl rgX (small_one (by omega) (by omega) (by omega) (by omega)) (rangeSize_nat _ _) lF (fun p hp => lN p (by simp at hp ⊢; exact .inr (.inr hp))) trivial (fun p hp => nomatch hp) trivial ?turn ?done
  case turn =>
    clear lF lN
    rintro - pre k t u1 h₁ tk₁ own hk hpl hoff - hP F N
    dsimp only at F N ⊢
    have hko : 0 ≤ k ∧ k ≤ rs.length := by omega
    (try k_fold)
    k_steps
    refine stop_mk ?_
    rename Fr _ _ _ _ => lF
    rename News _ _ _ _ => lN
    refine told_spec ⟨B, lF, X, T, rfl, rfl, rfl⟩ X T hrow (by omega) hko ?_ ?_
    · intro R hR a d vs1 nn tp h9 tk9 st hd1 ha1 hI1 na nd
      have lF2 := fr_turn lF st
      have lN2 := news_add lF lF2 (news_add lF lF2 (news_turn lN st) na ha1) nd hd1
      clear st hd1 ha1 na nd lF lN
      k_steps
      refine stop_mk ?_
      rename Fr _ _ _ _ => lF
      rename News _ _ _ _ => lN
      refine taken_spec ⟨B, lF, X, T, rfl, rfl, rfl⟩ hrow (by omega) hko ?_ ?_
      rotate_left
      · intro hno
        rw [hR] at hno
        cases hno
      intro R2 hR2 a2 d2 vs2 nn2 tp2 h10 tk10 st2 hd2 ha2 hI2 na2 nd2
      rw [hR] at hR2
      obtain rfl := Option.some.inj hR2
      clear hR2
      have lF3 := fr_stays lF st2
      have lN3 := news_add lF lF3 (news_add lF lF3 (news_stays lN st2) na2 ha2) nd2 hd2
      clear st2 hd2 ha2 na2 nd2 lF lN
      k_steps
      refine stop_mk ?_
      rename Fr _ _ _ _ => lF
      rename News _ _ _ _ => lN
      refine ne_pair (lN _ (.tail _ (.tail _ (.head _)))).1 (lN _ (.tail _ (.tail _ (.tail _ (.head _))))).1 hI1 (lN _ (.head _)).1 (lN _ (.tail _ (.head _))).1 hI2 (by ke_room) ?_
      k_steps
      refine stop_mk ?_
      rename Fr _ _ _ _ => lF
      rename News _ _ _ _ => lN
      exact kst_end () lF lN (fun p hp => .tail _ (.tail _ (.tail _ (.tail _ (List.mem_append_left _ hp))))) (fun p hp => .tail _ (.tail _ (.tail _ (.tail _ (List.mem_append_right _ hp))))) rfl trivial (fun p hp => nomatch hp) (fun z h1 _ _ => by simp [kstB, h1]) trivial
    · intro hR h9 tk9 st
      have lF2 := fr_turn lF st
      have lN2 := news_turn lN st
      clear st lF lN
      k_steps
      refine stop_mk ?_
      rename Fr _ _ _ _ => lF
      rename News _ _ _ _ => lN
      refine taken_spec ⟨B, lF, X, T, rfl, rfl, rfl⟩ hrow (by omega) hko ?_ ?_
      · intro R2 hR2
        rw [hR] at hR2
        cases hR2
      intro _ h10 tk10 st2
      have lF3 := fr_stays lF st2
      have lN3 := news_stays lN st2
      clear st2 lF lN
      k_steps
      refine stop_mk ?_
      rename Fr _ _ _ _ => lF
      rename News _ _ _ _ => lN
      exact kst_end () lF lN (fun p hp => List.mem_append_left _ hp) (fun p hp => List.mem_append_right _ hp) rfl trivial (fun p hp => nomatch hp) (fun z h1 _ _ => by simp [kstB, h1]) trivial
  case done =>
    clear lF lN
    rintro - u1 h₁ tk₁ - hP F N
    dsimp only at F N ⊢
    k_steps
    exact stop_mk ⟨rfl, _, _, rfl, F.keep⟩
end
end Mine
end
section
theorem Mine.offLaw8 : True := by w_top off; exact True.intro
open PySem PySem.W PyProof.Rows PySem.Spec PySem.Calls
set_option Elab.async false
set_option maxRecDepth 100000
set_option maxHeartbeats 8000000
set_option pp.deepTerms false
set_option pp.deepTerms.threshold 6
namespace Mine
section
theorem law_spec {prog : Program} {w : World} {mean : ExcName → Option Value} {mg mb : Str → Option Value} {g : Heap} {L fa : Addr} {cd : Value} {s : Shared}
    {l : Addr} {o1 : Obj} {vs : List Value} {ns : List Int}
    (B : Below callerA g [] g) (X : (Mine.hd.heap_39 w.params).In g) (T : Top Mine.hd.view_39 (looseW Mine.hd.view_39 [Str.ofString "ApplyDeltaError"]) mean mg mb g)
    (F : Fr g L s.heap (fun y => if y = "script" then some (.ref l) else none)) (N : News g L s.heap [(L + 1, o1)]) (hq : o1.data = .cell none)
    (hL : g.IsList l vs.toArray) (hI : IntsAre vs ns) (hlen : ns.length ≤ 63) (hlay : (PyData.list (ns.map PyData.int)).layable0 = true) :
    wpP (model prog w) (callerA.deeper (envOfC "law" lawRec.scope L fa cd)) (execs lawRec.body (envOfC "law" lawRec.scope L fa cd)) (fun f s' => f = .ret (.bool true) ∧ ∃ h tok, s' = { s with heap := h, toks := tok } ∧ g.StaysIn h) (fun _ _ => False) s := by
  refine wpP_execs_split 1 ?_
  refine wpP_mono (Q := fun f s' => Stop (f = .next ∧ ∃ (x dx : Addr) (t3 : Tok) (es : List DictEntry) (ne : Nat) (h : Heap) (tok : Nat), @LT.lt Nat instLTNat (L + 1) dx ∧ @LT.lt Nat instLTNat dx x ∧ getL "oid_length" es = some (some (.int 20 t3)) ∧ s' = { s with heap := h, toks := tok } ∧
      Fr g L h (fun y => if y = "shape" then some (.ref x) else if y = "script" then some (.ref l) else none) ∧ News g L h [(x, instObj 94 dx), (dx, dictOf es ne), (L + 1, o1)])) (E := fun _ _ => False) ?_ ?_ (fun _ _ e => e)
  · dsimp only [lawRec, recOf, List.take]
    refine wpP_of ?_
    k_steps
    rename Fr _ _ _ _ => lF
    rename News _ _ _ _ => lN
    exact stop_mk ⟨rfl, _, _, _, _, _, _, _, by assumption, by assumption, by rfl, rfl, lF, lN⟩
  intro f s' hS
  obtain ⟨rfl, x, dx, t3, es, ne, h, tok, l1, l2, hes, rfl, lF, lN⟩ := stop_mk hS
  clear hS
  dsimp only
  have F := lF
  have N := lN
  clear lF lN
  dsimp only [lawRec, recOf, List.drop]
  refine wpP_execs_cons (wpP_For ?_)
  refine wpAny_mono (Q := fun v s' => Stop (∃ (lst : Addr) (vs' : List Value) (ms ns' : List Int) (nl : Nat) (h' : Heap) (tok' : Nat), v = .ref lst ∧ IntsAre vs' ms ∧ (∀ n ∈ ms, n ∈ ns') ∧ (PyData.list (ns'.map PyData.int)).layable0 = true ∧ @LT.lt Nat instLTNat (L + 1) lst ∧ s' = { s with heap := h', toks := tok' } ∧
      Fr g L h' (fun y => if y = "shape" then some (.ref x) else if y = "script" then some (.ref l) else none) ∧ News g L h' [(lst, W.listOf vs'.toArray nl), (x, instObj 94 dx), (dx, dictOf es ne), (L + 1, o1)])) (E := fun _ _ => False) ?_ ?_ (fun _ _ e => e)
  · k_steps
    · rename Fr _ _ _ _ => lF
      rename News _ _ _ _ => lN
      rename IntsAre _ (List.take 8 ns) => h1
      exact stop_mk ⟨_, _, _, ns, 0, _, _, rfl, h1, fun n hn => List.mem_of_mem_take hn, hlay, by omega, rfl, lF, lN⟩
    · rename Fr _ _ _ _ => lF
      rename News _ _ _ _ => lN
      exact stop_mk ⟨_, [.int 25 _], [25], [25], 0, _, _, rfl, .cons _ _ .nil, fun n hn => hn, by decide +kernel, by omega, rfl, lF, lN⟩
  intro v s' hS
  obtain ⟨lst, vs', ms, ns', nl, h', tok', rfl, hIm, hms, hlay', l3, rfl, lF, lN⟩ := stop_mk hS
  clear hS F N
  have hls := lN _ (.head _)
  refine wpAny_pyIter_list (items := vs'.toArray) ⟨_, hls.1, rfl, nl, rfl⟩ ?_
  generalize hpu : h'.push { cls := .type "list_iterator", data := .fields #[.ref lst, .int 0 0] } = h2
  have st : h'.StaysIn h2 := fun b o e => hpu ▸ Heap.get?_push_of_some _ e
  have hit : h2.get? h'.objs.size = some { cls := .type "list_iterator", data := .fields #[.ref lst, .int 0 0] } := hpu ▸ Heap.get?_push_size _ rfl
  have nn : ∀ a o, h'.get? a = some o → a ≠ h'.objs.size := fun a o e => Nat.ne_of_lt (Heap.lt_size e)
  have l4 : @LT.lt Nat instLTNat (L + 1) h'.objs.size := Heap.lt_size (lN _ (.tail _ (.tail _ (.tail _ (.head _))))).1
  have n1 := nn _ _ (lN _ (.tail _ (.head _))).1
  have n2 := nn _ _ (lN _ (.tail _ (.tail _ (.head _)))).1
  have n3 := nn _ _ (lN _ (.head _)).1
  have hno : h'.get? h'.objs.size = none := by
    cases q : h'.get? h'.objs.size with
    | none => rfl
    | some o => exact absurd rfl (nn _ _ q)
  have lF2 := fr_stays lF st
  have lN2 := news_add lF lF2 (news_stays lN st) hno hit
  generalize h'.objs.size = it at *
  clear hno nn hpu hit st lF lN hls
  refine loop_spec (s₀ := s) (l := l) (ne := ne) (nl := nl) B X T (Nat.lt_trans l1 l2) l1 l3 l4 n1 n2 n3 hes hIm hms hlay' ?hJ ?fin
  case hJ =>
    refine ⟨fun _ => none, o1, { cls := .type "list_iterator", data := .fields #[.ref lst, .int 0 0] }, h2, tok', rfl, ⟨_, hq⟩, rfl, rfl, lF2, fun p hp => ?_⟩
    rcases List.mem_cons.mp hp with rfl | hp
    · exact lN2 _ (.tail _ (.tail _ (.head _)))
    rcases List.mem_cons.mp hp with rfl | hp
    · exact lN2 _ (.tail _ (.tail _ (.tail _ (.head _))))
    rcases List.mem_cons.mp hp with rfl | hp
    · exact lN2 _ (.tail _ (.head _))
    rcases List.mem_cons.mp hp with rfl | hp
    · exact lN2 _ (.head _)
    rcases List.mem_singleton.mp hp with rfl
    exact lN2 _ (.tail _ (.tail _ (.tail _ (.tail _ (.head _)))))
  case fin =>
    rintro s2 ⟨u, oq, oi, h5, tok5, rfl, -, hc, hd, F5, N5⟩
    have ni := N5 _ (.tail _ (.tail _ (.tail _ (.head _))))
    refine wpAny_pyNext_list_end (i := vs'.length) rfl ⟨oi, ni.1, hc, hd⟩ ⟨_, (N5 _ (.tail _ (.tail _ (.head _)))).1, rfl, nl, rfl⟩ (by simp) fun h3 eb => ⟨rfl, ?_⟩
    have F3 := fr_but F5 ni.2.1 ni.2.2 eb
    have N3 : News g L h3 [(L + 1, oq)] := fun p hp => by
      rcases List.mem_singleton.mp hp with rfl
      have q := N5 (L + 1, oq) (.tail _ (.tail _ (.tail _ (.tail _ (.head _)))))
      exact ⟨eb _ _ (Nat.ne_of_lt l4) q.1, q.2⟩
    dsimp only
    refine wpP_of (wpAny_mono (rest_spec B X T F3 N3 hL hI hlen hlay) (fun f s' z => ?_) fun _ _ e => e)
    obtain ⟨rfl, h, tok, rfl, st⟩ := stop_mk z
    exact ⟨rfl, h, tok, rfl, st⟩
end
end Mine
end
section
open PySem PySem.W PyProof.Rows PySem.Spec PySem.Calls
set_option Elab.async false
set_option maxRecDepth 100000
set_option maxHeartbeats 8000000
set_option pp.deepTerms false
set_option pp.deepTerms.threshold 6
namespace Mine
theorem cleanB {Γ : PySem.Ctx} {p : Pos} (h : ((Γ.code, p) :: Γ.below).any (fun x => badCode x.1) = false) : Clean Γ := by
  rw [List.any_cons, Bool.or_eq_false_iff] at h
  refine ⟨h.1, fun x hx => ?_⟩
  have := List.any_eq_false.mp h.2 x hx
  simpa using this
theorem guarded_of {M : Model} {A : Around} {t : Sem Value} {Q : Value → Shared → Prop} {E : Value → Shared → Prop} {s : Shared} (h : wpP M A t Q E s) (ho : Q (.bool true) s) : wpAny M A (guarded t) Q E s := fun Γ p hΓ => by
  unfold guarded
  rw [Sem.wp_stack]
  cases q : ((Γ.code, p) :: Γ.below).any (fun x => badCode x.1) with
  | true => rw [if_pos rfl]; exact ho
  | false => rw [if_neg Bool.false_ne_true]; exact h Γ p hΓ (cleanB q)
theorem call_cellsP {prog : Program} {w : World} {A : Around} {R : Result → Shared → Prop} {s : Shared} {name : Str} {params : Arguments} {body : List Stmt} {scope : Scope}
    {pm cd doc : Value} {a : Addr} {o : Obj} {args : List Value} {binds : List (Str × Value)}
    (hroom : A.depth < recursionLimit) (ho : s.heap.get? a = some o) (hdata : o.data = .func (Calls.docDef name params body scope pm cd doc)) (hlim : s.heap.NoLimit) (hcd : s.heap.CodeRec cd name)
    (hbind : BindsTo s (Calls.docDef name params body scope pm cd doc) ⟨args, []⟩ binds)
    (hkind : (binds.all fun y => scope.names.lookup y.1 == some .local || scope.names.lookup y.1 == some .cell) = true)
    (hnd : ((cellsFrom 0 scope.names []).map (·.1)).Nodup)
    (h : ∀ L h₁ tk cells, Fr s.heap L h₁ (bindL (envOfC name scope L a cd).kindOf binds fun _ => none) → News s.heap L h₁ cells →
      CellsAre (bindC (envOfC name scope L a cd).kindOf binds fun _ => none) (cellsFrom (L + 1) scope.names []) cells →
      wpP (model prog w) (A.deeper (envOfC name scope L a cd)) (execs body (envOfC name scope L a cd))
        (fun f s' => R (.ok (.ret (match f with | .ret v => v | _ => .none))) s') (fun _ _ => False) { s with heap := h₁, toks := tk })
    (hco : scope.isCoroutine = false := by rfl) (hgen : scope.isGenerator = false := by rfl) (hk : scope.kind = .function := by rfl) :
    codeP (model prog w) A (.call (.ref a) ⟨args, []⟩) R s := by
  refine codeP_call_function hroom ho hdata hco hgen rfl hcd (hbind _ _ _ _ ?_)
  refine wpAny_newFunctionEnv_cells hk (kindsX hkind _) fun env' he s' x => ?_
  subst he
  refine ⟨hlim.keeps x.toInCall.keep, codeP_func ?_⟩
  obtain ⟨h₁, tk, rfl, _⟩ := x.done
  have hk₁ := x.toInCall.keep
  obtain ⟨cells, NC, Y⟩ := Cl.news (h₀ := s.heap) (Nat.le_refl _) fun n c hm => ⟨x.cell n c (lookup_of_mem_nodup (cellsFrom_names scope.names 0 (s.heap.objs.size + 1) [] [] rfl ▸ hnd) hm), x.above n c hm⟩
  exact h s.heap.objs.size h₁ tk cells ⟨x.toInCall.ns, hk₁, Nat.le_refl _⟩ NC Y
theorem main : PySem.Challenge.rw_iy0002_01.Holds := by
  refine hd ?_
  w_on
  intro w s₀ s₁ mg mb G Y fa o pm cd doc dV kV ho hd hcd hD hmg hg args vals as hpre hlay hrd hwl hlo
  have KX := kIn_of Y
  have X := (Ground.X G).1
  have V := (Ground.X G).2
  refine Ground.open G ?_
  intro T B D TE TW
  obtain ⟨_, _, M⟩ := bmod_of_top T
  have TA := at_of_top T
  try (obtain ⟨_, _, he, B0⟩ := based_of_top T rfl hmg ho hd; have he' : cd = _ := he; subst he'; clear he)
  clear hmg
  wrow_args hpre hlay hrd hwl hlo
  rename_i ns _ _ hlay1 _ _ _ _ l vs _ hL _ _ _ hI _ hlen _
  have hlen : ns.length ≤ 63 := by omega
  have good : ∀ h' tk, s₁.heap.StaysIn h' → GoodWG Challenge.rw_iy0002_01.row.claim (classAt s₀.heap) (ExcName.means s₀.heap) [ofPy (PyData.list (ns.map PyData.int))] s₁ (.ok (.ret (.bool true))) { s₁ with heap := h', toks := tk } := fun h' tk k =>
    GoodW.toG ⟨.inl ⟨.bool true, _, [], rfl, raisesW_false (by wrow_none_raised), ReadsW.bool _, by wrow_post, fun _ => ⟨.nil, fun _ ha => nomatch ha⟩⟩, k, rfl, hg⟩
  have K0 := below_caller (Top.heap T)
  obtain rfl := Dflts.noKw hD
  obtain rfl := Dflts.pos_none hD rfl
  refine guarded_of ?_ (good s₁.heap s₁.toks fun _ _ e => e)
  refine wpP_mono (Q := fun v s' => ∃ h' tk, s₁.heap.StaysIn h' ∧ v = .bool true ∧ s' = { s₁ with heap := h', toks := tk }) (wpP_call ?_) (fun v s' z => by obtain ⟨h', tk, a, rfl, rfl⟩ := z; exact good h' tk a) fun _ _ e => e
  refine call_cellsP (name := lawRec.name) (params := lawRec.params) (body := lawRec.body) (scope := lawRec.scope) (by decide) ho hd (Top.nolimit T) hcd (BindsTo.of_eq rfl) (by rfl) (by decide +kernel) ?_
  intro L h₁ tk cells F N Y
  k_cells Y
  (try dsimp only)
  rename_i o1 d1
  replace F : Fr s₁.heap L h₁ (fun y => if y = "script" then some (.ref l) else none) := F
  replace d1 : o1.data = .cell none := d1
  refine wpP_mono (law_spec (fa := fa) K0 KX T F N d1 hL hI hlen hlay1) (fun f s' z => ?_) fun _ _ e => e
  obtain ⟨rfl, h', tk', rfl, hst⟩ := z
  exact ⟨h', tk', hst, rfl, rfl⟩
end Mine
end
theorem PySem.Challenge.cw_iy0002_01_holds : PySem.Challenge.rw_iy0002_01.Holds :=
  Mine.main
