import PyProof.Rows.All
import Wide.All
import OpenK.AllK
import Wide.FinOn
import Lean
import PySem.Challenge.RW_ik0037_01
section
open PySem PySem.W PyProof.Rows
set_option Elab.async false
set_option maxRecDepth 100000
set_option maxHeartbeats 100000000
namespace Mine
open_top hd for PySem.Challenge.rw_ik0037_01
end Mine
end
section
local macro_rules | `(tactic| omega) => `(tactic| lia)
open PySem PyProof PyProof.Rows PySem.Builtin PySem.Builtin.Str
namespace Mine
noncomputable def subS (x y : Str) : Int := if x == y then 0 else if Txt.lower x == Txt.lower y then 1 else 2
noncomputable abbrev cp (x : Str) : List Nat := x.cps.toList
theorem cp_len (x : Str) : (cp x).length = x.length := by simp [cp, Str.length]
theorem cp_inj {x y : Str} (h : cp x = cp y) : x = y := Str.ext' (Array.toList_inj.mp h)
theorem cp_mk (l : List Nat) : cp ⟨l.toArray⟩ = l := by simp [cp]
theorem sl_from {x : Str} {i : Int} (h0 : 0 ≤ i) (h1 : i ≤ x.length) : cp (Txt.slice x (some i) none) = (cp x).drop i.toNat := by
  rw [slice_from_eq h0 h1 rfl]
  show (List.take ((x.length : Int) - i).toNat (List.drop i.toNat x.cps.toList)).toArray.toList = _
  rw [List.toList_toArray]
  refine List.take_of_length_le ?_
  have e : x.cps.toList.length = x.length := by simp [Str.length]
  simp only [List.length_drop, e]
  omega
theorem sl_to {x : Str} {j : Int} (h0 : 0 ≤ j) (h1 : j ≤ x.length) : cp (Txt.slice x none (some j)) = (cp x).take j.toNat := by
  have h := beq_iff_eq.mp (slice_closes_toL h0 h1)
  rw [h]
  simp [cp]
theorem sl_to_neg {x : Str} {j : Int} (h0 : j < 0) (h1 : - (x.length : Int) ≤ j) : cp (Txt.slice x none (some j)) = (cp x).take ((x.length : Int) + j).toNat := by
  have e : Txt.slice x none (some j) = Txt.slice x none (some ((x.length : Int) + j)) := by
    have h2 : ¬ ((x.length : Int) + j < 0) := by omega
    have e2 : j + (x.length : Int) = (x.length : Int) + j := by omega
    unfold Txt.slice
    simp only [strSliceIndices, h0, h2, if_true, if_false, e2]
  rw [e, sl_to (by omega) (by omega)]
theorem sl_from_neg {x : Str} {j : Int} (h0 : j < 0) (h1 : - (x.length : Int) ≤ j) : cp (Txt.slice x (some j) none) = (cp x).drop ((x.length : Int) + j).toNat := by
  have e : Txt.slice x (some j) none = Txt.slice x (some ((x.length : Int) + j)) none := by
    have h2 : ¬ ((x.length : Int) + j < 0) := by omega
    have e2 : j + (x.length : Int) = (x.length : Int) + j := by omega
    unfold Txt.slice
    simp only [strSliceIndices, h0, h2, if_true, if_false, e2]
  rw [e, sl_from (by omega) (by omega)]
theorem sl_to_over {x : Str} {j : Int} (h1 : (x.length : Int) ≤ j) : cp (Txt.slice x none (some j)) = cp x := by
  have e : Txt.slice x none (some j) = Txt.slice x none (some (x.length : Int)) := by
    have h2 : ¬ (j < 0) := by omega
    have h3 : ¬ ((x.length : Int) < 0) := by omega
    unfold Txt.slice
    simp only [strSliceIndices, h2, h3, if_false, Int.min_eq_right h1, Int.min_self, show ((1 : Int) > 0) from by decide, if_true]
  rw [e, sl_to (by omega) (by omega)]
  refine List.take_of_length_le ?_
  rw [cp_len]; omega
theorem it_pos {x : Str} {i : Int} (h0 : 0 ≤ i) (h1 : i < x.length) : Txt.item x i = ⟨#[(cp x).getD i.toNat 0]⟩ := by
  have h2 : ¬ i < 0 := by omega
  unfold Txt.item Txt.charAt seqIndex?
  simp only [h2, if_false, h0, h1, decide_true, Bool.and_true, if_true, Option.bind_some]
  simp [cp, List.getD]
theorem it_neg {x : Str} {i : Int} (h0 : i < 0) (h1 : -(x.length : Int) ≤ i) : Txt.item x i = ⟨#[(cp x).getD ((x.length : Int) + i).toNat 0]⟩ := by
  have h2 : 0 ≤ i + (x.length : Int) := by omega
  have h3 : i + (x.length : Int) < x.length := by omega
  have e2 : (x.length : Int) + i = i + (x.length : Int) := by omega
  unfold Txt.item Txt.charAt seqIndex?
  simp only [h0, if_true, h2, h3, decide_true, Bool.and_true, Option.bind_some, e2]
  simp [cp, List.getD]
theorem it_len (x : Str) (i : Int) : (Txt.item x i).length = 1 := rfl
theorem sl_nn (x : Str) : Txt.slice x none none = x := by
  unfold Txt.slice
  have e : (strSliceIndices none none 1 x.length).length = x.length := by
    simp only [strSliceIndices, sliceRange, show ((1 : Int) > 0) from by decide, if_true, List.length_map, List.length_range]
    split
    · simp only [Int.ediv_one]; omega
    · simp; omega
  simp [e]
section
variable {prog : Program} {w : World} {A : Around} {E : Value → Shared → Prop} {s : Shared} {value slice : Expr} {x : Str} {t : Tok} {h₀ : Heap} {L : Addr} {m : Str → Option Value} {news : List (Addr × Obj)} {Q : Value → Shared → Prop}
theorem slice_allN (hF : Fr h₀ L s.heap m) (hN : News h₀ L s.heap news) (h : ∀ h' t' k, Fr h₀ L h' m → News h₀ L h' news → Q (.str x t') { s with heap := h', toks := k })
    (hs : subscripted slice false (.str x t) (.ref s.heap.objs.size) = operate [.ref s.heap.objs.size, .str x t] (getItem (.str x t) (.ref s.heap.objs.size)) := by with_unfolding_all rfl)
    (ht : ∀ r, letTemporaryGo value (.str x t) r = pure () := by intro _; with_unfolding_all rfl) (hsz : x.length ≤ sizeLine := by size_fits) :
    wpAny (model prog w) A (subscriptTail value slice (.str x t) (.ref s.heap.objs.size)) Q E { s with heap := s.heap.push { cls := .type "slice", data := .fields #[.none, .none, .none] } } :=
  slice_strN_nn hF hN (by intro h' t' k a b; rw [sl_nn]; exact h h' t' k a b) hs ht hsz
end
end Mine
end
section
local macro_rules | `(tactic| omega) => `(tactic| lia)
open PySem PySem.W PyProof PyProof.Rows PySem.Builtin PySem.Builtin.Str
set_option Elab.async false
set_option maxRecDepth 100000
namespace Mine
section
variable {prog : Program} {w : World} {A : Around} {E : Value → Shared → Prop} {s : Shared}
theorem field0 {id : String} {a : Array Value} {byName : PySem.Str → Sem Value} {v : Value} {Q : Value × Numbering → Shared → Prop} (ha : a[0]? = some v)
    (h : Q (v, .manual) s) : wpAny (model prog w) A (fieldObject id (some a) byName [48] .unset) Q E s := by
  unfold fieldObject
  first
    | refine wpAny_bind (wpAny_of_eq (a := some 0) rfl ?_)
    | refine wpAny_bind (wpAny_pure ?_)
  first
    | refine wpAny_bind (wpAny_of_eq (a := (some 0, .manual)) rfl ?_)
    | refine wpAny_bind (wpAny_pure ?_)
  simp only [ha, pure_bind]
  rw [KPc.range_list]
  exact wpAny_bind (wpAny_pure (wpAny_pure h))
theorem fmt_meets (y : PySem.Str) (t u : Tok) (hy : y.length ≤ 100000) : Meets («str.format» ⟨[.str ⟨#[85, 110, 107, 110, 111, 119, 110, 32, 99, 111, 110, 118, 101, 114, 115, 105, 111, 110, 32, 115, 112, 101, 99, 105, 102, 105, 101, 114, 32, 123, 48, 33, 115, 125]⟩ t, .str y u], []⟩) (fun _ R s => ∀ t' k, R (.ok (.ret (.str (⟨#[85, 110, 107, 110, 111, 119, 110, 32, 99, 111, 110, 118, 101, 114, 115, 105, 111, 110, 32, 115, 112, 101, 99, 105, 102, 105, 101, 114, 32]⟩ ++ y) t'))) { s with toks := k }) := by
  apply KPc.meets_of
  intro prog w A s Q E hR
  unfold Builtin.«str.format»
  refine wpAny_bind (wpAny_of_eq (a := (_, _, _)) rfl ?_)
  refine wpAny_bind ?_
  unfold Builtin.Str.buildString
  refine wpAny_bind ?_
  rw [KPc.range_list]
  refine KFm.start ?_
  intro w' g'
  refine KPc.turn ?_
  kpc_if
  kpc_check
  refine wpAny_bind (field0 (by rfl) ?_)
  refine wpAny_bind (wpAny_holding (wpAny_of_eq (a := .str y u) rfl ?_))
  kpc_if
  refine wpAny_bind (wpAny_pure ?_)
  refine wpAny_bind (wpAny_holding (wpAny_of_eq (KFm.formatOf_str _ _) ?_))
  refine wpAny_bind (wpAny_of_eq (a := some _) rfl ?_)
  refine wpAny_pure ?_
  refine KFm.after_field (K := 100000) (by kpc_g) (by kpc_text) (by kpc_obj) hy (by kpc_obj) (by kfm_cat2) (by kfm_rest) ?_
  intro w2 g2
  refine KPc.turn ?_
  kpc_if
  refine wpAny_pure ?_
  refine wpAny_pure ?_
  refine KPc.finish_ok (by kpc_g) (by decide +kernel) (by first | kpc_text | exact rfl) ?_
  assumption
theorem call_fmt {y : PySem.Str} {t u : Tok} {Q : Value → Shared → Prop} (hy : y.length ≤ 100000) (h : ∀ S t' k, S.length ≤ 100100 → Q (.str S t') { s with toks := k }) :
    wpAny (model prog w) A (call (.builtin "str.format") [.str (Str.ofString "Unknown conversion specifier {0!s}") t, .str y u]) Q E s :=
  KFm.call_k (by decide +kernel) (KFm.args_2 _ _) (fmt_meets y t u hy) (fun t' k => h _ t' k (by rw [Str.length_append]; show 29 + y.length ≤ 100100; omega))
end
end Mine
end
section
local macro_rules | `(tactic| omega) => `(tactic| lia)
open PySem PySem.W PyProof PyProof.Rows PySem.Calls
set_option Elab.async false
set_option maxRecDepth 100000
namespace Mine
section
variable {prog : Program} {w : World} {A A₀ : Around} {s : Shared} {K : Frag} {L : Addr} {h₀ base : Heap} {m mg mb : Str → Option Value} {news : List (Addr × Obj)} {p : Program} {loose : List Str} {mean : ExcName → Option Value} {env : Env} {R : Result → Shared → Prop} {name qual : Str} {params : Arguments} {body : List Stmt} {scope : Scope} {dV kV doc pm cdv ct oc : Value} {an od : Option Addr} {osl : Array (Option Value)} {f : Addr} {args : Args} {binds : List (Str × Value)}
/-- a def that catches, called out of a frame with cells -/
theorem enter_try (B : Below A₀ base [] h₀) (F : Fr h₀ L s.heap m) (X₀ : K.In h₀) (N : News h₀ L s.heap news) (T : Top p loose mean mg mb h₀) (hA : A.frames = some [env]) (hf : env.frame = some L) (hke : env.scope.kind = .function)
    (ho : K.lookup f = some ⟨oc, od, .func (fnOf name qual params body scope dV kV doc pm an cdv ct), osl⟩) (hcd : codeIn K cdv qual = true) (hroom : A.depth < recursionLimit)
    (hbind : BindsTo s (fnOf name qual params body scope dV kV doc pm an cdv ct) args binds) (hloc : ∀ y ∈ binds, scope.names.lookup y.1 = some .local)
    (h : ∀ g L' h₁, Fr h₀ L g m → Fr g L' h₁ (fun y => binds.reverse.lookup y) → News g L' h₁ news → Below A base [env] g → K.In g → Top p loose mean mg mb g → KtsDicts ([env].filterMap (·.frame)) g →
      wpAny (model prog w) (A.deeper (envOf qual scope L' f cdv)) (execs body (envOf qual scope L' f cdv))
        (fun fl s' => LeaveS0 ([env].filterMap (·.frame)) h₀ L m g R (match fl with | .ret v => v | _ => .none) s')
        (fun e s' => wpAny (model prog w) (A.deeper (envOf qual scope L' f cdv)) (leaving (envOf qual scope L' f cdv) e) (fun _ s'' => R (.error e) s'') (fun e' s'' => R (.error e') s'') s')
        { s with heap := h₁, toks := s.toks + binds.length })
    (hco : scope.isCoroutine = false) (hgen : scope.isGenerator = false) (hk : scope.kind = .function)
    (hcell : ∀ x ∈ scope.names, x.2 ≠ .cell) : codeAny (model prog w) A (.call (.ref f) args) R s := by
  have hfs : [env].filterMap (·.frame) = [L] := by simp [hf]
  obtain ⟨FG, BG, st, _⟩ := groundX (R := R) B F N hA hf hke
  obtain ⟨oL, es, ep, hL, hLd, hLk, hLf⟩ := F.ns
  have hLg : (hideAll s.heap (news.map (·.1))).get? L = some oL := hideAll_get _ hL fun q => by
    obtain ⟨x, hx, e⟩ := List.mem_map.mp q
    exact (N x hx).2.1 e
  have X := X₀.keeps F.keep
  refine codeAny_call_def (fd := fnOf name qual params body scope dV kV doc pm an cdv ct) (body := body) (binds := binds) hroom (X _ _ ho) rfl (T.nolimit.keeps F.keep) (codeRec_of X hcd) rfl hbind hcell hloc (fun h₁ hns hk₁ => ?_) hco hgen hk
  refine wpAny_mono (h _ s.heap.objs.size h₁ FG ⟨hns, fun b o e => hk₁ b o (of_hideAll _ e), Nat.le_of_eq (hideAll_size _ _)⟩
    (fun x hx => ⟨hk₁ _ _ (N x hx).1, Nat.ne_of_lt (Heap.lt_size (N x hx).1), hideAll_none _ (List.mem_map_of_mem hx)⟩) BG (X₀.keeps st) (T.keeps st) (by
      rw [hfs]
      intro b hb
      rw [List.mem_singleton.mp hb]
      exact ⟨oL, es, ep, hLg, hLd⟩)) (fun fl s' hl => ?_) fun _ _ y => y
  rw [hfs] at hl
  obtain ⟨g', L', m', news', T', F', N', k⟩ := hl
  have nL₀ : h₀.get? L = none := kts_self F
  obtain ⟨sl, hs⟩ := T'.up hLg
  refine k ⟨⟨_, es, ep, F'.keep _ _ hs, hLd, hLk, hLf⟩, fun b o e => F'.keep b o (T'.other b o (st b o e) (fun q => by
    rw [List.mem_singleton.mp q, nL₀] at e
    cases e)), F.above⟩ fun p hp => ⟨(N' p hp).1, fun q => ?_, ?_⟩
  · have := (N' p hp).2.2; rw [q, hs] at this; cases this
  · cases q : h₀.get? p.1 with
    | none => rfl
    | some o =>
      obtain ⟨sl', hs'⟩ := T'.up (st _ _ q)
      have := (N' p hp).2.2
      rw [hs'] at this
      cases this
end
end Mine
end
section
local macro_rules | `(tactic| omega) => `(tactic| lia)
open PySem PySem.W PyProof PyProof.Rows PySem.Calls
set_option Elab.async false
set_option maxRecDepth 100000
namespace Mine
noncomputable def CntEl (news : List (Addr × Obj)) (b : Bool) (news' : List (Addr × Obj)) : Prop := news' = news ∧ b = true
noncomputable def CntNo (news : List (Addr × Obj)) (b : Bool) (news' : List (Addr × Obj)) : Prop := news' = news ∧ b = false
section
variable {prog : Program} {w : World} {A : Around} {E : Value → Shared → Prop} {s : Shared} {h₀ : Heap} {L : Addr} {m : Str → Option Value} {env : Env} {ct elt iter : Expr} {x : Str} {px pos : Pos} {scope : Scope} {cl : List (Str × Addr)} {news : List (Addr × Obj)}
noncomputable def SrcStr (prog : Program) (w : World) (A : Around) (h₀ : Heap) (L : Addr) (m : Str → Option Value) (env : Env) (ct elt : Expr) (x : Str) (scope : Scope) (cl : List (Str × Addr)) (Fin : Shared → List Value → List (Addr × Obj) → Prop) (xv : Value) (s₁ : Shared) : Prop :=
  ∃ T t news, xv = .str T t ∧ A.handled = none ∧ Fr h₀ L s₁.heap m ∧ News h₀ L s₁.heap news ∧ T.cps.size ≤ sizeLine ∧
    ∀ s₂ : Shared, (∃ h, s₂ = { s₁ with heap := h }) → LCt.CompRestT prog w A h₀ L m env ct elt x scope cl s₂ (fun _ => True) (SignAt T) (Fin s₂) T.cps.size 0 [] news
theorem SrcStr.of {Fin : Shared → List Value → List (Addr × Obj) → Prop} {T : Str} {t : Tok} {s₁ : Shared} (hh : A.handled = none) (F : Fr h₀ L s₁.heap m) (N : News h₀ L s₁.heap news) (hsz : T.cps.size ≤ sizeLine)
    (h : ∀ g, LCt.CompRestT prog w A h₀ L m env ct elt x scope cl { s₁ with heap := g } (fun _ => True) (SignAt T) (Fin { s₁ with heap := g }) T.cps.size 0 [] news) : SrcStr prog w A h₀ L m env ct elt x scope cl Fin (.str T t) s₁ :=
  ⟨T, t, news, rfl, hh, F, N, hsz, fun _ ⟨g, e⟩ => e ▸ h g⟩
theorem str_st (k : String) (T : Str) (t : Tok) (I : Addr) : ∀ i (h h' : Heap) (o : Obj) (nw : List (Addr × Obj)), h.IsStrIter I k T t i → h.get? I = some o → h'.get? I = some o → (∀ b o, h₀.get? b = some o → h'.get? b = some o) → News h₀ L h' nw → True → h'.IsStrIter I k T t i :=
  fun i h h' o nw st e e' _ _ _ => by
    obtain ⟨o', q, r⟩ := st; rw [e] at q; cases q; exact ⟨o, e', r⟩
theorem ListComp_str {Q : Value → Shared → Prop} (_F₀ : Fr h₀ L s.heap m)
    (hclos : closureFor scope env = pure cl) (hcell : ∀ y ∈ scope.names, y.2 ≠ .cell) (hkind : scope.kind = .function)
    (hnames : ∀ y ∈ scope.names, y.2 = .local → scope.names.lookup y.1 = some .local) (hx : scope.names.lookup x = some .local)
    (h : wpAny (model prog w) A (eval iter env) (SrcStr prog w A h₀ L m env ct elt x scope cl (fun s₂ => LCg.FinE h₀ L m s₂ Q)) E s)
    (hs : ∀ x, foldedSetIterable iter env x = pure x := by intro _; rfl) :
    wpAny (model prog w) A (eval (.ListComp elt [⟨.Name x px, iter, [ct], 0⟩] scope pos) env) Q E s := by
  rw [eval_ListComp]
  refine wpAny_comprehension_free (use := none) rfl hs hclos hkind hnames (wpAny_mono h (fun xv s₁ h₁ => ?_) fun _ _ e => e)
  obtain ⟨T, t, news, rfl, hh, F, N, hsz, R⟩ := h₁
  have up : ∀ o b o', s₁.heap.get? b = some o' → (s₁.heap.push o).get? b = some o' := fun o b o' e => Heap.get?_push_of_some _ e
  cases ha : T.cps.all (· < 128)
  · refine wpAny_pyIter_wide ha ?_
    refine LCt.block_T (Walks.strWide hh _ T t) hsz (fun i h st => by obtain ⟨o, e, _⟩ := st; exact ⟨o, e⟩) (str_st "str_iterator" T t _) hcell hkind hx ⟨_, Heap.get?_push_size _ rfl, rfl, rfl⟩ (fun b hb => ?_)
      (F.keeps (up _)) (N.grown (up _)) (Nat.ne_of_lt F.ns.lt) (next_is_new F) (fun p hp => Nat.ne_of_lt (Heap.lt_size (N p hp).1)) trivial (R _ ⟨_, rfl⟩) ?_
    · rw [List.mem_singleton.mp hb]
      show s₁.heap.objs.size < (s₁.heap.push _).objs.size
      rw [Heap.size_push]; exact Nat.lt_succ_self _
    · intro D C h tk m' ys news' F' N' o1 hn hC₀ hD₀ hCL hDL hCD offC fin
      refine ⟨m', hn, fun h'' hs'' => fin D h'' tk (F'.change hs'' hCL hC₀) (fun p hp => ?_) o1⟩
      refine ⟨hs''.extBut _ _ ?_ (N' p hp).1, (N' p hp).2⟩
      rcases List.mem_cons.mp hp with rfl | hp
      · exact Ne.symm hCD
      · exact offC p hp
  · refine wpAny_pyIter_ascii ha ?_
    refine LCt.block_T (Walks.strAscii hh _ T t) hsz (fun i h st => by obtain ⟨o, e, _⟩ := st; exact ⟨o, e⟩) (str_st "str_ascii_iterator" T t _) hcell hkind hx ⟨_, Heap.get?_push_size _ rfl, rfl, rfl⟩ (fun b hb => ?_)
      (F.keeps (up _)) (N.grown (up _)) (Nat.ne_of_lt F.ns.lt) (next_is_new F) (fun p hp => Nat.ne_of_lt (Heap.lt_size (N p hp).1)) trivial (R _ ⟨_, rfl⟩) ?_
    · rw [List.mem_singleton.mp hb]
      show s₁.heap.objs.size < (s₁.heap.push _).objs.size
      rw [Heap.size_push]; exact Nat.lt_succ_self _
    · intro D C h tk m' ys news' F' N' o1 hn hC₀ hD₀ hCL hDL hCD offC fin
      refine ⟨m', hn, fun h'' hs'' => fin D h'' tk (F'.change hs'' hCL hC₀) (fun p hp => ?_) o1⟩
      refine ⟨hs''.extBut _ _ ?_ (N' p hp).1, (N' p hp).2⟩
      rcases List.mem_cons.mp hp with rfl | hp
      · exact Ne.symm hCD
      · exact offC p hp
theorem cnt_rest {T : Str} {S : List (Addr × Obj) → Prop} {Fin : List Value → List (Addr × Obj) → Prop} (p : Nat → Bool)
    (turn : ∀ c t I oI C oC D m₂ ys h tk (E' : Value → Shared → Prop), c ∈ cp T → LCg.NsObj oC m₂ → m₂ x = some (.str ⟨#[c]⟩ t) → Fr h₀ L h m → News h₀ L h ((I, oI) :: (C, oC) :: (D, LCg.lst ys) :: news) → LCg.Off3 I C D news → ((@Ne Nat I C) ∧ (@Ne Nat I D) ∧ (@Ne Nat C D)) → KPfMark →
      wpAny (model prog w) A (isTrue ct (compEnvC scope cl C env) (eval ct (compEnvC scope cl C env))) (fun b s' => if b = true then wpAny (model prog w) A (eval elt (compEnvC scope cl C env)) (LCg.CompEnd h₀ L m { s with heap := h, toks := tk } I oI C oC D (LCg.lst ys) S (fun _ news' => CntEl news (p c) news')) E' s'
        else LCg.CompEnd h₀ L m { s with heap := h, toks := tk } I oI C oC D (LCg.lst ys) S (fun _ news' => CntNo news (p c) news') Value.none s') E' { s with heap := h, toks := tk })
    (fin : ∀ ys, ys.length = (cp T).countP p → Fin ys news) : LCt.CompRestT prog w A h₀ L m env ct elt x scope cl s S (SignAt T) Fin T.cps.size 0 [] news := by
  have key : ∀ (j i : Nat) (ys : List Value), i + j = T.cps.size → ys.length = ((cp T).take i).countP p → LCt.CompRestT prog w A h₀ L m env ct elt x scope cl s S (SignAt T) Fin j i ys news := by
    intro j
    induction j with
    | zero =>
      intro i ys hi hy
      have e : i = (cp T).length := by rw [cp_len]; exact hi
      subst e
      rw [List.take_length] at hy
      exact LCt.CompRestT.zero (fin ys hy)
    | succ j ih =>
      intro i ys hi hy
      refine LCt.CompRestT.succ ?_
      intro v I oI C oC D m₂ h tk E' hv hC hx F N off ne
      obtain ⟨c, u, hk, hv'⟩ := hv
      rw [hv'] at hx
      have hk' : (cp T)[i]? = some c := by simpa [cp] using hk
      have hs : ((cp T).take (i + 1)).countP p = ((cp T).take i).countP p + (if p c = true then 1 else 0) := by
        rw [List.take_add_one, hk', List.countP_append]
        simp [List.countP_cons]
      refine wpAny_mono (turn c u I oI C oC D m₂ ys h tk E' (List.mem_of_getElem? hk') hC hx F N off ne True.intro) (fun b s₂ hq => ?_) fun _ _ e => e
      cases b with
      | true =>
        simp only [if_true] at hq ⊢
        refine wpAny_mono hq (fun y s₃ hr => ?_) fun _ _ e => e
        obtain ⟨h', tk', nw, e, F', N', off', hS, hn, hp⟩ := hr
        rw [hn] at N' off' hS
        refine ⟨h', tk', news, e, F', N', off', hS, ?_⟩
        refine ih (i + 1) _ (by omega) ?_
        rw [hs, hp, List.length_append, hy]; rfl
      | false =>
        simp only [Bool.false_eq_true, if_false] at hq ⊢
        obtain ⟨h', tk', nw, e, F', N', off', hS, hn, hp⟩ := hq
        rw [hn] at N' off' hS
        refine ⟨h', tk', news, e, F', N', off', hS, ih (i + 1) _ (by omega) ?_⟩
        rw [hs, hp, hy]; rfl
  exact key _ 0 [] (by omega) (by simp)
end
end Mine
namespace Mine
open PySem.Calls
noncomputable def inLit (lit : Str) (c : Nat) : Bool := decide (c ∈ cp lit)
theorem SrcStr.lit {prog : Program} {w : World} {A : Around} {h₀ : Heap} {L : Addr} {m : Str → Option Value} {env : Env} {elt l : Expr} {ops : List CmpOp} {lit : Str} {n1 : Nat} {p1 p2 : Pos} {x : Str} {scope : Scope} {cl : List (Str × Addr)} {news : List (Addr × Obj)} {Fin : Shared → List Value → List (Addr × Obj) → Prop} {T : Str} {t : Tok} {s₁ : Shared}
    (hh : A.handled = none) (F : Fr h₀ L s₁.heap m) (N : News h₀ L s₁.heap news) (hsz : T.length ≤ 64)
    (turn : ∀ g c t I oI C oC D m₂ ys h tk (E' : Value → Shared → Prop), c ∈ cp T → LCg.NsObj oC m₂ → m₂ x = some (.str ⟨#[c]⟩ t) → Fr h₀ L h m → News h₀ L h ((I, oI) :: (C, oC) :: (D, LCg.lst ys) :: news) → LCg.Off3 I C D news → ((@Ne Nat I C) ∧ (@Ne Nat I D) ∧ (@Ne Nat C D)) → KPfMark →
      wpAny (model prog w) A (isTrue (.Compare l ops [.Constant (.str lit) n1 p1] p2) (compEnvC scope cl C env) (eval (.Compare l ops [.Constant (.str lit) n1 p1] p2) (compEnvC scope cl C env))) (fun b s' => if b = true then wpAny (model prog w) A (eval elt (compEnvC scope cl C env)) (LCg.CompEnd h₀ L m { { s₁ with heap := g } with heap := h, toks := tk } I oI C oC D (LCg.lst ys) (fun _ => True) (fun _ news' => CntEl news (inLit lit c) news')) E' s'
        else LCg.CompEnd h₀ L m { { s₁ with heap := g } with heap := h, toks := tk } I oI C oC D (LCg.lst ys) (fun _ => True) (fun _ news' => CntNo news (inLit lit c) news') Value.none s') E' { { s₁ with heap := g } with heap := h, toks := tk })
    (fin : ∀ g ys, ys.length = (cp T).countP (inLit lit) → Fin { s₁ with heap := g } ys news) : SrcStr prog w A h₀ L m env (.Compare l ops [.Constant (.str lit) n1 p1] p2) elt x scope cl Fin (.str T t) s₁ :=
  SrcStr.of hh F N (by have : T.cps.size = T.length := rfl; rw [this, PySem.sizeLine_eq]; omega) fun g => cnt_rest (inLit lit) (turn g) (fin g)
theorem cnt_t {lit : Str} {c : Nat} (h : (Builtin.Str.occurrences lit ⟨#[c]⟩ 0 lit.length 1).isEmpty = false) : inLit lit c = true := by
  have := StrLaws.found_one lit c
  rw [h] at this
  exact this.symm
theorem cnt_f {lit : Str} {c : Nat} (h : (Builtin.Str.occurrences lit ⟨#[c]⟩ 0 lit.length 1).isEmpty = true) : inLit lit c = false := by
  have := StrLaws.found_one lit c
  rw [h] at this
  exact this.symm
theorem fin_intro {h₀ : Heap} {L : Addr} {m : Str → Option Value} {s : Shared} {Q : Value → Shared → Prop} {ys : List Value} {news : List (Addr × Obj)}
    (h : ∀ D h tk, Fr h₀ L h m → News h₀ L h ((D, LCg.lst ys) :: news) → LCg.Off1 D news → Q (.ref D) { s with heap := h, toks := tk }) : LCg.FinE h₀ L m s Q ys news := h
theorem len_cnt {prog : Program} {w : World} {A : Around} {E : Value → Shared → Prop} {s : Shared} {h₀ : Heap} {L D : Addr} {news : List (Addr × Obj)} {ys : List Value} {k : Nat} {Q : Value → Shared → Prop} (N : News h₀ L s.heap ((D, LCg.lst ys) :: news)) (hy : ys.length = k) (hk : k ≤ 1000000)
    (h : ∀ t tk, Q (.int k t) { s with toks := tk }) : wpAny (model prog w) A (call (.builtin "len") [.ref D]) Q E s := by
  have hz : ys.toArray.size = k := by rw [List.size_toArray]; exact hy
  refine len_list (News.isList N (List.mem_cons_self ..)) (by rw [hz]; omega) ?_
  rw [hz]
  exact h _ _
open PySem.Builtin PySem.Builtin.Str in
/-- str.replace, its counter not falling -/
theorem replaceK {prog : Program} {w : World} {A : Around} {E : Value → Shared → Prop} {s : Shared} {x y z : Str} {t u v : Tok} {Q : Value → Shared → Prop} (hu : u ≠ 0) (hv : v ≠ 0) (huv : u ≠ v) (hyz : (y == z) = false) (hx : x.length ≤ 1000) (hz : z.length ≤ 1)
    (hq : ∀ t' k, s.toks ≤ k → (Txt.replace x y z).length ≤ 2 * x.length + 1 → Q (.str (Txt.replace x y z) t') { s with toks := k }) : wpAny (model prog w) A (call (.builtin "str.replace") [.str x t, .str y u, .str z v]) Q E s := by
  have h1 : (x.length + 1) * z.length ≤ (x.length + 1) * 1 := Nat.mul_le_mul_left _ hz
  have hb : x.length + (x.length + 1) * z.length ≤ 16777216 := by omega
  have e : (2 : Nat) ^ 24 = 16777216 := by decide
  have h3 := StrLaws.occ_length_le x y 0 x.length (x.length + 1)
  have h2 : (occurrences x y 0 x.length (x.length + 1)).length * z.length ≤ (x.length + 1) * z.length := Nat.mul_le_mul_right _ h3
  have hl : tooLong (x.length + (occurrences x y 0 x.length (x.length + 1)).length * z.length) = false := by
    unfold tooLong sizeLine
    exact decide_eq_false (by omega)
  refine call_gives F.slot_str_replace (typeIs_str _ _ _) F.entry_str_replace (F.args_str_replace_3 _ _ _)
    (gives_str_replace x y z t u v fun _ => ⟨by simp [hu, hv], by simp [huv], hyz, hl⟩) ?_
  have hq' := hq
  unfold Txt.replace at hq'
  cases hc : ((occurrences x y 0 x.length (x.length + 1)).isEmpty || (y.length == 0 && z.length == 0))
  · rw [hc] at hq'
    simp only [Bool.false_eq_true, if_false] at hq' ⊢
    refine ⟨fits_replaced y hb, hq' _ _ (Nat.le_succ _) ?_⟩
    have hy : (glued y (partsBetween x (occurrences x y 0 x.length (x.length + 1)) y.length)).length = x.length := by rw [StrLaws.glued_between_self]
    rw [size_glued, length_partsBetween, Nat.add_sub_cancel] at hy
    rw [size_glued, length_partsBetween, Nat.add_sub_cancel]
    omega
  · rw [hc] at hq'
    simp only [if_true] at hq' ⊢
    exact hq' t s.toks (Nat.le_refl _) (by omega)
section
variable {h₀ h' : Heap} {L I C D : Addr} {m : Str → Option Value} {s₁ : Shared} {oI oC oD : Obj} {news : List (Addr × Obj)} {b : Bool} {y : Value} {tk : Nat}
theorem cnt_el_end (F : Fr h₀ L h' m) (N : News h₀ L h' ((I, oI) :: (C, oC) :: (D, oD) :: news)) (off : LCg.Off3 I C D news) (hb : b = true) :
    LCg.CompEnd h₀ L m s₁ I oI C oC D oD (fun _ => True) (fun _ news' => CntEl news b news') y { s₁ with heap := h', toks := tk } := ⟨h', tk, news, rfl, F, N, off, trivial, rfl, hb⟩
theorem cnt_no_end (F : Fr h₀ L h' m) (N : News h₀ L h' ((I, oI) :: (C, oC) :: (D, oD) :: news)) (off : LCg.Off3 I C D news) (hb : b = false) :
    LCg.CompEnd h₀ L m s₁ I oI C oC D oD (fun _ => True) (fun _ news' => CntNo news b news') y { s₁ with heap := h', toks := tk } := ⟨h', tk, news, rfl, F, N, off, trivial, rfl, hb⟩
end
end Mine
end
section
local macro_rules | `(tactic| omega) => `(tactic| lia)
open PySem PySem.W PyProof.Rows
set_option Elab.async false
set_option maxRecDepth 100000
namespace Mine
noncomputable def Claim (w : World) (n : Nat) (f : Addr) (vs : List Value) (Post : Value → Prop) : Prop :=
  ∀ (p : Program) (loose : List Str) (mean : ExcName → Option Value) (mg mb : Str → Option Value) (dp un : Nat) (gd : Option (List Code)) (cn : Str) (cs : Scope) (a : Addr) (ccd : Value) (cl : List (Str × Addr)) (outer : List Env) (A₀ : Around) (base h₀ : Heap) (L : Addr) (m : Str → Option Value) (news : List (Addr × Obj)) (s : Shared) (Q E : Value → Shared → Prop),
    Below A₀ base outer h₀ → Fr h₀ L s.heap m → (hd.heap_39 w.params).In h₀ → News h₀ L s.heap news → Top p loose mean mg mb h₀ → cs.kind = .function → dp + n < recursionLimit → un + 8 * n + 8 < cLine →
    (∀ (r : Value) (h' : Heap) (tk' : Nat), Post r → Fr h₀ L h' m → News h₀ L h' news → Q r { s with heap := h', toks := tk' }) →
      wpAny (model PySem.Challenge.rw_ik0037_01.row.prog w) (ktrTop dp un gd cn cs L a ccd cl outer) (call (.ref f) vs) Q E s
theorem Claim.use {w : World} {n : Nat} {f : Addr} {vs : List Value} {Post : Value → Prop} (C : Claim w n f vs Post) {p : Program} {loose : List Str} {mean : ExcName → Option Value} {mg mb : Str → Option Value} {dp un : Nat} {gd : Option (List Code)} {cn : Str} {cs : Scope} {a : Addr} {ccd : Value} {cl : List (Str × Addr)} {outer : List Env} {A₀ : Around} {base h₀ : Heap} {L : Addr} {m : Str → Option Value} {news : List (Addr × Obj)} {s : Shared} {Q E : Value → Shared → Prop}
    (B : Below A₀ base outer h₀) (F : Fr h₀ L s.heap m) (X : (hd.heap_39 w.params).In h₀) (N : News h₀ L s.heap news) (T : Top p loose mean mg mb h₀) (hk : cs.kind = .function) (hd : dp + n < recursionLimit) (hu : un + 8 * n + 8 < cLine)
    (ret : ∀ (r : Value) (h' : Heap) (tk' : Nat), Post r → Fr h₀ L h' m → News h₀ L h' news → Q r { s with heap := h', toks := tk' }) :
      wpAny (model PySem.Challenge.rw_ik0037_01.row.prog w) (ktrTop dp un gd cn cs L a ccd cl outer) (call (.ref f) vs) Q E s :=
  C _ _ _ _ _ _ _ _ _ _ _ _ _ _ _ _ _ _ _ _ _ _ _ B F X N T hk hd hu ret
/-- a claim that tells the counter of the made values, too -/
noncomputable def ClaimK (w : World) (n : Nat) (f : Addr) (vs : List Value) (Post : Value → Nat → Prop) : Prop :=
  ∀ (p : Program) (loose : List Str) (mean : ExcName → Option Value) (mg mb : Str → Option Value) (dp un : Nat) (gd : Option (List Code)) (cn : Str) (cs : Scope) (a : Addr) (ccd : Value) (cl : List (Str × Addr)) (outer : List Env) (A₀ : Around) (base h₀ : Heap) (L : Addr) (m : Str → Option Value) (news : List (Addr × Obj)) (s : Shared) (Q E : Value → Shared → Prop),
    Below A₀ base outer h₀ → Fr h₀ L s.heap m → (hd.heap_39 w.params).In h₀ → News h₀ L s.heap news → Top p loose mean mg mb h₀ → cs.kind = .function → dp + n < recursionLimit → un + 8 * n + 8 < cLine →
    (∀ (r : Value) (h' : Heap) (tk' : Nat), Post r tk' → Fr h₀ L h' m → News h₀ L h' news → Q r { s with heap := h', toks := tk' }) →
      wpAny (model PySem.Challenge.rw_ik0037_01.row.prog w) (ktrTop dp un gd cn cs L a ccd cl outer) (call (.ref f) vs) Q E s
theorem ClaimK.use {w : World} {n : Nat} {f : Addr} {vs : List Value} {Post : Value → Nat → Prop} (C : ClaimK w n f vs Post) {p : Program} {loose : List Str} {mean : ExcName → Option Value} {mg mb : Str → Option Value} {dp un : Nat} {gd : Option (List Code)} {cn : Str} {cs : Scope} {a : Addr} {ccd : Value} {cl : List (Str × Addr)} {outer : List Env} {A₀ : Around} {base h₀ : Heap} {L : Addr} {m : Str → Option Value} {news : List (Addr × Obj)} {s : Shared} {Q E : Value → Shared → Prop}
    (B : Below A₀ base outer h₀) (F : Fr h₀ L s.heap m) (X : (hd.heap_39 w.params).In h₀) (N : News h₀ L s.heap news) (T : Top p loose mean mg mb h₀) (hk : cs.kind = .function) (hd : dp + n < recursionLimit) (hu : un + 8 * n + 8 < cLine)
    (ret : ∀ (r : Value) (h' : Heap) (tk' : Nat), Post r tk' → Fr h₀ L h' m → News h₀ L h' news → Q r { s with heap := h', toks := tk' }) :
      wpAny (model PySem.Challenge.rw_ik0037_01.row.prog w) (ktrTop dp un gd cn cs L a ccd cl outer) (call (.ref f) vs) Q E s :=
  C _ _ _ _ _ _ _ _ _ _ _ _ _ _ _ _ _ _ _ _ _ _ _ B F X N T hk hd hu ret
theorem fr_eq {g h : Heap} {L : Addr} {m m' : Str → Option Value} (F : Fr g L h m) (e : ∀ y, m y = m' y) : Fr g L h m' := by
  have : m = m' := funext e
  rwa [← this]
theorem lookup_if {y k : Str} {v : Value} {l : List (Str × Value)} : List.lookup y ((k, v) :: l) = if y = k then some v else List.lookup y l := by
  rw [List.lookup_cons]
  by_cases e : y = k
  · simp [e]
  · have : (y == k) = false := by simpa using e
    simp [this, e]
theorem ints_step (c : Int) : ∀ (vs : List Value) (a : Int) (n : Nat), vs.length = n → (∀ (j : Nat) (v : Value), vs[j]? = some v → ∃ t, v = .int (a + j * c) t) → IntsAre vs ((List.range n).map fun (k : Nat) => a + (k : Int) * c)
  | [], a, n, e, _ => by
    subst e
    exact IntsAre.nil
  | v :: r, a, n, e, h => by
    subst e
    have e2 : ((List.range (r.length + 1)).map fun (k : Nat) => a + (k : Int) * c) = a :: ((List.range r.length).map fun (k : Nat) => (a + c) + (k : Int) * c) := by
      rw [List.range_succ_eq_map, List.map_cons, List.map_map]
      congr 1
      · simp
      · apply List.map_congr_left
        intro k _
        simp only [Function.comp]
        have : ((k.succ : Nat) : Int) * c = (k : Int) * c + c := by rw [Nat.succ_eq_add_one, Int.natCast_add, Int.add_mul]; simp
        rw [this]; omega
    rw [List.length_cons, e2]
    obtain ⟨t, ht⟩ := h 0 v rfl
    have hv : v = .int a t := by rw [ht]; simp
    subst hv
    refine IntsAre.cons _ _ (ints_step c r (a + c) r.length rfl fun j v hj => ?_)
    obtain ⟨t', ht'⟩ := h (j + 1) v hj
    refine ⟨t', ht'.trans ?_⟩
    congr 1
    rw [Int.natCast_add, Int.add_mul]; simp; omega
theorem small_two {n : Nat} (h : n ≤ 1048576) : Builtin.Range.small 2 (2 * ((n : Int) + 1)) 2 = true ∧ Builtin.Range.rangeSize 2 (2 * ((n : Int) + 1)) 2 = (n : Int) := by
  have e : Builtin.Range.rangeSize 2 (2 * ((n : Int) + 1)) 2 = (n : Int) := by
    unfold Builtin.Range.rangeSize
    simp only [show (2 : Int) > 0 by decide, if_true]
    split <;> omega
  refine ⟨?_, e⟩
  have f : ∀ i : Int, -1048576 ≤ i → i ≤ 4194304 → Builtin.Range.rangeFitsLong i = true := by
    intro i h1 h2
    unfold Builtin.Range.rangeFitsLong
    rw [Bool.and_eq_true, decide_eq_true_eq, decide_eq_true_eq]
    omega
  unfold Builtin.Range.small
  rw [e, f 2 (by omega) (by omega), f (2 * ((n : Int) + 1)) (by omega) (by omega), f (n : Int) (by omega) (by omega), if_pos (by decide), f (2 * ((n : Int) + 1) + (2 - 1)) (by omega) (by omega), Bool.or_true]
  rfl
theorem list_range2 {prog : Program} {w : World} {A : Around} {E : Value → Shared → Prop} {s : Shared} {h₀ : Heap} {L r : Addr} {m : Str → Option Value} {news : List (Addr × Obj)} {b : Int} {t₀ u₀ v₀ : Tok} {n : Nat} {Q : Value → Shared → Prop}
    (hh : A.handled = none) (F : Fr h₀ L s.heap m) (N : News h₀ L s.heap news) (hr : IsRange s.heap r 2 b 2 t₀ u₀ v₀) (hb : b = 2 * ((n : Int) + 1)) (hz : n ≤ 1048576)
    (h : ∀ D us c h' tk, Fr h₀ L h' m → News h₀ L h' ((D, listOf (List.toArray us) c) :: news) → (∀ p ∈ news, p.1 < D) → IntsAre us ((List.range n).map fun (k : Nat) => 2 + (k : Int) * 2) → Q (.ref D) { s with heap := h', toks := tk }) :
    wpAny (model prog w) A (call (.type "list") [.ref r]) Q E s := by
  subst hb
  have hs := small_two hz
  refine call_list_range hh hr hs.1 hs.2 (by omega) fun h' tk acc c hk hD hI => ?_
  have hD' : h'.get? s.heap.objs.size = some (listOf (List.toArray acc.toList) c) := by
    rw [Array.toArray_toList]
    exact hD
  exact h _ acc.toList c h' tk (F.keeps hk) (news_pushed F N hk hD' rfl) (fun p hp => Heap.lt_size (N p hp).1) (ints_step 2 _ _ _ (by rw [Array.length_toList]; exact hI.1) fun j v hj => hI.2 j v (by rw [← hj, Array.getElem?_toList]))
theorem news_sub {g h : Heap} {L : Addr} {a b : List (Addr × Obj)} (N : News g L h a) (hs : ∀ p ∈ b, p ∈ a) : News g L h b := fun p hp => N p (hs p hp)
section
variable {h₀ h' : Heap} {L : Addr} {m : Str → Option Value} {news : List (Addr × Obj)} {s : Shared} {Q : Value → Shared → Prop} {t : Tok} {tk' : Nat}
theorem ret_i {x y : Int} (hret : ∀ (r : Value) (h' : Heap) (tk' : Nat), (∃ t, r = .int x t) → Fr h₀ L h' m → News h₀ L h' news → Q r { s with heap := h', toks := tk' }) (e : y = x) (F : Fr h₀ L h' m) (N : News h₀ L h' news) : Q (.int y t) { s with heap := h', toks := tk' } := hret _ _ _ ⟨t, by rw [e]⟩ F N
end
end Mine
end
section
local macro_rules | `(tactic| omega) => `(tactic| lia)
open PySem PyProof PyProof.Rows
namespace Mine
noncomputable def sc (x y : Nat) : Int := subS ⟨#[x]⟩ ⟨#[y]⟩
theorem one_eq {x y : Nat} : ((⟨#[x]⟩ : Str) == ⟨#[y]⟩) = decide (x = y) := by
  by_cases h : x = y
  · simp [h]
  · have : ¬ ((⟨#[x]⟩ : Str) = ⟨#[y]⟩) := fun e => h (by have := congrArg (fun s : Str => s.cps.toList) e; simpa using this)
    simp [h, this]
theorem sc_self (x : Nat) : sc x x = 0 := by simp [sc, subS]
theorem sc_nonneg (x y : Nat) : 0 ≤ sc x y := by unfold sc subS; split <;> (try split) <;> omega
theorem sc_le (x y : Nat) : sc x y ≤ 2 := by unfold sc subS; split <;> (try split) <;> omega
theorem sc_pos {x y : Nat} (h : x ≠ y) : 1 ≤ sc x y := by
  unfold sc subS; rw [one_eq]; simp only [h, decide_false]; simp only [Bool.false_eq_true, if_false]; split <;> omega
theorem sc_comm (x y : Nat) : sc x y = sc y x := by
  unfold sc subS
  rw [one_eq, one_eq]
  by_cases h : x = y
  · simp [h]
  · have h' : y ≠ x := fun e => h e.symm
    simp only [h, h', decide_false, Bool.false_eq_true, if_false]
    have e : (Txt.lower ⟨#[x]⟩ == Txt.lower ⟨#[y]⟩) = (Txt.lower ⟨#[y]⟩ == Txt.lower ⟨#[x]⟩) := Bool.beq_comm
    rw [e]
noncomputable def ed : List Nat → List Nat → Int
  | [], b => 2 * b.length
  | x :: a, [] => 2 * (a.length + 1)
  | x :: a, y :: b => min (ed a b + sc x y) (min (ed a (y :: b) + 2) (ed (x :: a) b + 2))
termination_by a b => a.length + b.length
theorem ed_nil (b : List Nat) : ed [] b = 2 * b.length := by rw [ed]
theorem ed_nil' (a : List Nat) : ed a [] = 2 * a.length := by
  cases a with
  | nil => rw [ed]
  | cons x a => rw [ed]; simp
theorem ed_cons (x y : Nat) (a b : List Nat) : ed (x :: a) (y :: b) = min (ed a b + sc x y) (min (ed a (y :: b) + 2) (ed (x :: a) b + 2)) := by rw [ed]
theorem ed_del (x : Nat) (a b : List Nat) : ed (x :: a) b ≤ ed a b + 2 := by
  cases b with
  | nil => rw [ed_nil', ed_nil']; simp only [List.length_cons]; omega
  | cons y b => rw [ed_cons]; omega
theorem ed_ins (y : Nat) (a b : List Nat) : ed a (y :: b) ≤ ed a b + 2 := by
  cases a with
  | nil => rw [ed_nil, ed_nil]; simp only [List.length_cons]; omega
  | cons x a => rw [ed_cons]; omega
theorem ed_sub (x y : Nat) (a b : List Nat) : ed (x :: a) (y :: b) ≤ ed a b + sc x y := by
  rw [ed_cons]; omega
inductive Align : List Nat → List Nat → Int → Prop
  | nil : Align [] [] 0
  | sub {a b c} (x y) : Align a b c → Align (x :: a) (y :: b) (c + sc x y)
  | del {a b c} (x) : Align a b c → Align (x :: a) b (c + 2)
  | ins {a b c} (y) : Align a b c → Align a (y :: b) (c + 2)
theorem Align.le {a b : List Nat} {c : Int} (h : Align a b c) : ed a b ≤ c := by
  induction h with
  | nil => rw [ed_nil]; simp
  | @sub a b c x y _ ih => have := ed_sub x y a b; omega
  | @del a b c x _ ih => have := ed_del x a b; omega
  | @ins a b c y _ ih => have := ed_ins y a b; omega
theorem align_nil : ∀ b : List Nat, Align [] b (2 * b.length)
  | [] => Align.nil
  | y :: b => by
    have := Align.ins y (align_nil b)
    have e : (2 * (b.length : Int) + 2) = 2 * ((y :: b).length : Int) := by simp only [List.length_cons]; omega
    rwa [e] at this
theorem align_nil' : ∀ a : List Nat, Align a [] (2 * a.length)
  | [] => Align.nil
  | x :: a => by
    have := Align.del x (align_nil' a)
    have e : (2 * (a.length : Int) + 2) = 2 * ((x :: a).length : Int) := by simp only [List.length_cons]; omega
    rwa [e] at this
theorem align_ed : ∀ (n : Nat) (a b : List Nat), a.length + b.length ≤ n → Align a b (ed a b)
  | _, [], b, _ => by rw [ed_nil]; exact align_nil b
  | _, x :: a, [], _ => by rw [ed_nil']; exact align_nil' _
  | 0, x :: a, y :: b, h => by simp at h
  | n + 1, x :: a, y :: b, h => by
    simp only [List.length_cons] at h
    have h1 := Align.sub x y (align_ed n a b (by omega))
    have h2 := Align.del x (align_ed n a (y :: b) (by simp only [List.length_cons]; omega))
    have h3 := Align.ins y (align_ed n (x :: a) b (by simp only [List.length_cons]; omega))
    have e : ed (x :: a) (y :: b) = ed a b + sc x y ∨ ed (x :: a) (y :: b) = ed a (y :: b) + 2 ∨ ed (x :: a) (y :: b) = ed (x :: a) b + 2 := by
      rw [ed_cons]; omega
    rcases e with e | e | e <;> rw [e] <;> assumption
theorem Align.append {a b a' b' : List Nat} {c c' : Int} (h : Align a b c) (h' : Align a' b' c') : Align (a ++ a') (b ++ b') (c + c') := by
  induction h with
  | nil => simpa using h'
  | @sub a b c x y _ ih =>
    have := Align.sub x y ih
    have e : c + c' + sc x y = c + sc x y + c' := by omega
    rwa [e] at this
  | @del a b c x _ ih =>
    have := Align.del x ih
    have e : c + c' + 2 = c + 2 + c' := by omega
    rwa [e] at this
  | @ins a b c y _ ih =>
    have := Align.ins y ih
    have e : c + c' + 2 = c + 2 + c' := by omega
    rwa [e] at this
theorem Align.rev {a b : List Nat} {c : Int} (h : Align a b c) : Align a.reverse b.reverse c := by
  induction h with
  | nil => exact Align.nil
  | sub x y _ ih =>
    rw [List.reverse_cons, List.reverse_cons]
    exact ih.append (by have := Align.sub x y Align.nil; rwa [Int.zero_add] at this)
  | del x _ ih =>
    rw [List.reverse_cons]
    have := ih.append (Align.del x Align.nil)
    simpa using this
  | ins y _ ih =>
    rw [List.reverse_cons]
    have := ih.append (Align.ins y Align.nil)
    simpa using this
theorem Align.comm {a b : List Nat} {c : Int} (h : Align a b c) : Align b a c := by
  induction h with
  | nil => exact Align.nil
  | sub x y _ ih => have := Align.sub y x ih; rwa [sc_comm y x] at this
  | del x _ ih => exact Align.ins x ih
  | ins y _ ih => exact Align.del y ih
theorem ed_align (a b : List Nat) : Align a b (ed a b) := align_ed _ a b (Nat.le_refl _)
theorem ed_comm (a b : List Nat) : ed a b = ed b a := Int.le_antisymm (ed_align b a).comm.le (ed_align a b).comm.le
theorem ed_rev (a b : List Nat) : ed a.reverse b.reverse = ed a b := by
  refine Int.le_antisymm (ed_align a b).rev.le ?_
  have := (ed_align a.reverse b.reverse).rev.le
  simpa using this
theorem ed_append (a b a' b' : List Nat) : ed (a ++ a') (b ++ b') ≤ ed a b + ed a' b' := ((ed_align a b).append (ed_align a' b')).le
theorem ed_lip (x : Nat) (a : List Nat) : ∀ b, ed a b ≤ ed (x :: a) b + 2
  | [] => by rw [ed_nil', ed_nil']; simp only [List.length_cons]; omega
  | y :: b => by
    have ih := ed_lip x a b
    have h1 := ed_ins y a b
    have h2 := sc_nonneg x y
    rw [ed_cons]
    omega
theorem ed_lip' (y : Nat) (a b : List Nat) : ed a b ≤ ed a (y :: b) + 2 := by
  rw [ed_comm a b, ed_comm a (y :: b)]; exact ed_lip y b a
theorem ed_same (x : Nat) (a b : List Nat) : ed (x :: a) (x :: b) = ed a b := by
  have h1 := ed_lip x a b
  have h2 := ed_lip' x a b
  rw [ed_cons, sc_self]
  omega
theorem ed_prefix (p a b : List Nat) : ed (p ++ a) (p ++ b) = ed a b := by
  induction p with
  | nil => rfl
  | cons x p ih => rw [List.cons_append, List.cons_append, ed_same, ih]
theorem ed_suffix (p a b : List Nat) : ed (a ++ p) (b ++ p) = ed a b := by
  rw [← ed_rev, List.reverse_append, List.reverse_append, ed_prefix, ed_rev]
theorem ed_nonneg (a b : List Nat) : 0 ≤ ed a b := by
  have h : ∀ {a b c}, Align a b c → 0 ≤ c := by
    intro a b c h
    induction h with
    | nil => omega
    | sub x y _ ih => have := sc_nonneg x y; omega
    | del _ _ ih => omega
    | ins _ _ ih => omega
  exact h (ed_align a b)
/-- signs of a that stand in S may be kept; all of b stand in S -/
theorem ed_count (S : Nat → Bool) {a b : List Nat} (hb : ∀ y ∈ b, S y = true) (hs : ∀ x ∈ a, S x = false → ∀ y ∈ b, sc x y = 2) :
    2 * (b.length : Int) - 2 * (a.countP S : Int) ≤ ed a b := by
  have key : ∀ {a b c}, Align a b c → (∀ y ∈ b, S y = true) → (∀ x ∈ a, S x = false → ∀ y ∈ b, sc x y = 2) → 2 * (b.length : Int) - 2 * (a.countP S : Int) ≤ c := by
    intro a b c h
    induction h with
    | nil => intro _ _; simp
    | @sub a b c x y _ ih =>
      intro hb hs
      have ih := ih (fun z hz => hb z (.tail _ hz)) (fun u hu e z hz => hs u (.tail _ hu) e z (.tail _ hz))
      have h0 := sc_nonneg x y
      simp only [List.length_cons, List.countP_cons]
      cases hx : S x with
      | true => simp; omega
      | false =>
        have := hs x (.head _) hx y (.head _)
        simp; omega
    | @del a b c x _ ih =>
      intro hb hs
      have ih := ih hb (fun u hu e z hz => hs u (.tail _ hu) e z hz)
      simp only [List.countP_cons]
      split <;> omega
    | @ins a b c y _ ih =>
      intro hb hs
      have ih := ih (fun z hz => hb z (.tail _ hz)) (fun u hu e z hz => hs u hu e z (.tail _ hz))
      simp only [List.length_cons]
      omega
  exact key (ed_align a b) hb hs
theorem ed_len (a b : List Nat) : 2 * (b.length : Int) - 2 * (a.length : Int) ≤ ed a b := by
  have h := ed_count (fun _ => true) (a := a) (b := b) (fun _ _ => rfl) (fun _ _ e => by simp at e)
  have e : a.countP (fun _ => true) = a.length := by simp
  rw [e] at h
  exact h
theorem ed_len' (a b : List Nat) : 2 * (a.length : Int) - 2 * (b.length : Int) ≤ ed a b := by rw [ed_comm]; exact ed_len b a
/-- signs of a that stand not in b cost at least one each -/
theorem ed_miss (S : Nat → Bool) {a b : List Nat} (hb : ∀ y ∈ b, S y = false) : (a.countP S : Int) ≤ ed a b := by
  have key : ∀ {a b c}, Align a b c → (∀ y ∈ b, S y = false) → (a.countP S : Int) ≤ c := by
    intro a b c h
    induction h with
    | nil => intro _; simp
    | @sub a b c x y _ ih =>
      intro hb
      have ih := ih (fun z hz => hb z (.tail _ hz))
      have h0 := sc_nonneg x y
      simp only [List.countP_cons]
      cases hx : S x with
      | true =>
        have hy := hb y (.head _)
        have : x ≠ y := fun e => by rw [e, hy] at hx; cases hx
        have := sc_pos this
        simp; omega
      | false => simp; omega
    | @del a b c x _ ih =>
      intro hb
      have ih := ih hb
      simp only [List.countP_cons]
      split <;> omega
    | @ins a b c y _ ih =>
      intro hb
      have ih := ih (fun z hz => hb z (.tail _ hz))
      omega
  exact key (ed_align a b) hb
theorem ed_zero : ∀ {a b : List Nat}, (∀ x ∈ a, ∀ y ∈ b, x ≠ y → sc x y = 2) → ed a b < 2 → a = b
  | [], [], _, _ => rfl
  | [], y :: b, _, h => by rw [ed_nil] at h; simp only [List.length_cons] at h; omega
  | x :: a, [], _, h => by rw [ed_nil'] at h; simp only [List.length_cons] at h; omega
  | x :: a, y :: b, hs, h => by
    have n1 := ed_nonneg a b
    have n2 := ed_nonneg a (y :: b)
    have n3 := ed_nonneg (x :: a) b
    rw [ed_cons] at h
    by_cases e : x = y
    · subst e
      rw [sc_self] at h
      rw [ed_zero (fun u hu v hv => hs u (.tail _ hu) v (.tail _ hv)) (by omega)]
    · have := hs x (.head _) y (.head _) e
      omega
theorem ed_one : ∀ {a b : List Nat}, (∀ x ∈ a, ∀ y ∈ b, x ≠ y → sc x y = 2) → a.length = b.length → ed a b < 4 →
    a = b ∨ ∃ p x y s, x ≠ y ∧ a = p ++ x :: s ∧ b = p ++ y :: s
  | [], [], _, _, _ => .inl rfl
  | [], y :: b, _, hl, _ => by simp at hl
  | x :: a, [], _, hl, _ => by simp at hl
  | x :: a, y :: b, hs, hl, h => by
    simp only [List.length_cons, Nat.add_right_cancel_iff] at hl
    have n2 := ed_len a (y :: b)
    have n3 := ed_len' (x :: a) b
    simp only [List.length_cons] at n2 n3
    rw [ed_cons] at h
    by_cases e : x = y
    · subst e
      rw [sc_self] at h
      rcases ed_one (fun u hu v hv => hs u (.tail _ hu) v (.tail _ hv)) hl (by omega) with e | ⟨p, u, v, s, huv, e1, e2⟩
      · exact .inl (by rw [e])
      · exact .inr ⟨x :: p, u, v, s, huv, by rw [e1]; rfl, by rw [e2]; rfl⟩
    · have := hs x (.head _) y (.head _) e
      have e2 : a = b := ed_zero (fun u hu v hv => hs u (.tail _ hu) v (.tail _ hv)) (by omega)
      exact .inr ⟨[], x, y, a, e, rfl, by rw [e2]; rfl⟩
theorem ed_one_le (x : Nat) {l : List Nat} (h : l ≠ []) : ed [x] l ≤ 2 * l.length := by
  cases l with
  | nil => exact absurd rfl h
  | cons y l =>
    have := ed_sub x y [] l
    have := sc_le x y
    rw [ed_nil] at *
    simp only [List.length_cons]
    omega
theorem ed_one_mem {x : Nat} : ∀ {l : List Nat}, x ∈ l → ed [x] l ≤ 2 * (l.length : Int) - 2
  | y :: l, h => by
    rcases List.mem_cons.mp h with e | h
    · subst e
      rw [ed_same, ed_nil]
      simp only [List.length_cons]; omega
    · have := ed_ins y [x] l
      have := ed_one_mem h
      simp only [List.length_cons]; omega
theorem ed_flat (e : Nat → List Nat) (keep : Nat → Bool) : ∀ {a : List Nat}, (∀ x ∈ a, e x ≠ [] ∧ (keep x = true → x ∈ e x)) → ed a (a.flatMap e) ≤ 2 * ((a.flatMap e).length : Int) - 2 * (a.countP keep : Int)
  | [], _ => by simp [ed_nil]
  | x :: a, h => by
    have ih := ed_flat e keep (a := a) (fun u hu => h u (.tail _ hu))
    have h1 := ed_append [x] (e x) a (a.flatMap e)
    rw [List.flatMap_cons]
    simp only [List.singleton_append] at h1
    simp only [List.length_append, List.countP_cons]
    obtain ⟨h2, h3⟩ := h x (.head _)
    cases hk : keep x with
    | true =>
      have := ed_one_mem (h3 hk)
      simp only [if_true]; omega
    | false =>
      have := ed_one_le x h2
      simp only [Bool.false_eq_true, if_false]; omega
theorem ed_pad (a l p q : List Nat) : ed a (p ++ l ++ q) ≤ ed a l + 2 * p.length + 2 * q.length := by
  have h1 := ed_append [] p a (l ++ q)
  have h2 := ed_append a l [] q
  rw [ed_nil] at h1 h2
  simp only [List.nil_append, List.append_nil] at h1 h2
  rw [List.append_assoc]
  omega
theorem ed_map (f : Nat → Nat) : ∀ (a : List Nat) (S : Nat → Bool), (∀ x ∈ a, S x = false → f x = x) → (∀ x ∈ a, sc x (f x) ≤ 1) → ed a (a.map f) ≤ a.countP S
  | [], _, _, _ => by simp [ed_nil]
  | x :: a, S, h, h' => by
    have ih := ed_map f a S (fun u hu => h u (.tail _ hu)) (fun u hu => h' u (.tail _ hu))
    have h1 := ed_sub x (f x) a (a.map f)
    rw [List.map_cons]
    simp only [List.countP_cons]
    cases hk : S x with
    | true => have := h' x (.head _); simp; omega
    | false => rw [h x (.head _) hk, sc_self] at h1; rw [h x (.head _) hk]; simp; omega
/-- the table's cell: the distance of the first i and the first j signs -/
noncomputable def R (S B : List Nat) (i j : Nat) : Int := ed (S.take i).reverse (B.take j).reverse
theorem R_left {S B : List Nat} {j : Nat} (h : j ≤ B.length) : R S B 0 j = 2 * j := by
  unfold R
  rw [List.take_zero, List.reverse_nil, ed_nil, List.length_reverse, List.length_take, Nat.min_eq_left h]
theorem R_right {S B : List Nat} {i : Nat} (h : i ≤ S.length) : R S B i 0 = 2 * i := by
  unfold R
  rw [List.take_zero, List.reverse_nil, ed_nil', List.length_reverse, List.length_take, Nat.min_eq_left h]
theorem take_rev {S : List Nat} {i : Nat} (h : i < S.length) : (S.take (i + 1)).reverse = S.getD i 0 :: (S.take i).reverse := by
  rw [List.take_succ_eq_append_getElem h, List.reverse_append]
  simp [List.getD, h]
theorem R_succ {S B : List Nat} {i j : Nat} (hi : i < S.length) (hj : j < B.length) :
    R S B (i + 1) (j + 1) = min (R S B i j + sc (S.getD i 0) (B.getD j 0)) (min (R S B i (j + 1) + 2) (R S B (i + 1) j + 2)) := by
  unfold R
  rw [take_rev hi, take_rev hj, ed_cons, ← take_rev hi, ← take_rev hj]
theorem R_full (S B : List Nat) : R S B S.length B.length = ed S B := by
  unfold R
  rw [List.take_length, List.take_length, ed_rev]
/-- a whole row above the bound stays above it -/
theorem R_above {S B : List Nat} {mc : Int} {j : Nat} (hj : j < B.length) (h : ∀ i, i ≤ S.length → mc < R S B i j) : ∀ i, i ≤ S.length → mc < R S B i (j + 1)
  | 0, _ => by
    have h0 := h 0 (Nat.zero_le _)
    rw [R_left (by omega)] at h0 ⊢
    omega
  | i + 1, hi => by
    have ih := R_above hj h i (by omega)
    have h1 := h i (by omega)
    have h2 := h (i + 1) hi
    have h3 := sc_nonneg (S.getD i 0) (B.getD j 0)
    rw [R_succ (by omega) hj]
    omega
theorem R_above_all {S B : List Nat} {mc : Int} {j : Nat} (h : ∀ i, i ≤ S.length → mc < R S B i j) : ∀ k, j + k ≤ B.length → ∀ i, i ≤ S.length → mc < R S B i (j + k)
  | 0, _ => h
  | k + 1, hk => R_above (j := j + k) (by omega) (R_above_all h k (by omega))
theorem above_ed {S B : List Nat} {mc : Int} {j : Nat} (hn : 0 < S.length) (hj : j < B.length) (h : ∀ i, i < S.length → mc < R S B (i + 1) (j + 1)) : mc < ed S B := by
  have h0 : mc < R S B 0 (j + 1) := by
    have h1 := h 0 hn
    have h2 : R S B 1 (j + 1) ≤ R S B 0 j + sc (S.getD 0 0) (B.getD j 0) := by
      rw [R_succ (i := 0) hn hj]; omega
    have h3 := sc_le (S.getD 0 0) (B.getD j 0)
    rw [R_left (by omega)] at h2 ⊢
    have h4 : mc < R S B 1 (j + 1) := h1
    omega
  have hall : ∀ i, i ≤ S.length → mc < R S B i (j + 1) := by
    intro i hi
    cases i with
    | zero => exact h0
    | succ i => exact h i (by omega)
  have := R_above_all hall (B.length - (j + 1)) (by omega) S.length (Nat.le_refl _)
  have e : j + 1 + (B.length - (j + 1)) = B.length := by omega
  rw [e, R_full] at this
  exact this
noncomputable def rowAt (S B : List Nat) (i j : Nat) : List Int := (List.range S.length).map fun k => if k < i then R S B (k + 1) (j + 1) else R S B (k + 1) j
theorem rowAt_len (S B : List Nat) (i j : Nat) : (rowAt S B i j).length = S.length := by simp [rowAt]
theorem rowAt_get {S B : List Nat} {i j : Nat} (hi : i < S.length) : (rowAt S B i j).getD i 0 = R S B (i + 1) j := by
  simp [rowAt, List.getD, hi]
theorem rowAt_set {S B : List Nat} {i j : Nat} : (rowAt S B i j).set i (R S B (i + 1) (j + 1)) = rowAt S B (i + 1) j := by
  apply List.ext_getElem
  · simp [rowAt]
  · intro k h1 h2
    simp only [rowAt, List.length_map, List.length_range] at h2
    rw [List.getElem_set]
    by_cases e : i = k
    · subst e; simp [rowAt]
    · simp only [e, if_false, rowAt, List.getElem_map, List.getElem_range]
      have : (k < i) = (k < i + 1) := by apply propext; omega
      simp only [this]
theorem rowAt_full (S B : List Nat) (j : Nat) : rowAt S B S.length j = rowAt S B 0 (j + 1) := by
  unfold rowAt
  apply List.map_congr_left
  intro k hk
  have := List.mem_range.mp hk
  simp [this]
theorem rowAt_init (S B : List Nat) : rowAt S B 0 0 = (List.range S.length).map fun (k : Nat) => (2 + (k : Int) * 2) := by
  unfold rowAt
  apply List.map_congr_left
  intro k hk
  have := List.mem_range.mp hk
  simp only [Nat.not_lt_zero, if_false]
  rw [R_right (by omega)]
  omega
/-- one cell, as the code reckons it -/
theorem cell_step {S B : List Nat} {i j : Nat} {res dis : Int} (hi : i < S.length) (hj : j < B.length) (hd : dis = R S B i j) (hr : (i = 0 ∧ res = 2 * j) ∨ (0 < i ∧ res = R S B i (j + 1))) :
    min (min res (R S B (i + 1) j) + 2) (dis + sc (B.getD j 0) (S.getD i 0)) = R S B (i + 1) (j + 1) := by
  rw [R_succ hi hj, hd, sc_comm]
  have h2 := sc_le (S.getD i 0) (B.getD j 0)
  rcases hr with ⟨h, e⟩ | ⟨_, e⟩
  · subst h
    rw [e]
    have e1 : R S B 0 j = 2 * j := R_left (by omega)
    have e2 : R S B 0 (j + 1) = 2 * (j + 1 : Nat) := R_left (by omega)
    rw [e1, e2]
    omega
  · rw [e]
    omega
noncomputable def LevOk (a b : List Nat) (mc n : Int) : Prop :=
  (a.length ≤ 40 → b.length ≤ 40 → (ed a b ≤ mc → n = ed a b) ∧ (mc < ed a b → n = mc + 1 ∨ n = ed a b)) ∧
  (a.length = 1 → 40 < b.length → (∀ u ∈ a, ∀ v ∈ b, u ≠ v) → n = mc + 1) ∧ (mc + 1 = 2 * ((b.length : Int) - a.length) → n = mc + 1)
noncomputable def Apart (a b : List Nat) : Prop := ∀ u ∈ a, ∀ v ∈ b, u ≠ v
noncomputable def Strip (a b a2 b2 : List Nat) : Prop := ed a b = ed a2 b2 ∧ a2.length ≤ a.length ∧ b2.length ≤ b.length ∧ (a.length = 1 → Apart a b → a2 = a ∧ b2 = b) ∧ (b.length : Int) - a.length = b2.length - a2.length
theorem ed_refl (a : List Nat) : ed a a = 0 := by
  have := ed_prefix a [] []
  rw [List.append_nil, ed_nil] at this
  simpa using this
theorem lev_same {a b : List Nat} {mc : Int} (e : a = b) (hm : 0 ≤ mc) : LevOk a b mc 0 := by
  subst e
  refine ⟨fun _ _ => ⟨fun _ => (ed_refl a).symm, fun h => ?_⟩, fun h1 h2 _ => by omega, fun h => by omega⟩
  rw [ed_refl] at h; omega
theorem lev_big {a b a2 b2 : List Nat} {mc : Int} (h : Strip a b a2 b2) (hb : 40 < a2.length ∨ 40 < b2.length) : LevOk a b mc (mc + 1) := by
  obtain ⟨_, h1, h2, _⟩ := h
  exact ⟨fun _ _ => by omega, fun _ _ _ => rfl, fun _ => rfl⟩
theorem lev_over {a b a2 b2 : List Nat} {mc : Int} (h : Strip a b a2 b2) (hb : mc < ed a2 b2) : LevOk a b mc (mc + 1) := by
  obtain ⟨h0, h1, h2, _⟩ := h
  rw [← h0] at hb
  exact ⟨fun _ _ => ⟨fun h => by omega, fun _ => .inl rfl⟩, fun _ _ _ => rfl, fun _ => rfl⟩
theorem lev_fin {a b a2 b2 : List Nat} {mc n : Int} (h : Strip a b a2 b2) (_ha : a2.length ≤ 40) (hb : b2.length ≤ 40) (hn : n = ed a2 b2) (hdf : 2 * ((b2.length : Int) - a2.length) ≤ mc) : LevOk a b mc n := by
  obtain ⟨h0, h1, h2, h3, h4⟩ := h
  rw [← h0] at hn
  refine ⟨fun _ _ => ⟨fun _ => hn, fun _ => .inr hn⟩, fun l1 l2 hap => ?_, fun h => by omega⟩
  obtain ⟨_, e⟩ := h3 l1 hap
  rw [e] at hb; omega
theorem lev_empty {a b a2 b2 : List Nat} {mc n : Int} (h : Strip a b a2 b2) (he : a2.length = 0 ∨ b2.length = 0) (hn : n = 2 * ((a2.length : Int) + b2.length)) (hm0 : 0 ≤ mc) : LevOk a b mc n := by
  obtain ⟨h0, h1, h2, h3, h4⟩ := h
  have hd : n = ed a b := by
    rw [h0]
    rcases he with e | e
    · have := List.eq_nil_of_length_eq_zero e
      subst this
      rw [ed_nil, hn]; simp
    · have := List.eq_nil_of_length_eq_zero e
      subst this
      rw [ed_nil', hn]; simp
  refine ⟨fun _ _ => ⟨fun _ => hd, fun _ => .inr hd⟩, fun l1 l2 hap => ?_, fun h => by omega⟩
  obtain ⟨e1, e2⟩ := h3 l1 hap
  rw [e1, e2] at he; omega
/-- what the two whiles leave -/
theorem strip_of {a b a1 b1 a2 b2 : List Nat} {k p q : Nat} (ha : a1 = a.drop k) (hb : b1 = b.drop k) (ht : a.take k = b.take k) (hk : k ≤ a.length) (hk' : k ≤ b.length)
    (ha2 : a2 = a1.take p) (hb2 : b2 = b1.take q) (hd : a1.drop p = b1.drop q) : Strip a b a2 b2 := by
  have e1 : ed a b = ed a1 b1 := by
    have h := ed_prefix (a.take k) a1 b1
    rw [ha, hb, List.take_append_drop] at h
    rw [ht, List.take_append_drop] at h
    rw [h, ha, hb]
  have e2 : ed a1 b1 = ed a2 b2 := by
    have h := ed_suffix (a1.drop p) a2 b2
    rw [ha2, List.take_append_drop] at h
    rw [hd, hb2, List.take_append_drop] at h
    rw [h, ha2, hb2]
  refine ⟨e1.trans e2, ?_, ?_, ?_, ?_⟩
  · rw [ha2, ha]; simp only [List.length_take, List.length_drop]; omega
  · rw [hb2, hb]; simp only [List.length_take, List.length_drop]; omega
  · intro h1 hap
    obtain ⟨u, rfl⟩ : ∃ u, a = [u] := by
      match a, h1 with
      | [u], _ => exact ⟨u, rfl⟩
    have hk0 : k = 0 := by
      cases k with
      | zero => rfl
      | succ k =>
        exfalso
        have hk1 : k = 0 := by simp at hk; omega
        subst hk1
        cases b with
        | nil => simp at hk'
        | cons v b =>
          have : u = v := by simpa using ht
          exact hap u (.head _) v (.head _) this
    subst hk0
    rw [List.drop_zero] at ha hb
    subst ha hb
    have hnd : [u].drop p = [] := by
      cases p with
      | succ p => simp
      | zero =>
        exfalso
        rw [List.drop_zero] at hd
        have hu : u ∈ b1.drop q := by rw [← hd]; exact .head _
        exact hap u (.head _) u (List.mem_of_mem_drop hu) rfl
    have hnb : b1.drop q = [] := by rw [← hd, hnd]
    have p1 : [u].take p = [u] := by
      have h := List.take_append_drop p [u]; rw [hnd, List.append_nil] at h; exact h
    have p2 : b1.take q = b1 := by
      have h := List.take_append_drop q b1; rw [hnb, List.append_nil] at h; exact h
    rw [ha2, hb2]
    exact ⟨p1, p2⟩
  · have q1 := congrArg List.length hd
    have q2 : (a1.take p).length + (a1.drop p).length = a1.length := by rw [← List.length_append, List.take_append_drop]
    have q3 : (b1.take q).length + (b1.drop q).length = b1.length := by rw [← List.length_append, List.take_append_drop]
    have q4 : a1.length = a.length - k := by rw [ha, List.length_drop]
    have q5 : b1.length = b.length - k := by rw [hb, List.length_drop]
    rw [ha2, hb2]
    omega
end Mine
end
section
local macro_rules | `(tactic| omega) => `(tactic| lia)
open PySem PySem.W PyProof.Rows
set_option Elab.async false
set_option maxRecDepth 100000
set_option maxHeartbeats 100000000
namespace Mine
theorem sub_claim (w : World) (x y : Str) (hx : x.length = 1) (hy : y.length = 1) (tx ty : Tok) : Claim w 1 113 [.str x tx, .str y ty] (fun r => ∃ t, r = .int (subS x y) t) := by
  unfold Claim
  k_fill
  intro p loose mean mg mb dp un gd cn cs a ccd cl outer A₀ base h₀ L m news s Q E B F X N T hk hdp hun hret
  refine wpAny_call ?_
  k_dflt cell_enter
  k_steps
  all_goals (refine' ret_i (s := s) (Q := Q) hret ?_ ?_ ?_; rotate_left; k_asm; k_asm; (simp only [subS, *]; try simp))
end Mine
end
section
local macro_rules | `(tactic| omega) => `(tactic| lia)
open PySem PySem.W PyProof PyProof.Rows
set_option Elab.async false
set_option maxRecDepth 100000
set_option maxHeartbeats 100000000
namespace Mine
noncomputable def dg (d : Nat) : Nat := (cp (Str.ofString "0123456789abcdef")).getD d 0
noncomputable def low (c : Nat) : Nat → List Nat
  | 0 => []
  | k + 1 => dg (c / 16 ^ k % 16) :: low c k
theorem low_len (c : Nat) : ∀ k, (low c k).length = k
  | 0 => rfl
  | k + 1 => by rw [low, List.length_cons, low_len c k]
theorem fig_step {c co : Int} {pre : List Int} {k : Int} {F : Str} (h1 : co = ((c.toNat / 16 ^ pre.length : Nat) : Int)) (h2 : cp F = low c.toNat pre.length) (h3 : F.length = pre.length) :
    co.fdiv 16 = ((c.toNat / 16 ^ (pre ++ [k]).length : Nat) : Int) ∧ cp (Txt.item (Str.ofString "0123456789abcdef") (co.fmod 16) ++ F) = low c.toNat (pre ++ [k]).length ∧ (Txt.item (Str.ofString "0123456789abcdef") (co.fmod 16) ++ F).length = (pre ++ [k]).length := by
  have el : (pre ++ [k]).length = pre.length + 1 := by simp
  have e16 : (Str.ofString "0123456789abcdef").length = 16 := by decide +kernel
  have em : co.fmod 16 = ((c.toNat / 16 ^ pre.length % 16 : Nat) : Int) := by
    rw [h1, Int.fmod_eq_emod_of_nonneg _ (by omega)]; omega
  have hl : c.toNat / 16 ^ pre.length % 16 < 16 := Nat.mod_lt _ (by omega)
  rw [el, em]
  refine ⟨?_, ?_, ?_⟩
  · rw [h1, Int.fdiv_eq_ediv_of_nonneg _ (by omega), Nat.pow_succ, ← Nat.div_div_eq_div_mul]; omega
  · show (Txt.item _ _ ++ F).cps.toList = _
    rw [Str.cps_append, Array.toList_append, it_pos (by omega) (by rw [e16]; omega)]
    show _ ++ cp F = _
    rw [h2, low, dg, Int.toNat_natCast]
    rfl
  · rw [Str.length_append, h3, it_len]; omega
noncomputable def wr (q : Nat) (nw : Bool) (n : Nat) : List Nat :=
  if n = q ∨ n = 92 then [92, n] else if n = 10 then [92, 110] else if n = 9 then [92, 116] else if n = 13 then [92, 114]
  else if (32 ≤ n ∧ n < 127) ∨ ((n = 233 ∨ n = 8364) ∧ nw = false) then [n]
  else if n < 256 then 92 :: 120 :: low n 2 else 92 :: 117 :: low n 4
theorem wr_len (q : Nat) (nw : Bool) (n : Nat) : (wr q nw n).length ≤ 6 := by
  unfold wr
  (repeat' split) <;> simp [low_len]
noncomputable def quo (l : List Nat) : Nat := if 39 ∈ l ∧ 34 ∉ l then 34 else 39
theorem occ_iff (x : Str) (c : Nat) : (Builtin.Str.occurrences x ⟨#[c]⟩ 0 x.length 1).isEmpty = !decide (c ∈ cp x) := by
  have h := StrLaws.found_one x c
  rw [← h, Bool.not_not]
theorem q39 : Str.ofString "'" = ⟨#[39]⟩ := by decide +kernel
theorem q34 : Str.ofString "\"" = ⟨#[34]⟩ := by decide +kernel
theorem quo1 {x : Str} (h : (Builtin.Str.occurrences x (Str.ofString "'") 0 x.length 1).isEmpty = true) : Str.ofString "'" = ⟨#[quo (cp x)]⟩ := by
  rw [q39, occ_iff] at h
  have h' : 39 ∉ cp x := by simpa using h
  rw [q39, quo, if_neg (fun e => h' e.1)]
theorem quo2 {x : Str} (h : (Builtin.Str.occurrences x (Str.ofString "'") 0 x.length 1).isEmpty = false) (h2 : (Builtin.Str.occurrences x (Str.ofString "\"") 0 x.length 1).isEmpty = true) : Str.ofString "\"" = ⟨#[quo (cp x)]⟩ := by
  rw [q39, occ_iff] at h
  rw [q34, occ_iff] at h2
  have h' : 39 ∈ cp x := by simpa using h
  have h2' : 34 ∉ cp x := by simpa using h2
  rw [q34, quo, if_pos ⟨h', h2'⟩]
theorem quo3 {x : Str} (h2 : (Builtin.Str.occurrences x (Str.ofString "\"") 0 x.length 1).isEmpty = false) : Str.ofString "'" = ⟨#[quo (cp x)]⟩ := by
  rw [q34, occ_iff] at h2
  have h2' : 34 ∈ cp x := by simpa using h2
  rw [q39, quo, if_neg (fun e => e.2 h2')]
theorem one_eqW {x y : Nat} : ((⟨#[x]⟩ : Str) == ⟨#[y]⟩) = decide (x = y) := by
  by_cases h : x = y
  · simp [h]
  · have : ¬ ((⟨#[x]⟩ : Str) = ⟨#[y]⟩) := fun e => h (by have := congrArg (fun s : Str => s.cps.toList) e; simpa using this)
    simp [h, this]
theorem l92 : Str.ofString "\\" = ⟨#[92]⟩ := by decide +kernel
theorem l10 : Str.ofString "\n" = ⟨#[10]⟩ := by decide +kernel
theorem l9 : Str.ofString "\t" = ⟨#[9]⟩ := by decide +kernel
theorem l13 : Str.ofString "\r" = ⟨#[13]⟩ := by decide +kernel
theorem cp_app (x y : Str) : cp (x ++ y) = cp x ++ cp y := by
  show (x ++ y).cps.toList = _
  rw [Str.cps_append, Array.toList_append]
theorem ne_of_beq {n m : Nat} {s : Str} (h : ((⟨#[n]⟩ : Str) == s) = false) (e : s = ⟨#[m]⟩) : n ≠ m := by
  rw [e, one_eqW] at h; simpa using h
theorem eq_of_beq' {n m : Nat} {s : Str} (h : ((⟨#[n]⟩ : Str) == s) = true) (e : s = ⟨#[m]⟩) : n = m := by
  rw [e, one_eqW] at h; simpa using h
theorem occ_ee {n : Nat} {b : Bool} (h : (Builtin.Str.occurrences (Str.ofString "é€") ⟨#[n]⟩ 0 (Str.ofString "é€").length 1).isEmpty = b) : (n = 233 ∨ n = 8364) ↔ b = false := by
  rw [occ_iff, show cp (Str.ofString "é€") = [233, 8364] from by decide +kernel] at h
  rw [← h]; simp; omega
theorem wT1 {n q : Nat} {nw : Bool} (h : ((⟨#[n]⟩ : Str) == ⟨#[q]⟩) = true) : cp (Str.ofString "\\" ++ ⟨#[n]⟩) = wr q nw n := by
  have e := eq_of_beq' h rfl
  rw [l92, cp_app, wr, if_pos (.inl e)]; rfl
theorem wT2 {n q : Nat} {nw : Bool} (h : ((⟨#[n]⟩ : Str) == Str.ofString "\\") = true) : cp (Str.ofString "\\" ++ ⟨#[n]⟩) = wr q nw n := by
  have e := eq_of_beq' h l92
  rw [l92, cp_app, wr, if_pos (.inr e)]; rfl
theorem wT3 {n q : Nat} {nw : Bool} (h1 : ((⟨#[n]⟩ : Str) == ⟨#[q]⟩) = false) (h2 : ((⟨#[n]⟩ : Str) == Str.ofString "\\") = false) (h : ((⟨#[n]⟩ : Str) == Str.ofString "\n") = true) : cp (Str.ofString "\\n") = wr q nw n := by
  have e1 := ne_of_beq h1 rfl
  have e2 := ne_of_beq h2 l92
  have e := eq_of_beq' h l10
  rw [wr, if_neg (by omega), if_pos e]; decide +kernel
theorem wT4 {n q : Nat} {nw : Bool} (h1 : ((⟨#[n]⟩ : Str) == ⟨#[q]⟩) = false) (h2 : ((⟨#[n]⟩ : Str) == Str.ofString "\\") = false) (h : ((⟨#[n]⟩ : Str) == Str.ofString "\t") = true) : cp (Str.ofString "\\t") = wr q nw n := by
  have e1 := ne_of_beq h1 rfl
  have e2 := ne_of_beq h2 l92
  have e := eq_of_beq' h l9
  rw [wr, if_neg (by omega), if_neg (by omega), if_pos e]; decide +kernel
theorem wT5 {n q : Nat} {nw : Bool} (h1 : ((⟨#[n]⟩ : Str) == ⟨#[q]⟩) = false) (h2 : ((⟨#[n]⟩ : Str) == Str.ofString "\\") = false) (h : ((⟨#[n]⟩ : Str) == Str.ofString "\r") = true) : cp (Str.ofString "\\r") = wr q nw n := by
  have e1 := ne_of_beq h1 rfl
  have e2 := ne_of_beq h2 l92
  have e := eq_of_beq' h l13
  rw [wr, if_neg (by omega), if_neg (by omega), if_neg (by omega), if_pos e]; decide +kernel
theorem wT6 {n q : Nat} {nw : Bool} (h1 : ((⟨#[n]⟩ : Str) == ⟨#[q]⟩) = false) (h2 : ((⟨#[n]⟩ : Str) == Str.ofString "\\") = false) (h3 : ((⟨#[n]⟩ : Str) == Str.ofString "\n") = false) (h4 : ((⟨#[n]⟩ : Str) == Str.ofString "\t") = false) (h5 : ((⟨#[n]⟩ : Str) == Str.ofString "\r") = false)
    (h : (32 ≤ n ∧ n < 127) ∨ ((n = 233 ∨ n = 8364) ∧ nw = false)) : cp ⟨#[n]⟩ = wr q nw n := by
  have e1 := ne_of_beq h1 rfl
  have e2 := ne_of_beq h2 l92
  have e3 := ne_of_beq h3 l10
  have e4 := ne_of_beq h4 l9
  have e5 := ne_of_beq h5 l13
  rw [wr, if_neg (by omega), if_neg (by omega), if_neg (by omega), if_neg (by omega), if_pos h]
theorem wT8 {n q : Nat} {nw : Bool} {S : Str} (h1 : ((⟨#[n]⟩ : Str) == ⟨#[q]⟩) = false) (h2 : ((⟨#[n]⟩ : Str) == Str.ofString "\\") = false) (h3 : ((⟨#[n]⟩ : Str) == Str.ofString "\n") = false) (h4 : ((⟨#[n]⟩ : Str) == Str.ofString "\t") = false) (h5 : ((⟨#[n]⟩ : Str) == Str.ofString "\r") = false)
    (h : ¬ (32 ≤ n ∧ n < 127)) (h' : ¬ (n = 233 ∨ n = 8364) ∨ nw = true) (hn : n < 256) (hS : cp S = low ((n : Int)).toNat (Int.toNat 2)) : cp (Str.ofString "\\x" ++ S) = wr q nw n := by
  have e1 := ne_of_beq h1 rfl
  have e2 := ne_of_beq h2 l92
  have e3 := ne_of_beq h3 l10
  have e4 := ne_of_beq h4 l9
  have e5 := ne_of_beq h5 l13
  rw [wr, if_neg (by omega), if_neg (by omega), if_neg (by omega), if_neg (by omega), if_neg (by
    rintro (a | ⟨a, b⟩)
    · exact h a
    · rcases h' with c | c
      · exact c a
      · rw [b] at c; cases c), if_pos hn, cp_app, hS, Int.toNat_natCast]
  rw [show cp (Str.ofString "\\x") = [92, 120] from by decide +kernel]; rfl
theorem wT9 {n q : Nat} {nw : Bool} {S : Str} (h1 : ((⟨#[n]⟩ : Str) == ⟨#[q]⟩) = false) (h2 : ((⟨#[n]⟩ : Str) == Str.ofString "\\") = false) (h3 : ((⟨#[n]⟩ : Str) == Str.ofString "\n") = false) (h4 : ((⟨#[n]⟩ : Str) == Str.ofString "\t") = false) (h5 : ((⟨#[n]⟩ : Str) == Str.ofString "\r") = false)
    (h : ¬ (32 ≤ n ∧ n < 127)) (h' : ¬ (n = 233 ∨ n = 8364) ∨ nw = true) (hn : ¬ n < 256) (hS : cp S = low ((n : Int)).toNat (Int.toNat 4)) : cp (Str.ofString "\\u" ++ S) = wr q nw n := by
  have e1 := ne_of_beq h1 rfl
  have e2 := ne_of_beq h2 l92
  have e3 := ne_of_beq h3 l10
  have e4 := ne_of_beq h4 l9
  have e5 := ne_of_beq h5 l13
  rw [wr, if_neg (by omega), if_neg (by omega), if_neg (by omega), if_neg (by omega), if_neg (by
    rintro (a | ⟨a, b⟩)
    · exact h a
    · rcases h' with c | c
      · exact c a
      · rw [b] at c; cases c), if_neg hn, cp_app, hS, Int.toNat_natCast]
  rw [show cp (Str.ofString "\\u") = [92, 117] from by decide +kernel]; rfl
theorem wno {n : Nat} {nw : Bool} (h : (Builtin.Str.occurrences (Str.ofString "é€") ⟨#[n]⟩ 0 (Str.ofString "é€").length 1).isEmpty = true) : ¬ (n = 233 ∨ n = 8364) ∨ nw = true := .inl (by rw [occ_ee h]; simp)
end Mine
end
section
local macro_rules | `(tactic| omega) => `(tactic| lia)
open PySem PySem.W PyProof PyProof.Rows PySem.Builtin PySem.Builtin.Str
set_option Elab.async false
set_option maxRecDepth 100000
namespace Mine
noncomputable def menu : List Nat := [97, 66, 39, 34, 92, 10, 9, 13, 0, 127, 233, 160, 8364, 8232, 32, 55]
theorem repr_cp (x : Str) : cp (reprText x) = quo (cp x) :: (cp x).flatMap (reprChar (quo (cp x))) ++ [quo (cp x)] := by
  have hq : reprQuote x = quo (cp x) := by
    unfold reprQuote quo cp
    simp
  have key : ∀ (q : Nat) (l : List Nat) (acc : Array Nat), (l.foldl (fun out c => out ++ (reprChar q c).toArray) acc).toList = acc.toList ++ l.flatMap (reprChar q) := by
    intro q l
    induction l with
    | nil => intro acc; simp
    | cons c l ih => intro acc; rw [List.foldl_cons, ih]; simp
  unfold reprText cp
  rw [hq, ← Array.foldl_toList, Array.toList_push, key]
  simp [cp]
theorem repr_wr : ∀ c ∈ menu, ∀ q ∈ [34, 39], reprChar q c = wr q false c := by decide +kernel
theorem quo_mem (l : List Nat) : quo l ∈ [34, 39] := by unfold quo; split <;> simp
theorem repr_menu {x : Str} (h : ∀ c ∈ cp x, c ∈ menu) : cp (reprText x) = quo (cp x) :: (cp x).flatMap (wr (quo (cp x)) false) ++ [quo (cp x)] := by
  rw [repr_cp]
  have : (cp x).flatMap (reprChar (quo (cp x))) = (cp x).flatMap (wr (quo (cp x)) false) := by
    rw [List.flatMap_def, List.flatMap_def]
    congr 1
    exact List.map_congr_left (fun c hc => repr_wr c (h c hc) _ (quo_mem _))
  rw [this]
noncomputable def asc (c : Nat) : List Nat := if c = 233 then [92, 120, 101, 57] else if c = 8364 then [92, 117, 50, 48, 97, 99] else [c]
theorem asc_wr : ∀ c ∈ menu, ∀ q ∈ [34, 39], (wr q false c).flatMap asc = wr q true c := by decide +kernel
theorem wr_signs : ∀ c ∈ menu, ∀ q ∈ [34, 39], ∀ d ∈ wr q false c, d < 128 ∨ d = 233 ∨ d = 8364 := by decide +kernel
theorem asc_quo (l : List Nat) : asc (quo l) = [quo l] := by
  have h := quo_mem l
  simp only [List.mem_cons, List.not_mem_nil, or_false] at h
  rcases h with e | e <;> rw [e] <;> rfl
theorem asc_repr {x : Str} (h : ∀ c ∈ cp x, c ∈ menu) : (cp (reprText x)).flatMap asc = quo (cp x) :: (cp x).flatMap (wr (quo (cp x)) true) ++ [quo (cp x)] := by
  rw [repr_menu h, List.flatMap_append, List.flatMap_cons, asc_quo, List.flatMap_cons, asc_quo, List.flatMap_assoc]
  have : (cp x).flatMap (fun c => (wr (quo (cp x)) false c).flatMap asc) = (cp x).flatMap (wr (quo (cp x)) true) := by
    rw [List.flatMap_def, List.flatMap_def]
    congr 1
    exact List.map_congr_left (fun c hc => asc_wr c (h c hc) _ (quo_mem _))
  rw [this]
  simp
theorem repr_signs {x : Str} (h : ∀ c ∈ cp x, c ∈ menu) : ∀ d ∈ cp (reprText x), d < 128 ∨ d = 233 ∨ d = 8364 := by
  have hq := quo_mem (cp x)
  simp only [List.mem_cons, List.not_mem_nil, or_false] at hq
  rw [repr_menu h]
  intro d hd
  simp only [List.mem_append, List.mem_cons, List.mem_flatMap, List.not_mem_nil, or_false] at hd
  rcases hd with (e | ⟨c, hc, hd⟩) | e
  · omega
  · exact wr_signs c (h c hc) _ (quo_mem _) d hd
  · omega
namespace FF
theorem entry_ascii : entryFor table "ascii" = some Builtin.«ascii» := entryFor_of_fast (by kernel_rfl)
theorem kind_ascii : builtinKind "ascii" = none := by decide +kernel
theorem plain_ascii : plainId "ascii" = true := by decide +kernel
theorem args_ascii1 (a : Value) : argsOk "ascii" ⟨[a], []⟩ := by unfold argsOk; kernel_rfl
end FF
theorem flat_eq {l : Array Nat} {f g : Nat → List Nat} (h : ∀ c ∈ l.toList, f c = g c) : (l.flatMap fun c => (f c).toArray) = (l.toList.flatMap g).toArray := by
  have key : ∀ (l : List Nat) (acc : Array Nat), (∀ c ∈ l, f c = g c) → l.foldl (fun bs a => bs ++ (f a).toArray) acc = acc ++ (l.flatMap g).toArray := by
    intro l
    induction l with
    | nil => intro acc _; simp
    | cons c l ih =>
      intro acc hl
      rw [List.foldl_cons, ih _ (fun d hd => hl d (.tail _ hd)), hl c (.head _)]
      simp
  rw [Array.flatMap_def]
  apply Array.toList_inj.mp
  rw [Array.toList_flatten]
  simp only [Array.toList_map, List.map_map, List.flatMap_def]
  congr 1
  exact List.map_congr_left (fun c hc => by simp [h c hc])
theorem asc_len (c : Nat) : (asc c).length ≤ 6 := by unfold asc; (repeat' split) <;> simp
theorem asc_id : ∀ {l : List Nat}, (∀ c ∈ l, c < 128) → l.flatMap asc = l
  | [], _ => rfl
  | c :: l, h => by
    have hc := h c (.head _)
    rw [List.flatMap_cons, asc_id (fun d hd => h d (.tail _ hd)), asc, if_neg (by omega), if_neg (by omega)]
    rfl
theorem flat_len : ∀ (l : List Nat), (l.flatMap asc).length ≤ 6 * l.length
  | [] => by simp
  | c :: l => by
    have := flat_len l
    have := asc_len c
    rw [List.flatMap_cons, List.length_append, List.length_cons]; omega
section
variable {prog : Program} {w : World} {A : Around} {E : Value → Shared → Prop} {s : Shared}
theorem ret_text2 {X T : Str} {Q : Fin → Shared → Prop} (e : X = T) (hL : T.length ≤ sizeLine) (h : ∀ t k, Q (.done (.ret (.str T t))) { s with toks := k }) : wpAny (model prog w) A (retStr X) Q E s :=
  KXf.ret_text e (by rw [e]; exact hL) h
theorem call_ascii {x : Str} {t : Tok} {Q : Value → Shared → Prop} (hs : ∀ d ∈ cp (reprText x), d < 128 ∨ d = 233 ∨ d = 8364) (hl : (reprText x).length ≤ 10000)
    (h : ∀ t' k, Q (.str ⟨((cp (reprText x)).flatMap asc).toArray⟩ t') { s with toks := k }) : wpAny (model prog w) A (call (.builtin "ascii") [.str x t]) Q E s := by
  refine Calls.call_function_entry FF.kind_ascii FF.plain_ascii FF.entry_ascii (FF.args_ascii1 _) ?_
  unfold Builtin.«ascii»
  refine wpAny_bind (m := oneArg "ascii" _) (wpAny_pure ?_)
  simp only [cRoomFor, show [Value.str x t].any Value.onHeap = false by rfl, Bool.false_eq_true, if_false, pure_bind]
  refine wpAny_bind (m := callSpecialIfBound? (.str x t) (Str.ofString "__repr__")) (wpAny_callSpecialIfBound?_slot (name := Str.ofString "__repr__") (typeIs_str s x t) F.slot_str_repr (call_gives F.slot_str_repr (typeIs_str s x t) F.entry_str_repr (F.args_str_repr_1 _) (gives_str_repr x t) ⟨by rw [PySem.sizeLine_eq]; omega, ?_⟩))
  show wpAny (model prog w) _ (asStr? (.str (reprText x) _) >>= _) _ E _
  refine wpAny_bind (wpAny_pure ?_)
  dsimp only
  by_cases ha : ((reprText x).cps.all fun x => decide (x < 128)) = true
  · rw [if_pos ha]
    refine wpAny_bind (wpAny_rule ?_)
    refine wpAny_pure ⟨_, rfl, ?_⟩
    have ha' : ∀ c ∈ cp (reprText x), c < 128 := by
      intro c hc
      rw [Array.all_eq_true'] at ha
      have := ha c (by simpa [cp] using hc)
      simpa using this
    have e : (⟨((cp (reprText x)).flatMap asc).toArray⟩ : Str) = reprText x := by
      rw [asc_id ha']
    have h' := h s.toks (s.toks + 1)
    rw [e] at h'
    exact h'
  · rw [if_neg ha]
    refine wpAny_bind (wpAny_letGo ?_)
    rw [if_neg (by
      have h1 : ¬ (10 * (reprText x).length > sizeLine) := by rw [PySem.sizeLine_eq]; omega
      simp only [h1, decide_false, Bool.false_and, Bool.false_eq_true, not_false_eq_true])]
    refine ret_text2 ?_ ?_ (fun t k => ⟨_, rfl, h t k⟩)
    · refine congrArg Str.mk (flat_eq (g := asc) ?_)
      intro c hc
      rcases hs c (by simpa [cp] using hc) with e | e | e
      · show (if c < 128 then [c] else _) = _
        rw [if_pos e, asc, if_neg (by omega), if_neg (by omega)]
      · subst e; decide +kernel
      · subst e; decide +kernel
    · show ((cp (reprText x)).flatMap asc).toArray.size ≤ sizeLine
      rw [List.size_toArray, PySem.sizeLine_eq]
      have := flat_len (cp (reprText x))
      rw [cp_len] at this
      omega
/-- the width's figures, the spec -/
noncomputable def wtxt (W : Nat) : List Nat := if W < 10 then [48 + W] else [48 + W / 10, 48 + W % 10]
noncomputable def okSpec (f a W : Nat) : Bool := match Builtin.Float.parseFormatSpec (f :: a :: wtxt W) "str" 60 with
  | .ok g => g.fill == f && g.align == a && g.sign.isNone && !g.noNeg0 && !g.alt && g.width == some W && g.grouping.isNone && g.precision.isNone && g.type.isNone
  | .error _ => false
theorem okSpec_all : ∀ W, W < 100 → ∀ f ∈ [42, 120, 48, 32], ∀ a ∈ [60, 62, 94], (1 ≤ W → okSpec f a W = true) := by decide +kernel
theorem spec_parse {f a W : Nat} (h : okSpec f a W = true) : Builtin.Float.parseFormatSpec (f :: a :: wtxt W) "str" 60 = .ok { fill := f, align := a, width := some W } := by
  unfold okSpec at h
  split at h
  · next g e =>
    rw [e]
    obtain ⟨g1, g2, g3, g4, g5, g6, g7, g8, g9⟩ := g
    simp only [Bool.and_eq_true, beq_iff_eq, Option.isNone_iff_eq_none, Bool.not_eq_true'] at h
    obtain ⟨⟨⟨⟨⟨⟨⟨⟨h1, h2⟩, h3⟩, h4⟩, h5⟩, h6⟩, h7⟩, h8⟩, h9⟩ := h
    subst h1 h2 h3 h4 h5 h6 h7 h8 h9
    rfl
  · cases h
noncomputable def cellL (l : List Nat) (f a r : Nat) : List Nat :=
  let k := if a = 62 then r else if a = 94 then r / 2 else 0
  List.replicate k f ++ l ++ List.replicate (r - k) f
theorem cellL_zero (l : List Nat) (f a : Nat) : cellL l f a 0 = l := by
  unfold cellL
  have : (if a = 62 then 0 else if a = 94 then 0 / 2 else 0) = 0 := by (repeat' split) <;> rfl
  simp [this]
theorem wtxt_small (W : Nat) (h : W < 100) : ∀ c ∈ wtxt W, c < 128 ∧ c ≠ 0 := by
  unfold wtxt
  split <;> simp <;> omega
namespace FF
theorem entry_format : entryFor table "format" = some Builtin.«format» := entryFor_of_fast (by kernel_rfl)
theorem kind_format : builtinKind "format" = none := by decide +kernel
theorem plain_format : plainId "format" = true := by decide +kernel
theorem args_format2 (a b : Value) : argsOk "format" ⟨[a, b], []⟩ := by unfold argsOk; kernel_rfl
end FF
theorem strField_eq {x : Str} {f a W : Nat} (ha : a ∈ [60, 62, 94]) : strField x { fill := f, align := a, width := some W } "str" = .ok (if W ≤ x.length then none else some ⟨(cellL (cp x) f a (W - x.length)).toArray⟩) := by
  have hn : (a == 61) = false := by
    simp only [List.mem_cons, List.not_mem_nil, or_false] at ha
    rcases ha with e | e | e <;> subst e <;> rfl
  have hsub : strSub x 0 x.length = x := by
    apply cp_inj
    show (strSub x 0 x.length).cps.toList = cp x
    rw [StrLaws.strSub_toList, List.drop_zero, Nat.sub_zero]
    exact List.take_of_length_le (by rw [cp_len]; exact Nat.le_refl _)
  unfold strField
  simp only [hn, Option.all_some, Option.all_none, Bool.and_true, Option.isSome_none, Option.getD_some, Option.getD_none, hsub]
  by_cases h : W ≤ x.length
  · simp [h]; rfl
  · simp [h]
    refine congrArg (fun z => Except.ok (some z)) ?_
    apply cp_inj
    rw [cp_mk]
    show (Array.replicate _ f ++ x.cps ++ Array.replicate _ f).toList = _
    simp only [Array.toList_append, Array.toList_replicate]
    rfl
theorem gives_format {x sp : Str} {t u : Tok} {f a W : Nat} (hs : cp sp = f :: a :: wtxt W) (ha : a ∈ [60, 62, 94]) (hf : f < 128) (hW : W < 100) (hok : okSpec f a W = true) (hl : x.length ≤ 1000) :
    Meets («str.__format__» ⟨[.str x t, .str sp u], []⟩) (fun _ R s => ∀ t' k, R (.ok (.ret (.str ⟨(cellL (cp x) f a (W - x.length)).toArray⟩ t'))) { s with toks := k }) := by
  apply KPc.meets_of
  intro prog w A s Q E hR
  unfold Builtin.«str.__format__»
  refine wpAny_bind (wpAny_of_eq (a := (_, _, _)) rfl ?_)
  refine wpAny_bind (wpAny_of_eq (a := some _) rfl ?_)
  have hs' : sp.cps.toList = f :: a :: wtxt W := hs
  have hlen : (sp.length == 0) = false := by
    have : sp.length = (cp sp).length := (cp_len sp).symm
    rw [this, hs]; rfl
  have hsm := wtxt_small W hW
  have ha' : a < 128 := by
    simp only [List.mem_cons, List.not_mem_nil, or_false] at ha
    omega
  have hany : ((List.drop 1 sp.cps.toList).any fun x => decide (x ≥ 128)) = false := by
    rw [hs', List.drop_succ_cons, List.drop_zero, List.any_eq_false]
    intro c hc
    rcases List.mem_cons.mp hc with e | e
    · simp; omega
    · have := hsm c e; simp; omega
  have hget : decide (sp.cps.getD 0 0 ≥ 128) = false := by
    have : sp.cps.getD 0 0 = f := by
      rw [Array.getD_eq_getD_getElem?, ← Array.getElem?_toList, hs']; rfl
    rw [this]; simp; omega
  have hback : (sp.cps.back? == some 0) = false := by
    have : sp.cps.back? = (cp sp).getLast? := by simp [cp]
    rw [this, hs]
    unfold wtxt
    split <;> simp <;> omega
  have hnotlong : tooLong W = false := by
    unfold tooLong
    rw [PySem.sizeLine_eq]; simp; omega
  dsimp only
  rw [hlen, hany, hget]
  simp only [Bool.false_eq_true, if_false, Bool.false_and, Bool.or_false]
  refine wpAny_bind (KXf.cut_str ?_)
  rw [hs', spec_parse hok, hback]
  simp only [bind, Except.bind, pure, Except.pure, Option.isNone_none, Bool.and_false, Bool.false_eq_true, if_false, Option.getD_some, hnotlong, strField_eq ha]
  by_cases h : W ≤ x.length
  · rw [if_pos h]
    dsimp only
    show wpAny _ _ (rule "str.__format__.unchanged" >>= fun _ => ret (Value.str x t)) _ _ _
    refine wpAny_bind (wpAny_rule ?_)
    refine KXf.ret_same ?_ hR
    apply cp_inj
    rw [cp_mk, Nat.sub_eq_zero_of_le h, cellL_zero]
  · rw [if_neg h]
    dsimp only
    refine KXf.ret_text rfl ?_ hR
    show (cellL (cp x) f a (W - x.length)).toArray.size ≤ sizeLine
    rw [List.size_toArray, PySem.sizeLine_eq, cellL]
    simp only [List.length_append, List.length_replicate, cp_len]
    split <;> (try split) <;> omega
theorem call_format {x sp : Str} {t u : Tok} {f a W : Nat} {Q : Value → Shared → Prop} (hs : cp sp = f :: a :: wtxt W) (ha : a ∈ [60, 62, 94]) (hf : f < 128) (hW : W < 100) (hok : okSpec f a W = true) (hl : x.length ≤ 1000)
    (h : ∀ t' k, Q (.str ⟨(cellL (cp x) f a (W - x.length)).toArray⟩ t') { s with toks := k }) : wpAny (model prog w) A (call (.builtin "format") [.str x t, .str sp u]) Q E s := by
  have hlen : (sp.length == 0) = false := by
    have : sp.length = (cp sp).length := (cp_len sp).symm
    rw [this, hs]; rfl
  refine Calls.call_function_entry FF.kind_format FF.plain_format FF.entry_format (FF.args_format2 _ _) ?_
  unfold Builtin.«format»
  refine wpAny_bind (m := someArgs "format" 1 2 _) (wpAny_pure ?_)
  show wpAny _ _ (typeNameOf (.str sp u) >>= fun specType => (if (sp.length == 0) = true then _ else _)) _ _ s
  rw [hlen]
  refine wpAny_bind (wpAny_of_eq (a := "str") rfl ?_)
  show wpAny _ _ (callSpecial? (.str x t) (Str.ofString "__format__") [.str sp u] >>= _) _ _ s
  refine wpAny_bind (wpAny_callSpecial?_slot (name := Str.ofString "__format__") (typeIs_str _ x t) PySem.F.slot_str_format
    (call_meets PySem.F.slot_str_format (typeIs_str _ x t) PySem.F.entry_str_format (PySem.F.args_str_format_2 _ _) (gives_format hs ha hf hW hok hl) fun t' k => ?_))
  exact wpAny_bind (wpAny_isInstance (T := "str") (b := true) rfl isSubtype_str_str (wpAny_pure ⟨_, rfl, h t' k⟩))
end
end Mine
end
section
local macro_rules | `(tactic| omega) => `(tactic| lia)
open PySem PySem.W PyProof PyProof.Rows
set_option Elab.async false
set_option maxRecDepth 100000
set_option maxHeartbeats 100000000
namespace Mine
theorem mul_cp (f : Nat) {n : Int} (h0 : 0 ≤ n) : cp (Txt.mul ⟨#[f]⟩ n) = List.replicate n.toNat f := by
  have key : ∀ (k : Nat) (acc : Array Nat), ((List.replicate k (#[f] : Array Nat)).foldl (· ++ ·) acc).toList = acc.toList ++ List.replicate k f := by
    intro k
    induction k with
    | zero => intro acc; simp
    | succ k ih => intro acc; rw [List.replicate_succ, List.foldl_cons, ih, List.replicate_succ]; simp
  unfold Txt.mul
  by_cases h1 : n < 1
  · have : n = 0 := by omega
    subst this; rfl
  · rw [if_neg h1]
    by_cases h2 : n = 1
    · subst h2; rfl
    · have e : (n == 1 || (⟨#[f]⟩ : Str).length == 0) = false := by
        have : (n == 1) = false := by simpa using h2
        rw [this]; rfl
      rw [e]
      simp only [Bool.false_eq_true, if_false]
      show (List.foldl (· ++ ·) #[] (List.replicate n.toNat #[f])).toList = _
      rw [key]; rfl
theorem mul_one {prog : Program} {w : World} {A : Around} {E : Value → Shared → Prop} {s : Shared} {f : Nat} {t u : Tok} {n : Int} {Q : Value → Shared → Prop} (h0 : 0 ≤ n) (h1 : n ≤ 1000)
    (h : ∀ S t' k, cp S = List.replicate n.toNat f → S.length = n.toNat → Q (.str S t') { s with toks := k }) : wpAny (model prog w) A (binaryOp .Mult (.str ⟨#[f]⟩ t) (.int n u)) Q E s :=
  SB.mul (mulOk_of 1 1000 (Nat.le_refl 1) (by omega) (by omega) (by decide) (by decide)) (fun t' k => h _ t' k (mul_cp f h0) (by rw [← cp_len, mul_cp f h0, List.length_replicate]))
theorem fdiv2 {n : Int} (h0 : 0 ≤ n) : n.fdiv 2 = ((n.toNat / 2 : Nat) : Int) := by
  rw [Int.fdiv_eq_ediv_of_nonneg _ (by omega)]; omega
theorem cell_a {x S : Str} {f a : Nat} {n : Int} (e : ((⟨#[a]⟩ : Str) == Str.ofString "<") = true) (hS : cp S = List.replicate n.toNat f) : cp (x ++ S) = cellL (cp x) f a n.toNat := by
  have ea := eq_of_beq' e (by decide +kernel : Str.ofString "<" = ⟨#[60]⟩)
  subst ea
  rw [cp_app, hS]; simp [cellL]
theorem cell_b {x S : Str} {f a : Nat} {n : Int} (e : ((⟨#[a]⟩ : Str) == Str.ofString ">") = true) (hS : cp S = List.replicate n.toNat f) : cp (S ++ x) = cellL (cp x) f a n.toNat := by
  have ea := eq_of_beq' e (by decide +kernel : Str.ofString ">" = ⟨#[62]⟩)
  subst ea
  rw [cp_app, hS]; simp [cellL]
theorem cell_c {x S S' : Str} {f a : Nat} {n : Int} (ha : a ∈ [60, 62, 94]) (h0 : 0 ≤ n) (e : ((⟨#[a]⟩ : Str) == Str.ofString "<") = false) (e' : ((⟨#[a]⟩ : Str) == Str.ofString ">") = false) (hS : cp S = List.replicate (n.fdiv 2).toNat f) (hS' : cp S' = List.replicate (n - n.fdiv 2).toNat f) : cp (S ++ x ++ S') = cellL (cp x) f a n.toNat := by
  have e1 := ne_of_beq e (by decide +kernel : Str.ofString "<" = ⟨#[60]⟩)
  have e2 := ne_of_beq e' (by decide +kernel : Str.ofString ">" = ⟨#[62]⟩)
  simp only [List.mem_cons, List.not_mem_nil, or_false] at ha
  have ea : a = 94 := by omega
  subst ea
  have h1 : (n.fdiv 2).toNat = n.toNat / 2 := by rw [fdiv2 h0]; omega
  have h2 : (n - n.fdiv 2).toNat = n.toNat - n.toNat / 2 := by rw [fdiv2 h0]; omega
  rw [cp_app, cp_app, hS, hS', h1, h2]; simp [cellL]
end Mine
end
section
local macro_rules | `(tactic| omega) => `(tactic| lia)
open PySem PySem.W PyProof PyProof.Rows
set_option Elab.async false
set_option maxRecDepth 100000
namespace Mine
noncomputable def lostp (c : Nat) : Bool := decide (c ∈ [10, 9, 13, 0, 127, 160, 8232])
noncomputable def byp (c : Nat) : Bool := decide (c ∈ [233, 8364])
noncomputable def wtx (T : List Nat) (nw : Bool) : List Nat := quo T :: T.flatMap (wr (quo T) nw) ++ [quo T]
theorem count_flat (S : Nat → Bool) (f : Nat → List Nat) : ∀ {l : List Nat}, (∀ c ∈ l, (f c).countP S = if S c then 1 else 0) → (l.flatMap f).countP S = l.countP S
  | [], _ => rfl
  | c :: l, h => by
    rw [List.flatMap_cons, List.countP_append, List.countP_cons, h c (.head _), count_flat S f fun d hd => h d (.tail _ hd)]
    omega
theorem count_not (S : Nat → Bool) : ∀ l : List Nat, l.countP (fun c => !S c) + l.countP S = l.length
  | [] => rfl
  | c :: l => by
    have := count_not S l
    rw [List.countP_cons, List.countP_cons, List.length_cons]
    cases S c <;> simp <;> omega
theorem count_two : ∀ l : List Nat, l.countP (fun c => !(lostp c || byp c)) + l.countP lostp + l.countP byp = l.length
  | [] => rfl
  | c :: l => by
    have := count_two l
    rw [List.countP_cons, List.countP_cons, List.countP_cons, List.length_cons]
    have : ¬ (lostp c = true ∧ byp c = true) := by
      unfold lostp byp
      simp only [decide_eq_true_eq, List.mem_cons, List.not_mem_nil, or_false]
      omega
    cases h1 : lostp c <;> cases h2 : byp c <;> simp_all <;> omega
/-- every sign that the two writings can hold -/
noncomputable def OUTW : List Nat := ([34, 39].flatMap fun q => [true, false].flatMap fun nw => menu.flatMap (wr q nw)) ++ [34, 39, 42, 120, 48, 32]
noncomputable def OUTA : List Nat := ([34, 39].flatMap fun q => menu.flatMap (wr q true)) ++ [34, 39, 42, 120, 48, 32]
theorem wtx_in {T : List Nat} (h : ∀ c ∈ T, c ∈ menu) (nw : Bool) : ∀ d ∈ wtx T nw, d ∈ OUTW := by
  intro d hd
  have hq := quo_mem T
  simp only [wtx, List.mem_append, List.mem_cons, List.mem_flatMap, List.not_mem_nil, or_false] at hd
  have hq' : quo T ∈ OUTW := List.mem_append_right _ (by revert hq; generalize quo T = q; intro hq; simp only [List.mem_cons, List.not_mem_nil, or_false] at hq ⊢; omega)
  rcases hd with (e | ⟨c, hc, hd⟩) | e
  · rw [e]; exact hq'
  · refine List.mem_append_left _ (List.mem_flatMap.mpr ⟨_, hq, List.mem_flatMap.mpr ⟨nw, by cases nw <;> simp, List.mem_flatMap.mpr ⟨c, h c hc, hd⟩⟩⟩)
  · rw [e]; exact hq'
theorem wtx_inA {T : List Nat} (h : ∀ c ∈ T, c ∈ menu) : ∀ d ∈ wtx T true, d ∈ OUTA := by
  intro d hd
  have hq := quo_mem T
  simp only [wtx, List.mem_append, List.mem_cons, List.mem_flatMap, List.not_mem_nil, or_false] at hd
  have hq' : quo T ∈ OUTA := List.mem_append_right _ (by revert hq; generalize quo T = q; intro hq; simp only [List.mem_cons, List.not_mem_nil, or_false] at hq ⊢; omega)
  rcases hd with (e | ⟨c, hc, hd⟩) | e
  · rw [e]; exact hq'
  · exact List.mem_append_left _ (List.mem_flatMap.mpr ⟨_, hq, List.mem_flatMap.mpr ⟨c, h c hc, hd⟩⟩)
  · rw [e]; exact hq'
theorem outA_W : ∀ d ∈ OUTA, d ∈ OUTW := by decide +kernel
theorem outW_lost : ∀ d ∈ OUTW, lostp d = false := by decide +kernel
theorem outA_by : ∀ d ∈ OUTA, byp d = false := by decide +kernel
theorem sc_lost : ∀ x ∈ [10, 9, 13, 0, 127, 160, 8232], ∀ y ∈ OUTW, sc x y = 2 := by decide +kernel
theorem sc_by : ∀ x ∈ [233, 8364], ∀ y ∈ OUTA, sc x y = 2 := by decide +kernel
theorem wr_keep : ∀ q ∈ [34, 39], ∀ c ∈ menu, wr q false c ≠ [] ∧ (lostp c = false → c ∈ wr q false c) := by decide +kernel
theorem wr_keep2 : ∀ q ∈ [34, 39], ∀ c ∈ menu, wr q true c ≠ [] ∧ ((lostp c || byp c) = false → c ∈ wr q true c) := by decide +kernel
theorem wr_by : ∀ q ∈ [34, 39], ∀ c ∈ menu, (wr q false c).countP byp = if byp c then 1 else 0 := by decide +kernel
theorem asc_keep : ∀ c ∈ OUTW, asc c ≠ [] ∧ (byp c = false → c ∈ asc c) := by decide +kernel
theorem sc_nl {x : Nat} (h : lostp x = true) : ∀ y ∈ OUTW, sc x y = 2 := sc_lost x (by simpa [lostp] using h)
theorem sc_nb {x : Nat} (h : byp x = true) : ∀ y ∈ OUTA, sc x y = 2 := sc_by x (by simpa [byp] using h)
theorem wtx_len (T : List Nat) (nw : Bool) : (wtx T nw).length = 2 + (T.flatMap (wr (quo T) nw)).length := by
  simp [wtx]; omega
theorem wtx_asc {T : List Nat} (h : ∀ c ∈ T, c ∈ menu) : (wtx T false).flatMap asc = wtx T true := by
  have hq := quo_mem T
  have hqa : asc (quo T) = [quo T] := by
    revert hq; generalize quo T = q; intro hq
    simp only [List.mem_cons, List.not_mem_nil, or_false] at hq
    rcases hq with rfl | rfl <;> decide
  have hm : ∀ l : List Nat, (∀ c ∈ l, c ∈ menu) → (l.flatMap (wr (quo T) false)).flatMap asc = l.flatMap (wr (quo T) true) := by
    intro l
    induction l with
    | nil => intro _; rfl
    | cons c l ih =>
      intro hl
      rw [List.flatMap_cons, List.flatMap_append, List.flatMap_cons, ih fun d hd => hl d (.tail _ hd), asc_wr c (hl c (.head _)) _ hq]
  rw [wtx, wtx, List.flatMap_append, List.flatMap_cons, hqa, hm T h]
  simp [hqa]
/-- lower bounds -/
theorem low_lost {T b : List Nat} (hb : ∀ y ∈ b, y ∈ OUTW) : 2 * (b.length : Int) - 2 * ((T.length : Int) - T.countP lostp) ≤ ed T b := by
  have h := ed_count (fun c => !lostp c) (a := T) (b := b) (fun y hy => by rw [outW_lost y (hb y hy)]; rfl) (fun x _ hx y hy => sc_nl (by simpa using hx) y (hb y hy))
  have := count_not lostp T
  omega
theorem low_by {a b : List Nat} (hb : ∀ y ∈ b, y ∈ OUTA) : 2 * (b.length : Int) - 2 * ((a.length : Int) - a.countP byp) ≤ ed a b := by
  have h := ed_count (fun c => !byp c) (a := a) (b := b) (fun y hy => by rw [outA_by y (hb y hy)]; rfl) (fun x _ hx y hy => sc_nb (by simpa using hx) y (hb y hy))
  have := count_not byp a
  omega
theorem low_two {T b : List Nat} (hb : ∀ y ∈ b, y ∈ OUTA) : 2 * (b.length : Int) - 2 * ((T.length : Int) - T.countP lostp - T.countP byp) ≤ ed T b := by
  have h := ed_count (fun c => !(lostp c || byp c)) (a := T) (b := b) (fun y hy => by rw [outA_by y (hb y hy), outW_lost y (outA_W y (hb y hy))]; rfl)
    (fun x _ hx y hy => by
      rcases Bool.or_eq_true_iff.mp (show (lostp x || byp x) = true by revert hx; cases lostp x <;> cases byp x <;> simp) with h | h
      · exact sc_nl h y (outA_W y (hb y hy))
      · exact sc_nb h y (hb y hy))
  have := count_two T
  omega
theorem by_wtx {T : List Nat} (h : ∀ c ∈ T, c ∈ menu) : (wtx T false).countP byp = T.countP byp := by
  have hq := quo_mem T
  have hqa : byp (quo T) = false := by
    revert hq; generalize quo T = q; intro hq
    simp only [List.mem_cons, List.not_mem_nil, or_false] at hq
    rcases hq with rfl | rfl <;> decide
  rw [wtx, List.countP_append, List.countP_cons, count_flat byp _ fun c hc => wr_by _ hq c (h c hc)]
  simp [hqa]
/-- the first writing -/
theorem ed_wide {T : List Nat} (h : ∀ c ∈ T, c ∈ menu) : ed T (wtx T false) = 2 * ((wtx T false).length - ((T.length : Int) - T.countP lostp)) := by
  have hl := low_lost (T := T) (wtx_in h false)
  have hu := ed_flat (wr (quo T) false) (fun c => !lostp c) (a := T) (fun x hx => ⟨(wr_keep _ (quo_mem T) x (h x hx)).1, fun hk => (wr_keep _ (quo_mem T) x (h x hx)).2 (by simpa using hk)⟩)
  have hp := ed_pad T (T.flatMap (wr (quo T) false)) [quo T] [quo T]
  have e : [quo T] ++ T.flatMap (wr (quo T) false) ++ [quo T] = wtx T false := rfl
  rw [e] at hp
  have := count_not lostp T
  have := wtx_len T false
  simp only [List.length_singleton] at hp
  omega
theorem ed_two {T : List Nat} (h : ∀ c ∈ T, c ∈ menu) : ed T (wtx T true) = 2 * ((wtx T true).length - ((T.length : Int) - T.countP lostp - T.countP byp)) := by
  have hl := low_two (T := T) (wtx_inA h)
  have hu := ed_flat (wr (quo T) true) (fun c => !(lostp c || byp c)) (a := T) (fun x hx => ⟨(wr_keep2 _ (quo_mem T) x (h x hx)).1, fun hk => (wr_keep2 _ (quo_mem T) x (h x hx)).2 (by simpa using hk)⟩)
  have hp := ed_pad T (T.flatMap (wr (quo T) true)) [quo T] [quo T]
  have e : [quo T] ++ T.flatMap (wr (quo T) true) ++ [quo T] = wtx T true := rfl
  rw [e] at hp
  have := count_two T
  have := wtx_len T true
  simp only [List.length_singleton] at hp
  omega
theorem ed_narrow {T : List Nat} (h : ∀ c ∈ T, c ∈ menu) : ed (wtx T false) (wtx T true) = 2 * ((wtx T true).length - (((wtx T false).length : Int) - T.countP byp)) := by
  have hl := low_by (a := wtx T false) (wtx_inA h)
  have hu := ed_flat asc (fun c => !byp c) (a := wtx T false) (fun x hx => ⟨(asc_keep x (wtx_in h false x hx)).1, fun hk => (asc_keep x (wtx_in h false x hx)).2 (by simpa using hk)⟩)
  rw [wtx_asc h] at hu
  have := count_not byp (wtx T false)
  rw [by_wtx h] at *
  omega
theorem cell_len (l : List Nat) (f a r : Nat) : (cellL l f a r).length = l.length + r := by
  unfold cellL
  have : (if a = 62 then r else if a = 94 then r / 2 else 0) ≤ r := by (repeat' split) <;> omega
  simp only [List.length_append, List.length_replicate]
  generalize (if a = 62 then r else if a = 94 then r / 2 else 0) = k at *
  omega
theorem cell_in {T : List Nat} (h : ∀ c ∈ T, c ∈ menu) {f a r : Nat} (hf : f ∈ [42, 120, 48, 32]) : ∀ d ∈ cellL (wtx T true) f a r, d ∈ OUTA := by
  have hf' : f ∈ OUTA := List.mem_append_right _ (List.mem_cons_of_mem _ (List.mem_cons_of_mem _ hf))
  intro d hd
  simp only [cellL, List.mem_append, List.mem_replicate] at hd
  rcases hd with (⟨_, e⟩ | hd) | ⟨_, e⟩
  · rw [e]; exact hf'
  · exact wtx_inA h d hd
  · rw [e]; exact hf'
theorem cell_up (x l : List Nat) (f a r : Nat) : ed x (cellL l f a r) ≤ ed x l + 2 * r := by
  have hk : (if a = 62 then r else if a = 94 then r / 2 else 0) ≤ r := by (repeat' split) <;> omega
  unfold cellL
  dsimp only
  generalize (if a = 62 then r else if a = 94 then r / 2 else 0) = k at *
  have := ed_pad x l (List.replicate k f) (List.replicate (r - k) f)
  simp only [List.length_replicate] at this
  omega
theorem ed_cell {T : List Nat} (h : ∀ c ∈ T, c ∈ menu) {f a r : Nat} (hf : f ∈ [42, 120, 48, 32]) :
    ed T (cellL (wtx T true) f a r) = 2 * ((wtx T true).length + (r : Int) - ((T.length : Int) - T.countP lostp - T.countP byp)) ∧
    ed (wtx T false) (cellL (wtx T true) f a r) = 2 * ((wtx T true).length + (r : Int) - (((wtx T false).length : Int) - T.countP byp)) ∧
    ed (wtx T true) (cellL (wtx T true) f a r) = 2 * (r : Int) := by
  have hl := cell_len (wtx T true) f a r
  refine ⟨?_, ?_, ?_⟩
  · have h1 := low_two (T := T) (cell_in (a := a) (r := r) h hf)
    have h2 := cell_up T (wtx T true) f a r
    rw [ed_two h] at h2
    omega
  · have h1 := low_by (a := wtx T false) (cell_in (a := a) (r := r) h hf)
    have h2 := cell_up (wtx T false) (wtx T true) f a r
    rw [ed_narrow h] at h2
    rw [by_wtx h] at h1
    omega
  · have h1 := ed_len (wtx T true) (cellL (wtx T true) f a r)
    have h2 := cell_up (wtx T true) (wtx T true) f a r
    rw [ed_refl] at h2
    omega

/-- one sign for another -/
noncomputable def rep1 (c d k : Nat) : Nat := if k = c then d else k
theorem map_free (c d : Nat) : ∀ l : List Nat, c ∉ l → l.map (rep1 c d) = l
  | [], _ => rfl
  | k :: r, h => by
    have h1 : ¬ k = c := fun e => h (e ▸ List.mem_cons_self ..)
    rw [List.map_cons, map_free c d r fun m => h (List.mem_cons_of_mem _ m), rep1, if_neg h1]
theorem map_join (c d : Nat) : ∀ parts : List Str, (∀ p ∈ parts, c ∉ p.cps.toList) → (Str.join ⟨#[c]⟩ parts).cps.toList.map (rep1 c d) = (Str.join ⟨#[d]⟩ parts).cps.toList
  | [], _ => rfl
  | [p], h => map_free c d _ (h p (List.mem_singleton.mpr rfl))
  | p :: q :: r, h => by
    have ih := map_join c d (q :: r) fun a ha => h a (List.mem_cons_of_mem _ ha)
    show (p ++ ⟨#[c]⟩ ++ Str.join ⟨#[c]⟩ (q :: r)).cps.toList.map (rep1 c d) = (p ++ ⟨#[d]⟩ ++ Str.join ⟨#[d]⟩ (q :: r)).cps.toList
    simp only [Str.cps_append, Array.toList_append, List.map_append]
    rw [ih, map_free c d _ (h p (List.mem_cons_self ..))]
    simp [rep1]
theorem replace_map (x : Str) (c d : Nat) : cp (Txt.replace x ⟨#[c]⟩ ⟨#[d]⟩) = (cp x).map (rep1 c d) := by
  show (Txt.replace x ⟨#[c]⟩ ⟨#[d]⟩).cps.toList = x.cps.toList.map (rep1 c d)
  rw [StrLaws.replace_one, ← map_join c d _ (StrLaws.split_free x c), StrLaws.join_split]
noncomputable def swp (n : Nat) : Nat := rep1 233 201 (rep1 66 98 (rep1 97 65 n))
noncomputable def letp (c : Nat) : Bool := decide (c ∈ [97, 66, 233])
theorem swp_menu : ∀ c ∈ menu, (letp c = false → swp c = c) ∧ sc c (swp c) ≤ 1 ∧ letp (swp c) = false := by decide +kernel
theorem ed_swapped {T : List Nat} (h : ∀ c ∈ T, c ∈ menu) : ed T (T.map swp) = T.countP letp := by
  have h1 := ed_map swp T letp (fun x hx => (swp_menu x (h x hx)).1) (fun x hx => (swp_menu x (h x hx)).2.1)
  have h2 := ed_miss letp (a := T) (b := T.map swp) (fun y hy => by
    obtain ⟨x, hx, rfl⟩ := List.mem_map.mp hy
    exact (swp_menu x (h x hx)).2.2)
  omega
theorem sc_menu : ∀ x ∈ menu, ∀ y ∈ menu, x ≠ y → sc x y = 2 := by decide +kernel
theorem ed_turned {x : Nat} {l : List Nat} (h : ∀ c ∈ x :: l, c ∈ menu) (hne : l ++ [x] ≠ x :: l) : ed (x :: l) (l ++ [x]) = 4 := by
  have hu : ed (x :: l) (l ++ [x]) ≤ 4 := by
    have h1 := ed_append [x] [] l (l ++ [x])
    have h2 := ed_append l l [] [x]
    rw [List.append_nil, ed_refl, ed_nil] at h2
    rw [ed_nil'] at h1
    simp only [List.length_singleton, List.nil_append, List.singleton_append] at h1 h2
    omega
  have hm : ∀ c ∈ l ++ [x], c ∈ menu := by
    intro c hc
    rcases List.mem_append.mp hc with q | q
    · exact h c (.tail _ q)
    · exact h c (by rw [List.mem_singleton.mp q]; exact .head _)
  have hl : ¬ ed (x :: l) (l ++ [x]) < 4 := by
    intro hlt
    rcases ed_one (fun a ha b hb => sc_menu a (h a ha) b (hm b hb)) (by simp) hlt with e | ⟨p, u, v, s, huv, e1, e2⟩
    · exact hne e.symm
    · have c1 := congrArg (List.count u) e1
      have c2 := congrArg (List.count u) e2
      have hvu : v ≠ u := fun e => huv e.symm
      simp only [List.count_append, List.count_cons, List.count_nil, beq_self_eq_true, if_true] at c1 c2
      have : (v == u) = false := by simpa using hvu
      rw [this] at c2
      simp only [Bool.false_eq_true, if_false] at c2
      omega
  omega
theorem ed_bar {c : Nat} (h : c ∈ menu) (k : Nat) (hk : 1 ≤ k) : ed [c] (List.replicate k 42) = 2 * (k : Int) := by
  have hs : sc c 42 = 2 := by
    have key : ∀ c ∈ menu, sc c 42 = 2 := by decide +kernel
    exact key c h
  have hc : c ≠ 42 := by
    have key : ∀ c ∈ menu, c ≠ 42 := by decide +kernel
    exact key c h
  have h1 := ed_count (fun d => decide (d = 42)) (a := [c]) (b := List.replicate k 42) (fun y hy => by rw [(List.mem_replicate.mp hy).2]; rfl)
    (fun x hx _ y hy => by rw [(List.mem_replicate.mp hy).2, List.mem_singleton.mp hx]; exact hs)
  have h2 := ed_one_le c (l := List.replicate k 42) (by intro e; have := congrArg List.length e; simp at this; omega)
  have : [c].countP (fun d => decide (d = 42)) = 0 := by simp [hc]
  rw [this] at h1
  simp only [List.length_replicate] at h1 h2
  omega
end Mine
end
section
local macro_rules | `(tactic| omega) => `(tactic| lia)
open PySem PySem.W PyProof PyProof.Rows PySem.Calls
set_option Elab.async false
set_option maxRecDepth 100000
namespace Mine
section
variable {prog : Program} {w : World} {A : Around} {E : Value → Shared → Prop} {s : Shared} {h₀ : Heap} {L a : Addr} {m : Str → Option Value} {cn : Str} {cs : Scope} {ccd : Value} {cl : List (Str × Addr)} {news : List (Addr × Obj)} {Q : Value → Shared → Prop}
/-- what x[:k or None] is -/
noncomputable def cut (X : Str) (k : Int) : Str := if k = 0 then X else Txt.slice X none (some k)
theorem sl_or {x y : Str} {p1 p2 p3 p4 p5 p6 : Pos} {n : Nat} {X : Str} {k : Int} {t u : Tok} (F : Fr h₀ L s.heap m) (N : News h₀ L s.heap news) (hx : m x = some (.str X t)) (hy : m y = some (.int k u)) (hX : X.length ≤ 1000)
    (hcs : cs.kind = .function) (kx : (envX cn cs L a ccd cl).kindOf x = some .local) (ky : (envX cn cs L a ccd cl).kindOf y = some .local) (dx : (x == Str.ofString "__debug__") = false) (dy : (y == Str.ofString "__debug__") = false)
    (h : ∀ h' t' tk, Fr h₀ L h' m → News h₀ L h' news → Q (.str (cut X k) t') { s with heap := h', toks := tk }) :
    wpAny (model prog w) A (eval (.Subscript (.Name x p1) (.Slice none (some (.BoolOp .Or [.Name y p2, .Constant .none n p3] p4)) none p5) p6) (envX cn cs L a ccd cl)) Q E s := by
  refine Subscript_ ?_
  refine nameX_L F hx ?_ hcs kx dx
  refine wpAny_Slice ?_
  refine evalPart_none_step ?_
  refine evalPart_some_step ?_
  refine BoolOp_or ?_
  refine nameX_L F hy ?_ hcs ky dy
  refine truthy_int ?_
  by_cases e : k = 0
  · subst e
    rw [if_neg (by decide)]
    refine BoolOp_one ?_
    refine wpAny_Constant_none ?_
    refine evalPart_none_step ?_
    refine slice_allN F N (fun h' t' tk F' N' => ?_) (hsz := by rw [PySem.sizeLine_eq]; omega)
    have := h h' t' tk F' N'
    rw [cut, if_pos rfl] at this
    exact this
  · rw [if_pos (by simpa using e)]
    refine evalPart_none_step ?_
    refine slice_strN_ns F N (fun h' t' tk F' N' => ?_) (hsz := by rw [PySem.sizeLine_eq]; omega)
    have := h h' t' tk F' N'
    rw [cut, if_neg e] at this
    exact this
end
end Mine
end
section
local macro_rules | `(tactic| omega) => `(tactic| lia)
open PySem PySem.W PyProof PyProof.Rows PySem.Calls
set_option Elab.async false
set_option maxRecDepth 100000
namespace Mine
/-- where a frame's code stands -/
structure Cx where
  prog : Program
  w : World
  A : Around
  cn : Str
  cs : Scope
  a : Addr
  ccd : Value
  cl : List (Str × Addr)
  h₀ : Heap
  L : Addr
noncomputable abbrev Cx.env (c : Cx) : Env := envX c.cn c.cs c.L c.a c.ccd c.cl
noncomputable abbrev Cx.M (c : Cx) : Model := model c.prog c.w
noncomputable abbrev Nv : Value → Shared → Prop := fun _ _ => False
noncomputable abbrev Fm := Str → Option Value
noncomputable abbrev Lg := List (Addr × Obj)
/-- a tree that changes neither frame nor ledger: what it gives -/
noncomputable def Op {α : Type} (c : Cx) (m : Fm) (n : Lg) (t : Sem α) (P : α → Nat → Prop) : Prop :=
  ∀ (s : Shared) (Q : α → Shared → Prop), Fr c.h₀ c.L s.heap m → News c.h₀ c.L s.heap n →
    (∀ v h tk, P v tk → Fr c.h₀ c.L h m → News c.h₀ c.L h n → Q v { s with heap := h, toks := tk }) → wpAny c.M c.A t Q Nv s
noncomputable abbrev Ev (c : Cx) (m : Fm) (n : Lg) (e : Expr) (P : Value → Nat → Prop) : Prop := Op c m n (eval e c.env) P
noncomputable abbrev Te (c : Cx) (m : Fm) (n : Lg) (e : Expr) (P : Bool → Prop) : Prop := Op c m n (PySem.isTrue e c.env (eval e c.env)) (fun b _ => P b)
/-- statements: how they end, the frame, the ledger -/
noncomputable def Run (c : Cx) (m : Fm) (n : Lg) (t : Sem Flow) (R : Flow → Fm → Lg → Nat → Prop) : Prop :=
  ∀ (s : Shared) (Q : Flow → Shared → Prop), Fr c.h₀ c.L s.heap m → News c.h₀ c.L s.heap n →
    (∀ f m' n' h tk, R f m' n' tk → Fr c.h₀ c.L h m' → News c.h₀ c.L h n' → Q f { s with heap := h, toks := tk }) → wpAny c.M c.A t Q Nv s
noncomputable abbrev Bl (c : Cx) (m : Fm) (n : Lg) (ss : List Stmt) (R : Flow → Fm → Lg → Nat → Prop) : Prop := Run c m n (execs ss c.env) R
noncomputable abbrev St (c : Cx) (m : Fm) (n : Lg) (st : Stmt) (R : Flow → Fm → Lg → Nat → Prop) : Prop := Run c m n (exec st c.env) R
noncomputable def Vi (k : Int) : Value → Nat → Prop := fun v _ => ∃ t, v = .int k t
noncomputable def Vs (x : Str) : Value → Nat → Prop := fun v _ => ∃ t, v = .str x t
noncomputable def Vb (b : Bool) : Value → Nat → Prop := fun v _ => v = .bool b
/-- an int that was made just now -/
noncomputable def Vn (k : Int) : Value → Nat → Prop := fun v tk => (∃ t, v = .int k t) ∧ tk ≠ 0
noncomputable def fset (m : Fm) (x : Str) (v : Value) : Fm := fun y => if y = x then some v else m y
noncomputable def Then (c : Cx) (ss : List Stmt) (R : Flow → Fm → Lg → Nat → Prop) (f : Flow) (m : Fm) (n : Lg) (tk : Nat) : Prop := match f with
  | .next => Bl c m n ss R
  | f => R f m n tk
section
variable {c : Cx} {m : Fm} {n : Lg} {α : Type} {P : α → Nat → Prop} {R : Flow → Fm → Lg → Nat → Prop} {ss : List Stmt}
theorem Op.mono {P' : α → Nat → Prop} {t : Sem α} (h : Op c m n t P) (hp : ∀ v tk, P v tk → P' v tk) : Op c m n t P' :=
  fun s Q F N k => h s Q F N fun v h tk hv => k v h tk (hp v tk hv)
theorem Run.mono {R' : Flow → Fm → Lg → Nat → Prop} {t : Sem Flow} (h : Run c m n t R) (hp : ∀ f m' n' tk, R f m' n' tk → R' f m' n' tk) : Run c m n t R' :=
  fun s Q F N k => h s Q F N fun f m' n' h tk hr => k f m' n' h tk (hp f m' n' tk hr)
theorem Bl.nil (h : ∀ tk, R .next m n tk) : Bl c m n [] R := fun s _ F N k => wpAny_execs_nil (k .next m n s.heap s.toks (h _) F N)
theorem Bl.cons {st : Stmt} (h : St c m n st (Then c ss R)) : Bl c m n (st :: ss) R := fun s Q F N k =>
  wpAny_execs_cons (h s _ F N fun f m' n' hh tk hr F' N' => match f, hr with
    | .next, hr => hr _ Q F' N' k
    | .brk, hr => k .brk m' n' hh tk hr F' N'
    | .cont, hr => k .cont m' n' hh tk hr F' N'
    | .ret v, hr => k (.ret v) m' n' hh tk hr F' N')
/-- the frame's own names -/
theorem Ev.loc {x : Str} {p : Pos} {v : Value} (hv : m x = some v) (hk : c.cs.kind = .function) (hl : c.env.kindOf x = some .local) (hd : (x == Str.ofString "__debug__") = false) : Ev c m n (.Name x p) (fun r _ => r = v) :=
  fun s _ F N k => nameX_L F hv (k v s.heap s.toks rfl F N) hk hl hd
theorem Ev.locI {x : Str} {p : Pos} {i : Int} {t : Tok} (hv : m x = some (.int i t)) (hk : c.cs.kind = .function) (hl : c.env.kindOf x = some .local) (hd : (x == Str.ofString "__debug__") = false) : Ev c m n (.Name x p) (Vi i) :=
  (Ev.loc hv hk hl hd).mono fun _ _ e => ⟨t, e⟩
theorem Ev.locS {x : Str} {p : Pos} {y : Str} {t : Tok} (hv : m x = some (.str y t)) (hk : c.cs.kind = .function) (hl : c.env.kindOf x = some .local) (hd : (x == Str.ofString "__debug__") = false) : Ev c m n (.Name x p) (Vs y) :=
  (Ev.loc hv hk hl hd).mono fun _ _ e => ⟨t, e⟩
theorem Ev.kint {i : Int} {k : Nat} {p : Pos} : Ev c m n (.Constant (.int i) k p) (Vn i) :=
  fun s _ F N k => wpAny_Constant_int (k _ s.heap _ ⟨⟨_, rfl⟩, Nat.succ_ne_zero _⟩ F N)
theorem Ev.kstr {x : Str} {k : Nat} {p : Pos} : Ev c m n (.Constant (.str x) k p) (Vs x) :=
  fun s _ F N k => Constant_str (k _ s.heap _ ⟨_, rfl⟩ F N)
theorem Ev.knone {k : Nat} {p : Pos} : Ev c m n (.Constant .none k p) (fun v _ => v = .none) :=
  fun s _ F N k => wpAny_Constant_none (k _ s.heap s.toks rfl F N)
theorem Ev.kbool {b : Bool} {k : Nat} {p : Pos} : Ev c m n (.Constant (.bool b) k p) (Vb b) :=
  fun s _ F N k => wpAny_Constant_bool (k _ s.heap s.toks rfl F N)
theorem Ev.vi {e : Expr} {i : Int} (h : Ev c m n e (Vn i)) : Ev c m n e (Vi i) := h.mono fun _ _ q => q.1
theorem Ev.bin {l r : Expr} {op : Operator} {p : Pos} {Pa Pb P : Value → Nat → Prop} (ha : Ev c m n l Pa) (hb : Ev c m n r Pb) (ho : ∀ x y tx ty, Pa x tx → Pb y ty → Op c m n (binaryOp op x y) P) : Ev c m n (.BinOp l op r p) P :=
  fun s _ F N k => wpAny_BinOp (ha s _ F N fun _ _ _ hx F N => hb _ _ F N fun _ _ _ hy F N => ho _ _ _ _ hx hy _ _ F N fun v h tk hv F N => k v h tk hv F N)
theorem Ev.add {l r : Expr} {p : Pos} {i j : Int} (ha : Ev c m n l (Vi i)) (hb : Ev c m n r (Vi j)) : Ev c m n (.BinOp l .Add r p) (Vn (i + j)) :=
  Ev.bin ha hb fun _ _ _ _ ⟨_, ex⟩ ⟨_, ey⟩ => by subst ex ey; exact fun s _ F N k => PyProof.Rows.add_int (k _ s.heap _ ⟨⟨_, rfl⟩, Nat.succ_ne_zero _⟩ F N)
theorem Ev.sub {l r : Expr} {p : Pos} {i j : Int} (ha : Ev c m n l (Vi i)) (hb : Ev c m n r (Vi j)) : Ev c m n (.BinOp l .Sub r p) (Vn (i - j)) :=
  Ev.bin ha hb fun _ _ _ _ ⟨_, ex⟩ ⟨_, ey⟩ => by subst ex ey; exact fun s _ F N k => PyProof.Rows.sub_int (k _ s.heap _ ⟨⟨_, rfl⟩, Nat.succ_ne_zero _⟩ F N)
theorem Ev.mul {l r : Expr} {p : Pos} {i j : Int} (ha : Ev c m n l (Vi i)) (hb : Ev c m n r (Vi j)) (hm : PySem.IntMulOk i j) : Ev c m n (.BinOp l .Mult r p) (Vn (i * j)) :=
  Ev.bin ha hb fun _ _ _ _ ⟨_, ex⟩ ⟨_, ey⟩ => by subst ex ey; exact fun s _ F N k => PyProof.Rows.mul_int (k _ s.heap _ ⟨⟨_, rfl⟩, Nat.succ_ne_zero _⟩ F N) hm
theorem Ev.cat {l r : Expr} {p : Pos} {x y : Str} (ha : Ev c m n l (Vs x)) (hb : Ev c m n r (Vs y)) (hz : x.length + y.length ≤ 16777216) : Ev c m n (.BinOp l .Add r p) (Vs (x ++ y)) :=
  Ev.bin ha hb fun _ _ _ _ ⟨_, ex⟩ ⟨_, ey⟩ => by subst ex ey; exact fun s _ F N k => KOpn.add hz fun _ _ _ => k _ s.heap _ ⟨_, rfl⟩ F N
/-- tests -/
theorem Te.cmp {l r : Expr} {op : CmpOp} {p : Pos} {Pa Pb : Value → Nat → Prop} {P : Bool → Prop} (ha : Ev c m n l Pa) (hb : Ev c m n r Pb) (hm : behindInMarks op r = false)
    (ho : ∀ x y tx ty, Pa x tx → Pb y ty → Op c m n (compareOp op x y) (fun v _ => ∃ b, v = .bool b ∧ P b)) : Te c m n (.Compare l [op] [r] p) P :=
  fun s _ F N k => wpAny_isTrue_Compare1 (ha s _ F N fun _ _ _ hx F N => hb _ _ F N fun _ _ _ hy F N => ho _ _ _ _ hx hy _ _ F N fun v h tk ⟨b, hv, hP⟩ F N => by
    subst hv
    exact fun _ _ _ => k b h tk hP F N) hm
theorem Te.plain {e : Expr} {Pa : Value → Nat → Prop} {P : Bool → Prop} (ha : Ev c m n e Pa) (ht : ∀ x tx, Pa x tx → Op c m n (truthy x) (fun b _ => P b))
    (hp : PySem.isTrue e c.env (eval e c.env) = (do let v ← eval e c.env; standAt e.pos; holding [v] (truthy v))) : Te c m n e P :=
  fun s _ F N k => isTrue_plain (ha s _ F N fun _ _ _ hx F N => ht _ _ hx _ _ F N fun b h tk hb F N => k b h tk hb F N) hp
theorem Te.not {e : Expr} {p : Pos} {P : Bool → Prop} (h : Te c m n e P) : Te c m n (.UnaryOp .Not e p) (fun b => P (!b)) :=
  fun s _ F N k => isTrue_not (h s _ F N fun b h tk hb F N => k (!b) h tk (by show P (!!b); rw [Bool.not_not]; exact hb) F N)
theorem Te.mono {e : Expr} {P P' : Bool → Prop} (h : Te c m n e P) (hp : ∀ b, P b → P' b) : Te c m n e P' := Op.mono h fun b _ q => hp b q
noncomputable def Lt (op : CmpOp) (i j : Int) : Bool := match op with
  | .Eq => i == j
  | .NotEq => i != j
  | .Lt => decide (i < j)
  | .Gt => decide (j < i)
  | .LtE => decide (i ≤ j)
  | .GtE => decide (j ≤ i)
  | _ => false
theorem Op.cmpI {op : CmpOp} {i j : Int} {t u : Tok} (ho : op = .Eq ∨ op = .NotEq ∨ op = .Lt ∨ op = .Gt ∨ op = .LtE ∨ op = .GtE) : Op c m n (compareOp op (.int i t) (.int j u)) (fun v _ => v = .bool (Lt op i j)) := by
  intro s Q F N k
  rcases ho with e | e | e | e | e | e <;> subst e
  · exact PyProof.Rows.eq_int (k _ s.heap s.toks rfl F N)
  · exact PyProof.Rows.ne_int (k _ s.heap s.toks rfl F N)
  · exact PyProof.Rows.lt_int (k _ s.heap s.toks rfl F N)
  · exact PyProof.Rows.gt_int (k _ s.heap s.toks rfl F N)
  · exact PyProof.Rows.le_int (k _ s.heap s.toks rfl F N)
  · exact PyProof.Rows.ge_int (k _ s.heap s.toks rfl F N)
theorem Te.cmpI {l r : Expr} {op : CmpOp} {p : Pos} {i j : Int} (ha : Ev c m n l (Vi i)) (hb : Ev c m n r (Vi j)) (ho : op = .Eq ∨ op = .NotEq ∨ op = .Lt ∨ op = .Gt ∨ op = .LtE ∨ op = .GtE) (hm : behindInMarks op r = false) : Te c m n (.Compare l [op] [r] p) (fun b => b = Lt op i j) :=
  Te.cmp ha hb hm fun _ _ _ _ ⟨_, ex⟩ ⟨_, ey⟩ => by subst ex ey; exact (Op.cmpI ho).mono fun v _ e => ⟨_, e, rfl⟩
theorem Te.eqS {l r : Expr} {p : Pos} {x y : Str} (ha : Ev c m n l (Vs x)) (hb : Ev c m n r (Vs y)) (hm : behindInMarks .Eq r = false) : Te c m n (.Compare l [.Eq] [r] p) (fun b => b = (x == y)) :=
  Te.cmp ha hb hm fun _ _ _ _ ⟨_, ex⟩ ⟨_, ey⟩ => by subst ex ey; exact fun s _ F N k => PyProof.Rows.eq_str (k _ s.heap s.toks ⟨_, rfl, rfl⟩ F N)
/-- a text's truth -/
theorem Te.str {e : Expr} {x : Str} (ha : Ev c m n e (Vs x)) (hx : x.length ≤ 100000) (hp : PySem.isTrue e c.env (eval e c.env) = (do let v ← eval e c.env; standAt e.pos; holding [v] (truthy v))) : Te c m n e (fun b => b = ((x.length : Int) != 0)) :=
  Te.plain ha (fun _ _ ⟨_, ex⟩ => by subst ex; exact fun s _ F N k => PySem.P.truthy_str (by omega) (k _ s.heap _ rfl F N)) hp
theorem Te.and2 {x y : Expr} {p : Pos} {Px Py : Bool → Prop} (hx : Te c m n x Px) (hy : Px true → Te c m n y Py) : Te c m n (.BoolOp .And [x, y] p) (fun b => (b = true → Px true ∧ Py true) ∧ (b = false → Px false ∨ (Px true ∧ Py false))) :=
  fun s Q F N k => isTrue_and (hx s _ F N fun b h tk hb F N => by
    cases b with
    | false => exact k false h tk ⟨nofun, fun _ => .inl hb⟩ F N
    | true => exact isTrue_and (hy hb _ _ F N fun b2 h tk hb2 F N => by
        cases b2 with
        | false => exact k false h tk ⟨nofun, fun _ => .inr ⟨hb, hb2⟩⟩ F N
        | true => exact isTrue_and_nil (k true h tk ⟨fun _ => ⟨hb, hb2⟩, nofun⟩ F N)))
theorem Te.or2 {x y : Expr} {p : Pos} {Px Py : Bool → Prop} (hx : Te c m n x Px) (hy : Px false → Te c m n y Py) : Te c m n (.BoolOp .Or [x, y] p) (fun b => (b = true → Px true ∨ (Px false ∧ Py true)) ∧ (b = false → Px false ∧ Py false)) :=
  fun s Q F N k => isTrue_or (hx s _ F N fun b h tk hb F N => by
    cases b with
    | true => exact k true h tk ⟨fun _ => .inl hb, nofun⟩ F N
    | false => exact isTrue_or (hy hb _ _ F N fun b2 h tk hb2 F N => by
        cases b2 with
        | true => exact k true h tk ⟨fun _ => .inr ⟨hb, hb2⟩, nofun⟩ F N
        | false => exact isTrue_or_nil (k false h tk ⟨nofun, fun _ => ⟨hb, hb2⟩⟩ F N)))
theorem Te.and3 {x y z : Expr} {p : Pos} {Px Py Pz : Bool → Prop} (hx : Te c m n x Px) (hy : Px true → Te c m n y Py) (hz : Px true → Py true → Te c m n z Pz) :
    Te c m n (.BoolOp .And [x, y, z] p) (fun b => (b = true → Px true ∧ Py true ∧ Pz true) ∧ (b = false → Px false ∨ (Px true ∧ Py false) ∨ (Px true ∧ Py true ∧ Pz false))) :=
  fun s Q F N k => isTrue_and (hx s _ F N fun b h tk hb F N => by
    cases b with
    | false => exact k false h tk ⟨nofun, fun _ => .inl hb⟩ F N
    | true => exact isTrue_and (hy hb _ _ F N fun b2 h tk hb2 F N => by
        cases b2 with
        | false => exact k false h tk ⟨nofun, fun _ => .inr (.inl ⟨hb, hb2⟩)⟩ F N
        | true => exact isTrue_and (hz hb hb2 _ _ F N fun b3 h tk hb3 F N => by
            cases b3 with
            | false => exact k false h tk ⟨nofun, fun _ => .inr (.inr ⟨hb, hb2, hb3⟩)⟩ F N
            | true => exact isTrue_and_nil (k true h tk ⟨fun _ => ⟨hb, hb2, hb3⟩, nofun⟩ F N))))
/-- statements -/
theorem Bl.asg {x : Str} {e : Expr} {p q : Pos} {P : Value → Nat → Prop} (he : Ev c m n e P) (hk : c.cs.kind = .function) (hl : c.env.kindOf x = some .local) (hs : swapsWith e (some (.Name x p)) q.line c.env = pure false)
    (h : ∀ v tk, P v tk → Bl c (fset m x v) n ss R) : Bl c m n (.Assign [.Name x p] e q :: ss) R :=
  Bl.cons fun s Q F N k => wpAny_Assign_Name (he s _ F N fun v hh tk hv F N => storeX_L F N (fun h' F' N' => k .next (fset m x v) n h' _ (h v tk hv) F' N') hk hl) hs
theorem Bl.ret {e : Expr} {p : Pos} {P : Value → Nat → Prop} (he : Ev c m n e P) (h : ∀ v tk, P v tk → R (.ret v) m n tk) : Bl c m n (.Return (some e) p :: ss) R :=
  Bl.cons fun s Q F N k => wpAny_Return_some (he s _ F N fun v hh tk hv F N => k (.ret v) m n hh tk (h v tk hv) F N)
theorem Bl.ite {e : Expr} {p : Pos} {body orelse : List Stmt} {B : Bool → Prop} (ht : Te c m n e B) (h1 : B true → Bl c m n body (Then c ss R)) (h2 : B false → Bl c m n orelse (Then c ss R)) : Bl c m n (.If e body orelse p :: ss) R :=
  Bl.cons fun s Q F N k => wpAny_If (ht s _ F N fun b hh tk hb F N => by
    cases b with
    | true => exact h1 hb _ _ F N k
    | false => exact h2 hb _ _ F N k)
theorem St.ite {e : Expr} {p : Pos} {body orelse : List Stmt} {B : Bool → Prop} (ht : Te c m n e B) (h1 : B true → Bl c m n body R) (h2 : B false → Bl c m n orelse R) : St c m n (.If e body orelse p) R :=
  fun s Q F N k => wpAny_If (ht s _ F N fun b hh tk hb F N => by
    cases b with
    | true => exact h1 hb _ _ F N k
    | false => exact h2 hb _ _ F N k)
/-- paths meet: what holds behind the statement -/
theorem Bl.cut {st : Stmt} {R1 : Flow → Fm → Lg → Nat → Prop} (h : St c m n st R1) (h2 : ∀ f m' n' tk, R1 f m' n' tk → Then c ss R f m' n' tk) : Bl c m n (st :: ss) R := Bl.cons (h.mono h2)
-- globals, built-in names
section
variable {K : Frag} {pr : Program} {loose : List Str} {mg mb : Str → Option Value}
theorem Ev.glob {x : Str} {p : Pos} {v : Value} (X : K.In c.h₀) (T : TopRead pr loose mg mb c.h₀) (e : nsIn K mainGlobals x = some (some v)) (hk : c.cs.kind = .function) (hl : c.env.kindOf x = some .globalImplicit) (hd : (x == Str.ofString "__debug__") = false) : Ev c m n (.Name x p) (fun r _ => r = v) :=
  fun s _ F N k => nameX_K F X T e (k v s.heap s.toks rfl F N) hk hl hd
theorem Ev.built {x : Str} {p : Pos} {v : Value} (X : K.In c.h₀) (T : TopRead pr loose mg mb c.h₀) (e : nsIn K mainGlobals x = some none) (hv : bootBuiltins x = some v) (hn : x ≠ Str.ofString "__name__") (hk : c.cs.kind = .function) (hl : c.env.kindOf x = some .globalImplicit) (hd : (x == Str.ofString "__debug__") = false) : Ev c m n (.Name x p) (fun r _ => r = v) :=
  fun s _ F N k => nameX_B F X T e hv hn (k v s.heap s.toks rfl F N) hk hl hd
end
/-- calls: the arguments, then the call -/
noncomputable def Args (c : Cx) (m : Fm) (n : Lg) (pos : Pos) (es : List Expr) (P : List Value → Nat → Prop) : Prop := Op c m n (spliced (backTo pos (starEach es c.env))) P
theorem Args.nil {pos : Pos} : Args c m n pos [] (fun vs _ => vs = []) := fun s _ F N k => args_nil (k [] s.heap s.toks rfl F N)
theorem Args.cons {pos : Pos} {e : Expr} {es : List Expr} {Pe : Value → Nat → Prop} {Ps : List Value → Nat → Prop} (he : Ev c m n e Pe) (hs : Args c m n pos es Ps) (hx : starEach (e :: es) c.env = (false, eval e c.env) :: starEach es c.env) :
    Args c m n pos (e :: es) (fun vs _ => ∃ v t vs', vs = v :: vs' ∧ Pe v t ∧ ∃ t', Ps vs' t') :=
  fun s _ F N k => args_cons (he s _ F N fun v h tk hv F N => hs _ _ F N fun vs h2 tk2 hvs F N => k (v :: vs) h2 tk2 ⟨v, tk, vs, rfl, hv, tk2, hvs⟩ F N) hx
theorem Ev.bcall {fe e : Expr} {es : List Expr} {id : String} {p : Pos} {Ps : List Value → Nat → Prop} {P : Value → Nat → Prop} (hf : Ev c m n fe (fun r _ => r = .builtin id)) (ha : Args c m n p (e :: es) Ps) (ho : ∀ vs t, Ps vs t → Op c m n (call (.builtin id) vs) P)
    (hc : eval (fe.Call (e :: es) [] p) c.env = (do let f ← eval fe c.env; callWith p f [] (backTo p (starEach (e :: es) c.env)) (backToKw p (keywordEach [] c.env)))) (hx : starEach (e :: es) c.env = (false, eval e c.env) :: starEach es c.env) (hy : ((backTo p (starEach es c.env)).any fun x => x.1) = false) : Ev c m n (.Call fe (e :: es) [] p) P :=
  fun s Q F N k => Call_ (hf s _ F N fun f h tk hv F N => by
    subst hv
    exact PyProof.Rows.callWith_builtin1 (ha _ _ F N fun vs h tk hvs F N => ho vs tk hvs _ _ F N k) hx hy) hc
/-- len of a text -/
theorem Op.lenS {x : Str} {t : Tok} (hx : x.length ≤ 100000) : Op c m n (call (.builtin "len") [.str x t]) (Vn x.length) :=
  fun s _ F N k => PyProof.Rows.SBL.len (by omega) (k _ s.heap _ ⟨⟨_, rfl⟩, Nat.succ_ne_zero _⟩ F N)
/-- min of two ints -/
theorem Op.min2 {i j : Int} {t u : Tok} (hh : c.A.handled = none) : Op c m n (call (.builtin "min") [.int i t, .int j u]) (Vi (if j < i then j else i)) :=
  fun s _ F N k => PyProof.Rows.min_two_N hh F N fun h tk F N => k _ h tk ⟨_, rfl⟩ F N
end
section
variable {c : Cx} {m : Fm} {n : Lg} {R : Flow → Fm → Lg → Nat → Prop} {ss : List Stmt}
theorem Bl.use {s : Shared} {Q : Flow → Shared → Prop} {E : Value → Shared → Prop} (h : Bl c m n ss R) (F : Fr c.h₀ c.L s.heap m) (N : News c.h₀ c.L s.heap n)
    (k : ∀ f m' n' h tk, R f m' n' tk → Fr c.h₀ c.L h m' → News c.h₀ c.L h n' → Q f { s with heap := h, toks := tk }) : wpAny c.M c.A (execs ss c.env) Q E s :=
  wpAny_mono (h s Q F N k) (fun _ _ q => q) fun _ _ e => e.elim
/-- the end of a called def -/
noncomputable def Ret (n : Lg) (P : Value → Nat → Prop) : Flow → Fm → Lg → Nat → Prop := fun f _ n' tk => ∃ v, f = .ret v ∧ P v tk ∧ ∀ p ∈ n, p ∈ n'
theorem Bl.retR {e : Expr} {p : Pos} {n₀ : Lg} {P P' : Value → Nat → Prop} (he : Ev c m n e P) (h : ∀ v tk, P v tk → P' v tk) (hn : ∀ p ∈ n₀, p ∈ n) : Bl c m n (.Return (some e) p :: ss) (Ret n₀ P') := Bl.ret he fun v tk hv => ⟨v, rfl, h v tk hv, hn⟩
end
theorem Bl.enter {prog : Program} {w : World} {A : Around} {cn : Str} {cs : Scope} {a : Addr} {ccd : Value} {cl : List (Str × Addr)} {h₀ : Heap} {L : Addr} {m : Fm} {n : Lg} {ss : List Stmt} {s : Shared} {Q : Flow → Shared → Prop} {E : Value → Shared → Prop} (R : Flow → Fm → Lg → Nat → Prop)
    (F : Fr h₀ L s.heap m) (N : News h₀ L s.heap n) (h : Bl ⟨prog, w, A, cn, cs, a, ccd, cl, h₀, L⟩ m n ss R)
    (k : ∀ f m' n' h tk, R f m' n' tk → Fr h₀ L h m' → News h₀ L h n' → Q f { s with heap := h, toks := tk }) : wpAny (model prog w) A (execs ss (envX cn cs L a ccd cl)) Q E s := Bl.use h F N k
noncomputable def frl : List (Str × Value) → Fm
  | [] => fun _ => Option.none
  | (x, v) :: l => fset (frl l) x v
theorem frl_eq : ∀ l : List (Str × Value), (fun y => List.lookup y l) = frl l
  | [] => rfl
  | (x, v) :: l => by
    funext y
    have := congrFun (frl_eq l) y
    rw [lookup_if]
    show (if y = x then some v else List.lookup y l) = if y = x then some v else frl l y
    rw [← this]
theorem fr_frl {g h : Heap} {L : Addr} {l l' : List (Str × Value)} (F : Fr g L h (fun y => List.lookup y l)) (e : l = l') : Fr g L h (frl l') := by
  subst e; rw [← frl_eq]; exact F
section
variable {c : Cx} {m : Fm} {n : Lg}
theorem Ev.fdiv {l r : Expr} {p : Pos} {i j : Int} (ha : Ev c m n l (Vi i)) (hb : Ev c m n r (Vi j)) (hj : j ≠ 0) (hp : Builtin.divisionGoesByPylong i j = false) : Ev c m n (.BinOp l .FloorDiv r p) (Vi (i.fdiv j)) :=
  Ev.bin ha hb fun _ _ _ _ ⟨_, ex⟩ ⟨_, ey⟩ => by subst ex ey; exact fun s _ F N k => PyProof.Rows.floordiv_int hj (k _ s.heap _ ⟨_, rfl⟩ F N) (.inl hp)
end
section
variable {c : Cx} {m : Fm} {n : Lg} {ss ss' : List Stmt}
theorem Bl.retT {e : Expr} {p : Pos} {n₀ : Lg} {P P' : Value → Nat → Prop} (he : Ev c m n e P) (h : ∀ v tk, P v tk → P' v tk) (hn : ∀ p ∈ n₀, p ∈ n) : Bl c m n (.Return (some e) p :: ss') (Then c ss (Ret n₀ P')) := Bl.ret he fun v tk hv => ⟨v, rfl, h v tk hv, hn⟩
/-- an if whose body leaves -/
theorem Bl.iff {e : Expr} {p : Pos} {body : List Stmt} {B : Bool → Prop} {R : Flow → Fm → Lg → Nat → Prop} (ht : Te c m n e B) (h1 : B true → Bl c m n body (Then c ss R)) (h2 : B false → Bl c m n ss R) : Bl c m n (.If e body [] p :: ss) R :=
  Bl.ite ht h1 fun hb => Bl.nil fun _ => h2 hb
end
section
variable {c : Cx} {m : Fm} {n : Lg}
theorem Args.one {pos : Pos} {e : Expr} {P : Value → Nat → Prop} (he : Ev c m n e P) (hx : starEach [e] c.env = (false, eval e c.env) :: starEach [] c.env) : Args c m n pos [e] (fun vs _ => ∃ a t, vs = [a] ∧ P a t) :=
  fun s _ F N k => args_cons (he s _ F N fun v h tk hv F N => args_nil (k [v] h tk ⟨v, tk, rfl, hv⟩ F N)) hx
theorem Args.two {pos : Pos} {e1 e2 : Expr} {P1 P2 : Value → Nat → Prop} (h1 : Ev c m n e1 P1) (h2 : Ev c m n e2 P2) (hx1 : starEach [e1, e2] c.env = (false, eval e1 c.env) :: starEach [e2] c.env) (hx2 : starEach [e2] c.env = (false, eval e2 c.env) :: starEach [] c.env) :
    Args c m n pos [e1, e2] (fun vs _ => ∃ a b t u, vs = [a, b] ∧ P1 a t ∧ P2 b u) :=
  fun s _ F N k => args_cons (h1 s _ F N fun v h tk hv F N => args_cons (h2 _ _ F N fun v2 h tk2 hv2 F N => args_nil (k [v, v2] h tk2 ⟨v, v2, tk, tk2, rfl, hv, hv2⟩ F N)) hx2) hx1
theorem Args.three {pos : Pos} {e1 e2 e3 : Expr} {P1 P2 P3 : Value → Nat → Prop} (h1 : Ev c m n e1 P1) (h2 : Ev c m n e2 P2) (h3 : Ev c m n e3 P3) (hx1 : starEach [e1, e2, e3] c.env = (false, eval e1 c.env) :: starEach [e2, e3] c.env) (hx2 : starEach [e2, e3] c.env = (false, eval e2 c.env) :: starEach [e3] c.env) (hx3 : starEach [e3] c.env = (false, eval e3 c.env) :: starEach [] c.env) :
    Args c m n pos [e1, e2, e3] (fun vs _ => ∃ a b d t u v, vs = [a, b, d] ∧ P1 a t ∧ P2 b u ∧ P3 d v) :=
  fun s _ F N k => args_cons (h1 s _ F N fun v h tk hv F N => args_cons (h2 _ _ F N fun v2 h tk2 hv2 F N => args_cons (h3 _ _ F N fun v3 h tk3 hv3 F N => args_nil (k [v, v2, v3] h tk3 ⟨v, v2, v3, tk, tk2, tk3, rfl, hv, hv2, hv3⟩ F N)) hx3) hx2) hx1
theorem Args.four {pos : Pos} {e1 e2 e3 e4 : Expr} {P1 P2 P3 P4 : Value → Nat → Prop} (h1 : Ev c m n e1 P1) (h2 : Ev c m n e2 P2) (h3 : Ev c m n e3 P3) (h4 : Ev c m n e4 P4) (hx1 : starEach [e1, e2, e3, e4] c.env = (false, eval e1 c.env) :: starEach [e2, e3, e4] c.env) (hx2 : starEach [e2, e3, e4] c.env = (false, eval e2 c.env) :: starEach [e3, e4] c.env) (hx3 : starEach [e3, e4] c.env = (false, eval e3 c.env) :: starEach [e4] c.env) (hx4 : starEach [e4] c.env = (false, eval e4 c.env) :: starEach [] c.env) :
    Args c m n pos [e1, e2, e3, e4] (fun vs _ => ∃ a b d e t u v w, vs = [a, b, d, e] ∧ P1 a t ∧ P2 b u ∧ P3 d v ∧ P4 e w) :=
  fun s _ F N k => args_cons (h1 s _ F N fun v h tk hv F N => args_cons (h2 _ _ F N fun v2 h tk2 hv2 F N => args_cons (h3 _ _ F N fun v3 h tk3 hv3 F N => args_cons (h4 _ _ F N fun v4 h tk4 hv4 F N => args_nil (k [v, v2, v3, v4] h tk4 ⟨v, v2, v3, v4, tk, tk2, tk3, tk4, rfl, hv, hv2, hv3, hv4⟩ F N)) hx4) hx3) hx2) hx1
/-- arguments that all have a property -/
theorem Args.noneA {pos : Pos} {P : Value → Prop} : Args c m n pos [] (fun vs _ => vs.length = 0 ∧ ∀ v ∈ vs, P v) := Op.mono Args.nil fun vs _ e => by rw [e]; exact ⟨rfl, fun v h => nomatch h⟩
theorem Args.all {pos : Pos} {e : Expr} {es : List Expr} {P : Value → Prop} {Pe : Value → Nat → Prop} {k : Nat} (he : Ev c m n e Pe) (hp : ∀ v t, Pe v t → P v) (hs : Args c m n pos es (fun vs _ => vs.length = k ∧ ∀ v ∈ vs, P v)) (hx : starEach (e :: es) c.env = (false, eval e c.env) :: starEach es c.env) :
    Args c m n pos (e :: es) (fun vs _ => vs.length = k + 1 ∧ ∀ v ∈ vs, P v) := by
  refine Op.mono (Args.cons he hs hx) fun vs t hv => ?_
  obtain ⟨v, t, vs', rfl, h1, t', h2, h3⟩ := hv
  refine ⟨congrArg Nat.succ h2, fun z hz => ?_⟩
  rcases List.mem_cons.mp hz with rfl | hz
  · exact hp _ _ h1
  · exact h3 z hz
end
end Mine
end
section
local macro_rules | `(tactic| omega) => `(tactic| lia)
open PySem PySem.W PyProof PyProof.Rows PySem.Calls
set_option Elab.async false
set_option maxRecDepth 100000
namespace Mine
theorem fset_twice (m : Fm) (x : Str) (v v' : Value) : fset (fset m x v) x v' = fset m x v' := by
  funext y
  simp only [fset]
  by_cases h : y = x <;> simp [h]
section
variable {c : Cx} {m : Fm} {n : Lg} {R : Flow → Fm → Lg → Nat → Prop} {ss : List Stmt}
/-- x[k:] -/
theorem Ev.from {x y : Str} {p1 p2 p3 p4 : Pos} {X : Str} {k : Int} {t u : Tok} (hx : m x = some (.str X t)) (hy : m y = some (.int k u)) (hX : X.length ≤ 1000)
    (hcs : c.cs.kind = .function) (kx : c.env.kindOf x = some .local) (ky : c.env.kindOf y = some .local) (dx : (x == Str.ofString "__debug__") = false) (dy : (y == Str.ofString "__debug__") = false) :
    Ev c m n (.Subscript (.Name x p1) (.Slice (some (.Name y p2)) none none p3) p4) (Vs (Txt.slice X (some k) none)) := by
  intro s Q F N kk
  refine Subscript_ ?_
  refine nameX_L F hx ?_ hcs kx dx
  refine wpAny_Slice ?_
  refine evalPart_some_step ?_
  refine nameX_L F hy ?_ hcs ky dy
  refine evalPart_none_step ?_
  refine evalPart_none_step ?_
  exact slice_strN_sn F N (fun h' t' tk F' N' => kk _ h' tk ⟨_, rfl⟩ F' N') (hsz := by rw [PySem.sizeLine_eq]; omega)
/-- x[:k or None] -/
theorem Ev.cut {x y : Str} {p1 p2 p3 p4 p5 p6 : Pos} {i : Nat} {X : Str} {k : Int} {t u : Tok} (hx : m x = some (.str X t)) (hy : m y = some (.int k u)) (hX : X.length ≤ 1000)
    (hcs : c.cs.kind = .function) (kx : c.env.kindOf x = some .local) (ky : c.env.kindOf y = some .local) (dx : (x == Str.ofString "__debug__") = false) (dy : (y == Str.ofString "__debug__") = false) :
    Ev c m n (.Subscript (.Name x p1) (.Slice none (some (.BoolOp .Or [.Name y p2, .Constant .none i p3] p4)) none p5) p6) (Vs (cut X k)) :=
  fun _ _ F N kk => sl_or F N hx hy hX hcs kx ky dx dy fun h' _ tk F' N' => kk _ h' tk ⟨_, rfl⟩ F' N'
/-- a text's sign -/
theorem Ev.sign {v e : Expr} {p : Pos} {X : Str} {k : Int} (hv : Ev c m n v (Vs X)) (he : Ev c m n e (Vi k)) (h0 : -(X.length : Int) ≤ k) (h1 : k < X.length) (hX : X.length ≤ 1000)
    (hs : ∀ t u, subscripted e false (.str X t) (.int k u) = operate [.str X t, .int k u] (getItem (.str X t) (.int k u))) (ht : ∀ t r, letTemporaryGo v (.str X t) r = pure ()) : Ev c m n (.Subscript v e p) (Vs (Txt.item X k)) :=
  fun s _ F N kk => Subscript_ (hv s _ F N fun _ _ _ hx F N => by
    obtain ⟨t, hx⟩ := hx
    subst hx
    exact he _ _ F N fun _ _ _ hy F N => by
      obtain ⟨u, hy⟩ := hy
      subst hy
      exact item_str (fitsSsize_of (N := 9223372036854775808) (by omega) (by omega) (Int.le_refl _)) h0 h1 (fun _ => kk _ _ _ ⟨_, rfl⟩ F N) (hs t u) (ht t))
/-- while -/
theorem St.while {test : Expr} {body : List Stmt} {p : Pos} (J : Nat → Fm → Lg → Prop) {k₀ : Nat} (h0 : J k₀ m n)
    (turn : ∀ k m1 n1, J k m1 n1 → ∃ B : Bool → Prop, Te c m1 n1 test B ∧ (B true → Bl c m1 n1 body (fun f m2 n2 _ => f = .next ∧ ∃ k', k' < k ∧ J k' m2 n2)) ∧ (B false → ∀ tk, R .next m1 n1 tk)) : St c m n (.While test body [] p) R := by
  intro s Q F N kk
  refine While_inv2 J F N h0 ?_ PassesOwn.never
  intro k m1 n1 h1 tk1 F1 N1 hj
  obtain ⟨B, ht, hb, he⟩ := turn k m1 n1 hj
  refine ht _ _ F1 N1 fun b h tk hB F N => ?_
  cases b with
  | true =>
    show wpAny _ _ _ _ _ _
    refine hb hB _ _ F N fun f m' n' h tk hr F N => ?_
    obtain ⟨rfl, k', hk, hj'⟩ := hr
    exact ⟨h, tk, m', n', k', rfl, F, N, hk, hj'⟩
  | false => exact kk .next m1 n1 h tk (he hB tk) F N
/-- for x in range(e) -/
theorem St.range {x : Str} {px pc pos : Pos} {fe e : Expr} {body : List Stmt} {k : Nat} (J : Nat → Fm → Lg → Prop) (hf : Ev c m n fe (fun r _ => r = .type "range")) (he : Ev c m n e (Vi (k : Int))) (hk : k ≤ 1000000) (hh : c.A.handled = none)
    (hl : c.env.kindOf x = some .local) (hcl : (c.env.scope.kind == ScopeKind.class || c.env.scope.kind == ScopeKind.module && c.env.locals != c.env.globals) = false)
    (hc : eval (fe.Call [e] [] pc) c.env = (do let f ← eval fe c.env; callWith pc f [] (backTo pc (starEach [e] c.env)) (backToKw pc (keywordEach [] c.env)))) (hx : starEach [e] c.env = (false, eval e c.env) :: starEach [] c.env)
    (hs : ∀ v, foldedSetIterable (fe.Call [e] [] pc) c.env v = pure v) (h0 : J 0 m n)
    (turn : ∀ (i : Nat) t m1 n1 own, i < k → n1.map (·.1) = n.map (·.1) → OwnOff own (n.map (·.1)) → J i m1 n1 → Bl c (fset m1 x (.int (i : Int) t)) (n1 ++ own) body (fun f m2 n2 tk => (f = .next ∧ ∃ nx, (∀ p ∈ nx, p ∈ n2) ∧ (∀ p ∈ own, p ∈ n2) ∧ nx.map (·.1) = n.map (·.1) ∧ J (i + 1) m2 nx) ∨ ∃ v, f = .ret v ∧ R (.ret v) m2 n2 tk))
    (done : ∀ m1 n1 tk, J k m1 n1 → R .next m1 n1 tk) : St c m n (.For (.Name x px) (.Call fe [e] [] pc) body [] pos) R := by
  intro s Q F N kk
  refine For_invVF F hl hcl ?_ hs PassesOwn.never
  refine Call_ (hf s _ F N fun f h tk hf F N => ?_) hc
  subst hf
  refine PyProof.Rows.callWith_type1 (args_cons (he _ _ F N fun v h tk hv F N => args_nil ?_) hx) hx
  obtain ⟨t, rfl⟩ := hv
  refine range1_rows F N fun h' tk' t₁ u₁ v₁ hr F N _ => ?_
  have hsz : Builtin.Range.rangeSize 0 (k : Int) 1 = (k : Int) := rangeSize_nat _ _
  refine wpAny_pyIter_range hr (small_one (by omega) (by omega) (by omega) (by omega)) ?_
  have W : Walks c.prog c.w c.A h'.objs.size [h'.objs.size] [h'.objs.size] k (fun i v => i < k ∧ ∃ t, v = .int (0 + i * 1) t)
      (fun i h => IsRangeIter h h'.objs.size (0 + (i : Nat) * 1) ((k : Int) - (i : Nat)) 1) := (Walks.range hh _ 0 1 k).bound
  refine loop_invN J W ?_ ?_ ?_ ?_ (by show IsRangeIter _ _ _ _ _; rw [hsz]; simpa using Heap.get?_push_size _ rfl) (F.push _) (fun p hp => ⟨Heap.get?_push_of_some _ (N p hp).1, (N p hp).2⟩) h0 ?_ ?_
  · intro hm
    exact absurd F.ns.lt ((List.mem_singleton.mp hm) ▸ Nat.lt_irrefl _)
  · intro b hb
    rw [List.mem_singleton.mp hb]
    exact next_is_new F
  · intro p hp hI
    exact absurd (Heap.lt_size (N p hp).1) ((List.mem_singleton.mp hI) ▸ Nat.lt_irrefl _)
  · intro p hp hI
    exact absurd (Heap.lt_size (N p hp).1) ((List.mem_singleton.mp hI) ▸ Nat.lt_irrefl _)
  · rintro i v m₁ nx h2 tk2 own hi ⟨_, t2, rfl⟩ hadr hoff hj F₁ N₁
    have e1 : (0 : Int) + (i : Int) * 1 = (i : Int) := by omega
    rw [e1] at F₁
    refine turn i t2 m₁ nx own hi hadr hoff hj _ _ F₁ N₁ fun f m' n' h3 tk3 hr3 F3 N3 => ?_
    rcases hr3 with ⟨rfl, ny, q1, q2, q3, q4⟩ | ⟨v, rfl, hR⟩
    · exact InvEndN.intro F3 N3 q4 q3 q1 q2
    · exact kk (.ret v) m' n' h3 tk3 hR F3 N3
  · rintro m₁ nx h2 tk2 hj F₁ N₁
    exact kk .next m₁ nx h2 tk2 (done m₁ nx tk2 hj) F₁ N₁
end
/-- a list object -/
noncomputable def IsL (o : Obj) (its : Array Value) : Prop := o.cls = .type "list" ∧ ∃ k, o.data = .seq its k
theorem IsL.at {h₀ h : Heap} {L D : Addr} {n : Lg} {o : Obj} {its : Array Value} (N : News h₀ L h n) (hm : (D, o) ∈ n) (ho : IsL o its) : h.IsList D its := by
  obtain ⟨h1, k, h2⟩ := ho
  first
    | exact ⟨o, (N _ hm).1, h1, k, h2⟩
    | exact ⟨o, (N _ hm).1, h1, ⟨k, h2⟩⟩
section
variable {c : Cx} {m : Fm} {n : Lg} {R : Flow → Fm → Lg → Nat → Prop} {ss : List Stmt}
/-- x += e -/
theorem Bl.aug {x : Str} {e : Expr} {p q : Pos} {i j : Int} {t : Tok} (hv : m x = some (.int i t)) (he : Ev c m n e (Vi j)) (hk : c.cs.kind = .function) (hl : c.env.kindOf x = some .local) (h : ∀ t', Bl c (fset m x (.int (i + j) t')) n ss R) : Bl c m n (.AugAssign (.Name x p) .Add e q :: ss) R :=
  Bl.cons fun s Q F N k => wpAny_AugAssign_Name (wpAny_loadName_local hk hl F.ns hv (he s _ F N fun v hh tk hv F N => by
    obtain ⟨u, rfl⟩ := hv
    exact PyProof.Rows.iadd_int (storeX_L F N (fun h' F' N' => k .next _ n h' _ (h _) F' N') hk hl)))
/-- x -= e -/
theorem Bl.augSub {x : Str} {e : Expr} {p q : Pos} {i j : Int} {t : Tok} (hv : m x = some (.int i t)) (he : Ev c m n e (Vi j)) (hk : c.cs.kind = .function) (hl : c.env.kindOf x = some .local) (h : ∀ t', Bl c (fset m x (.int (i - j) t')) n ss R) : Bl c m n (.AugAssign (.Name x p) .Sub e q :: ss) R :=
  Bl.cons fun s Q F N k => wpAny_AugAssign_Name (wpAny_loadName_local hk hl F.ns hv (he s _ F N fun v hh tk hv F N => by
    obtain ⟨u, rfl⟩ := hv
    exact PySem.P.isub_int (storeX_L F N (fun h' F' N' => k .next _ n h' _ (h _) F' N') hk hl)))
/-- x = y = e -/
theorem Bl.asg2 {x y : Str} {e : Expr} {p1 p2 q : Pos} {P : Value → Nat → Prop} (he : Ev c m n e P) (hk : c.cs.kind = .function) (hl : c.env.kindOf x = some .local) (hl2 : c.env.kindOf y = some .local)
    (ha : List.map (fun x => x.snd) (assignEach [.Name x p1, .Name y p2] c.env) = [assign (.Name x p1) c.env, assign (.Name y p2) c.env]) (hs : swappedStores [.Name x p1, .Name y p2] e c.env = pure Option.none)
    (h : ∀ v tk, P v tk → Bl c (fset (fset m x v) y v) n ss R) : Bl c m n (.Assign [.Name x p1, .Name y p2] e q :: ss) R :=
  Bl.cons fun s Q F N k => wpAny_Assign_two (he s _ F N fun v hh tk hv F N => PyProof.Rows.assign_Name (storeX_L F N (fun h' F' N' => PyProof.Rows.assign_Name (storeX_L F' N' (fun h2 F2 N2 => k .next _ n h2 _ (h v tk hv) F2 N2) hk hl2)) hk hl)) ha hs
/-- x[y], a list's item -/
theorem Ev.at {x y : Str} {p1 p2 p3 : Pos} {D : Addr} {o : Obj} {its : Array Value} {k : Int} {u : Tok} {v : Value} (hx : m x = some (.ref D)) (hy : m y = some (.int k u)) (hm : (D, o) ∈ n) (ho : IsL o its) (h0 : 0 ≤ k) (h1 : k < 1000000) (hv : its[k.toNat]? = some v)
    (hcs : c.cs.kind = .function) (kx : c.env.kindOf x = some .local) (ky : c.env.kindOf y = some .local) (dx : (x == Str.ofString "__debug__") = false) (dy : (y == Str.ofString "__debug__") = false) : Ev c m n (.Subscript (.Name x p1) (.Name y p2) p3) (fun r _ => r = v) := by
  intro s Q F N kk
  refine Subscript_ ?_
  refine nameX_L F hx ?_ hcs kx dx
  refine nameX_L F hy ?_ hcs ky dy
  exact PyProof.Rows.item_list (IsL.at N hm ho) h0 (by omega) hv (kk _ s.heap s.toks rfl F N)
/-- x[y] = z -/
theorem Bl.put {x y z : Str} {p1 p2 p3 p4 q : Pos} {D : Addr} {o : Obj} {its : Array Value} {n₀ : Lg} {k : Int} {u : Tok} {v : Value} (hx : m x = some (.ref D)) (hy : m y = some (.int k u)) (hz : m z = some v) (hn : n = (D, o) :: n₀) (ho : IsL o its) (hne : ∀ p ∈ n₀, p.1 ≠ D)
    (h0 : 0 ≤ k) (h1 : k < its.size) (h2 : k < 1000000) (hcs : c.cs.kind = .function) (kx : c.env.kindOf x = some .local) (ky : c.env.kindOf y = some .local) (kz : c.env.kindOf z = some .local) (dx : (x == Str.ofString "__debug__") = false) (dy : (y == Str.ofString "__debug__") = false) (dz : (z == Str.ofString "__debug__") = false)
    (hs : swapsWith (.Name z p3) (some (.Subscript (.Name x p1) (.Name y p2) p4)) q.line c.env = pure false)
    (h : ∀ o', IsL o' (its.setIfInBounds k.toNat v) → Bl c m ((D, o') :: n₀) ss R) : Bl c m n (.Assign [.Subscript (.Name x p1) (.Name y p2) p4] (.Name z p3) q :: ss) R := by
  subst hn
  refine Bl.cons fun s Q F N kk => wpAny_Assign_Subscript ?_ hs
  refine nameX_L F hz ?_ hcs kz dz
  refine nameX_L F hx ?_ hcs kx dx
  refine nameX_L F hy ?_ hcs ky dy
  have hD := N (D, o) (.head _)
  refine wpAny_setItem_list (IsL.at N (.head _) ho) h0 (by omega) h1 fun h' hl hsb => ?_
  have hl2 := hl
  obtain ⟨o', g1, g2, g3⟩ := hl2
  refine kk .next m ((D, o') :: n₀) h' s.toks (h o' ⟨g2, ?_⟩) (F.change hsb hD.2.1 hD.2.2) ?_
  · first
      | exact g3
      | exact ⟨_, g3.2⟩
  · intro p hp
    rcases List.mem_cons.mp hp with rfl | hp
    · exact ⟨g1, hD.2⟩
    · exact ⟨hsb.extBut _ _ (hne p hp) (N p (.tail _ hp)).1, (N p (.tail _ hp)).2⟩
/-- a call of the text's own def -/
theorem Ev.dcall {K : Frag} {fe e : Expr} {es : List Expr} {f : Addr} {o : Obj} {fd : FuncData} {p : Pos} {Ps : List Value → Nat → Prop} {P : Value → Nat → Prop} (X : K.In c.h₀) (ho : K.lookup f = some o) (hd : o.data = .func fd) (hf : Ev c m n fe (fun r _ => r = .ref f)) (ha : Args c m n p (e :: es) Ps)
    (hcall : ∀ vs t, Ps vs t → Op c m n (call (.ref f) vs) P)
    (hc : eval (fe.Call (e :: es) [] p) c.env = (do let f ← eval fe c.env; callWith p f [] (backTo p (starEach (e :: es) c.env)) (backToKw p (keywordEach [] c.env)))) (hx : starEach (e :: es) c.env = (false, eval e c.env) :: starEach es c.env) : Ev c m n (.Call fe (e :: es) [] p) P :=
  fun s Q F N k => Call_ (hf s _ F N fun r h tk hv F N => by
    subst hv
    exact callWith_def hd (ha _ _ F N fun vs h tk hvs F N => ⟨F.keep _ _ (X _ _ ho), hcall vs tk hvs _ _ F N k⟩) hx) hc
/-- an expression that makes something -/
noncomputable def EvL (c : Cx) (m : Fm) (n : Lg) (e : Expr) (P : Value → Lg → Prop) : Prop :=
  ∀ (s : Shared) (Q : Value → Shared → Prop), Fr c.h₀ c.L s.heap m → News c.h₀ c.L s.heap n → (∀ v n' h tk, P v n' → Fr c.h₀ c.L h m → News c.h₀ c.L h n' → Q v { s with heap := h, toks := tk }) → wpAny c.M c.A (eval e c.env) Q Nv s
theorem Bl.asgL {x : Str} {e : Expr} {p q : Pos} {P : Value → Lg → Prop} (he : EvL c m n e P) (hk : c.cs.kind = .function) (hl : c.env.kindOf x = some .local) (hs : swapsWith e (some (.Name x p)) q.line c.env = pure false)
    (h : ∀ v n', P v n' → Bl c (fset m x v) n' ss R) : Bl c m n (.Assign [.Name x p] e q :: ss) R :=
  Bl.cons fun s Q F N k => wpAny_Assign_Name (he s _ F N fun v n' hh tk hv F N => storeX_L F N (fun h' F' N' => k .next (fset m x v) n' h' _ (h v n' hv) F' N') hk hl) hs
/-- list(range(2, 2 * (k + 1), 2)) -/
theorem EvL.row {fl fr e1 e2 e3 : Expr} {pl pr : Pos} {k : Nat} (hl : Ev c m n fl (fun r _ => r = .type "list")) (hr : Ev c m n fr (fun r _ => r = .type "range")) (h1 : Ev c m n e1 (Vi 2)) (h2 : Ev c m n e2 (Vi (2 * ((k : Int) + 1)))) (h3 : Ev c m n e3 (Vi 2)) (hh : c.A.handled = none) (hz : k ≤ 1000)
    (hc1 : eval (fl.Call [fr.Call [e1, e2, e3] [] pr] [] pl) c.env = (do let f ← eval fl c.env; callWith pl f [] (backTo pl (starEach [fr.Call [e1, e2, e3] [] pr] c.env)) (backToKw pl (keywordEach [] c.env))))
    (hc2 : eval (fr.Call [e1, e2, e3] [] pr) c.env = (do let f ← eval fr c.env; callWith pr f [] (backTo pr (starEach [e1, e2, e3] c.env)) (backToKw pr (keywordEach [] c.env))))
    (hx1 : starEach [e1, e2, e3] c.env = (false, eval e1 c.env) :: starEach [e2, e3] c.env) (hx2 : starEach [e2, e3] c.env = (false, eval e2 c.env) :: starEach [e3] c.env) (hx3 : starEach [e3] c.env = (false, eval e3 c.env) :: starEach [] c.env)
    (hp : ((backTo pr (starEach [e2, e3] c.env)).any fun x => x.1) = false) :
    EvL c m n (fl.Call [fr.Call [e1, e2, e3] [] pr] [] pl) (fun v n' => ∃ D o us, v = .ref D ∧ n' = (D, o) :: n ∧ IsL o (List.toArray us) ∧ (∀ p ∈ n, p.1 ≠ D) ∧ IntsAre us ((List.range k).map fun (i : Nat) => 2 + (i : Int) * 2)) := by
  intro s Q F N kk
  refine Call_ (hl s _ F N fun f h tk hf F N => ?_) hc1
  subst hf
  refine PyProof.Rows.callWith_type1 (args_cons ?_ rfl) rfl
  refine Call_ (hr _ _ F N fun f h tk hf F N => ?_) hc2
  subst hf
  refine PyProof.Rows.callWith_type1 (args_cons (h1 _ _ F N fun v h tk hv F N => args_cons (h2 _ _ F N fun v2 h tk hv2 F N => args_cons (h3 _ _ F N fun v3 h tk hv3 F N => args_nil ?_) hx3) hx2) hx1) hx1 hp
  obtain ⟨t1, rfl⟩ := hv
  obtain ⟨t2, rfl⟩ := hv2
  obtain ⟨t3, rfl⟩ := hv3
  refine range3_rows F N (by decide) (fun h' tk' t₁ u₁ v₁ hr F N _ => ?_) (.inl (noPylong_of_log2 (by decide)))
  refine args_nil ?_
  refine list_range2 hh F N hr rfl (by omega) fun D us cp h2 tk2 F2 N2 hD hI => ?_
  exact kk _ _ h2 tk2 ⟨D, _, us, rfl, rfl, ⟨rfl, _, rfl⟩, fun p hp => Nat.ne_of_lt (hD p hp), hI⟩ F2 N2
end
section
variable {c : Cx} {m : Fm} {n : Lg}
theorem Ev.len {fe e : Expr} {p : Pos} {x : Str} (hf : Ev c m n fe (fun r _ => r = .builtin "len")) (he : Ev c m n e (Vs x)) (hx : x.length ≤ 100000)
    (hc : eval (fe.Call [e] [] p) c.env = (do let f ← eval fe c.env; callWith p f [] (backTo p (starEach [e] c.env)) (backToKw p (keywordEach [] c.env)))) (h1 : starEach [e] c.env = (false, eval e c.env) :: starEach [] c.env) : Ev c m n (.Call fe [e] [] p) (Vn x.length) :=
  Ev.bcall hf (Args.one he h1) (fun vs t hv => by obtain ⟨a, u, rfl, t2, rfl⟩ := hv; exact Op.lenS hx) hc h1 rfl
theorem Ev.min {fe e1 e2 : Expr} {p : Pos} {i j : Int} (hf : Ev c m n fe (fun r _ => r = .builtin "min")) (h1 : Ev c m n e1 (Vi i)) (h2 : Ev c m n e2 (Vi j)) (hh : c.A.handled = none)
    (hc : eval (fe.Call [e1, e2] [] p) c.env = (do let f ← eval fe c.env; callWith p f [] (backTo p (starEach [e1, e2] c.env)) (backToKw p (keywordEach [] c.env)))) (hx1 : starEach [e1, e2] c.env = (false, eval e1 c.env) :: starEach [e2] c.env) (hx2 : starEach [e2] c.env = (false, eval e2 c.env) :: starEach [] c.env)
    (hp : ((backTo p (starEach [e2] c.env)).any fun x => x.1) = false) : Ev c m n (.Call fe [e1, e2] [] p) (Vi (if j < i then j else i)) :=
  Ev.bcall hf (Args.two h1 h2 hx1 hx2) (fun vs t hv => by obtain ⟨a, b, t1, t2, rfl, ⟨u1, rfl⟩, ⟨u2, rfl⟩⟩ := hv; exact Op.min2 hh) hc hx1 hp
end
theorem cut_cp {X : Str} {k : Int} (h0 : k ≤ 0) (h1 : -k ≤ X.length) : cp (cut X k) = (cp X).take (X.length + k).toNat := by
  unfold cut
  split
  · next e => subst e; rw [List.take_of_length_le (by rw [cp_len]; omega)]
  · next e => exact sl_to_neg (by omega) (by omega)
theorem cut_len {X : Str} {k : Int} (h0 : k ≤ 0) (h1 : -k ≤ X.length) : ((cut X k).length : Int) = X.length + k := by
  rw [← cp_len, cut_cp h0 h1, List.length_take, cp_len]; omega
theorem from_len {X : Str} {k : Int} (h0 : 0 ≤ k) (h1 : k ≤ X.length) : ((Txt.slice X (some k) none).length : Int) = X.length - k := by
  rw [← cp_len, sl_from h0 h1, List.length_drop, cp_len]; omega
theorem Op.toI {c : Cx} {m : Fm} {n : Lg} {e : Expr} {i : Int} {t : Tok} (h : Ev c m n e (fun r _ => r = .int i t)) : Ev c m n e (Vi i) := h.mono fun _ _ q => ⟨t, q⟩
theorem fset_self {m : Fm} {x : Str} {v : Value} (h : m x = some v) : fset m x v = m := by
  funext y
  simp only [fset]
  by_cases e : y = x
  · subst e; simp [h]
  · simp [e]
theorem Ev.fmod {c : Cx} {m : Fm} {n : Lg} {l r : Expr} {p : Pos} {i j : Int} (ha : Ev c m n l (Vi i)) (hb : Ev c m n r (Vi j)) (hj : j ≠ 0) : Ev c m n (.BinOp l .Mod r p) (Vi (i.fmod j)) :=
  Ev.bin ha hb fun _ _ _ _ ⟨_, ex⟩ ⟨_, ey⟩ => by subst ex ey; exact fun s _ F N k => PyProof.Rows.mod_int' hj (k _ s.heap _ ⟨_, rfl⟩ F N)
/-- x sought in y -/
noncomputable def within (y x : Str) : Bool := !(Builtin.Str.occurrences y x 0 y.length 1).isEmpty
section
variable {c : Cx} {m : Fm} {n : Lg} {R : Flow → Fm → Lg → Nat → Prop} {ss : List Stmt}
theorem Te.inS {l r : Expr} {p : Pos} {x y : Str} (ha : Ev c m n l (Vs x)) (hb : Ev c m n r (Vs y)) (hm : behindInMarks .In r = false) : Te c m n (.Compare l [.In] [r] p) (fun b => b = within y x) :=
  Te.cmp ha hb hm fun _ _ _ _ ⟨_, ex⟩ ⟨_, ey⟩ => by subst ex ey; exact fun s _ F N k => PyProof.Rows.in_str (k _ s.heap s.toks ⟨_, rfl, rfl⟩ F N)
theorem Te.notInS {l r : Expr} {p : Pos} {x y : Str} (ha : Ev c m n l (Vs x)) (hb : Ev c m n r (Vs y)) (hm : behindInMarks .NotIn r = false) : Te c m n (.Compare l [.NotIn] [r] p) (fun b => b = !(within y x)) :=
  Te.cmp ha hb hm fun _ _ _ _ ⟨_, ex⟩ ⟨_, ey⟩ => by subst ex ey; exact fun s _ F N k => PyProof.Rows.notIn_str (k _ s.heap s.toks ⟨_, rfl, rfl⟩ F N)
/-- a bool's name as a test -/
theorem Te.boolN {e : Expr} {b₀ : Bool} (ha : Ev c m n e (Vb b₀)) (hp : PySem.isTrue e c.env (eval e c.env) = (do let v ← eval e c.env; standAt e.pos; holding [v] (truthy v))) : Te c m n e (fun b => b = b₀) :=
  Te.plain ha (fun _ _ ex => by have ex : _ = Value.bool b₀ := ex; subst ex; exact fun s _ F N k => (fun _ _ _ => k b₀ s.heap s.toks rfl F N)) hp
/-- i <= e < j -/
theorem Te.between {l e r : Expr} {p : Pos} {i k j : Int} (h1 : Ev c m n l (Vi i)) (h2 : Ev c m n e (Vi k)) (h3 : Ev c m n r (Vi j)) (hm : lastMarks [CmpOp.LtE, CmpOp.Lt] [e, r] = false) : Te c m n (.Compare l [.LtE, .Lt] [e, r] p) (fun b => b = (decide (i ≤ k) && decide (k < j))) := by
  intro s Q F N kk
  refine PyProof.Rows.isTrue_chain (h1 s _ F N fun v h tk hv F N => ?_) hm
  obtain ⟨t, rfl⟩ := hv
  refine test_link (h2 _ _ F N fun v h tk hv F N => ?_)
  obtain ⟨t2, rfl⟩ := hv
  refine PyProof.Rows.le_int ?_
  refine (fun _ _ _ => ?_ : wpAny c.M c.A (truthy (.bool (decide (i ≤ k)))) _ Nv _)
  by_cases e : i ≤ k
  · rw [decide_eq_true e]
    refine test_last (h3 _ _ F N fun v h tk hv F N => ?_)
    obtain ⟨t3, rfl⟩ := hv
    refine PyProof.Rows.lt_int ?_
    exact (fun _ _ _ => kk _ h tk (by simp [e]) F N : wpAny c.M c.A (truthy (.bool (decide (k < j)))) _ Nv _)
  · rw [decide_eq_false e]
    exact kk _ h tk (by simp [e]) F N
theorem Ev.ifexp {t b e : Expr} {p : Pos} {B : Bool → Prop} {P : Value → Nat → Prop} (ht : Te c m n t B) (h1 : B true → Ev c m n b P) (h2 : B false → Ev c m n e P) : Ev c m n (.IfExp t b e p) P :=
  fun s Q F N k => IfExp_ (ht s _ F N fun x h tk hx F N => by
    cases x with
    | true => exact h1 hx _ _ F N k
    | false => exact h2 hx _ _ F N k)
theorem Ev.ord {fe e : Expr} {p : Pos} {d : Nat} (hf : Ev c m n fe (fun r _ => r = .builtin "ord")) (he : Ev c m n e (Vs ⟨#[d]⟩))
    (hc : eval (fe.Call [e] [] p) c.env = (do let f ← eval fe c.env; callWith p f [] (backTo p (starEach [e] c.env)) (backToKw p (keywordEach [] c.env)))) (h1 : starEach [e] c.env = (false, eval e c.env) :: starEach [] c.env) : Ev c m n (.Call fe [e] [] p) (Vi (d : Int)) :=
  Ev.bcall hf (Args.one he h1) (fun vs t hv => by obtain ⟨a, u, rfl, t2, rfl⟩ := hv; exact fun s _ F N k => PySem.P.ord_of_char (k _ s.heap _ ⟨_, rfl⟩ F N)) hc h1 rfl
/-- x += e, texts -/
theorem Bl.augS {x : Str} {e : Expr} {p q : Pos} {a b : Str} {t : Tok} (hv : m x = some (.str a t)) (he : Ev c m n e (Vs b)) (hz : a.length + b.length ≤ 16777216) (hk : c.cs.kind = .function) (hl : c.env.kindOf x = some .local) (h : ∀ t', Bl c (fset m x (.str (a ++ b) t')) n ss R) : Bl c m n (.AugAssign (.Name x p) .Add e q :: ss) R :=
  Bl.cons fun s Q F N k => wpAny_AugAssign_Name (wpAny_loadName_local hk hl F.ns hv (he s _ F N fun v hh tk hv F N => by
    obtain ⟨u, rfl⟩ := hv
    exact PyProof.Rows.iadd_str (fun t' tk' => storeX_L F N (fun h' F' N' => k .next _ n h' _ (h _) F' N') hk hl) (by rw [PySem.sizeLine_eq]; exact hz)))
/-- for x in a text -/
theorem St.signs {x : Str} {px pos : Pos} {e : Expr} {body : List Stmt} {T : Str} (J : Nat → Fm → Lg → Prop) (he : Ev c m n e (Vs T)) (hh : c.A.handled = none)
    (hl : c.env.kindOf x = some .local) (hcl : (c.env.scope.kind == ScopeKind.class || c.env.scope.kind == ScopeKind.module && c.env.locals != c.env.globals) = false) (hs : ∀ v, foldedSetIterable e c.env v = pure v) (h0 : J 0 m n)
    (turn : ∀ (i : Nat) d t m1 n1 own, (cp T)[i]? = some d → n1.map (·.1) = n.map (·.1) → OwnOff own (n.map (·.1)) → J i m1 n1 → Bl c (fset m1 x (.str ⟨#[d]⟩ t)) (n1 ++ own) body (fun f m2 n2 _ => f = .next ∧ ∃ nx, (∀ p ∈ nx, p ∈ n2) ∧ (∀ p ∈ own, p ∈ n2) ∧ nx.map (·.1) = n.map (·.1) ∧ J (i + 1) m2 nx))
    (done : ∀ m1 n1 tk, J T.length m1 n1 → R .next m1 n1 tk) : St c m n (.For (.Name x px) e body [] pos) R := by
  intro s Q F N kk
  refine For_invVF F hl hcl ?_ hs PassesOwn.never
  refine he _ _ F N fun v h tk hv F N => ?_
  obtain ⟨t, rfl⟩ := hv
  cases ha : T.cps.all (· < 128)
  · skip
    refine wpAny_pyIter_wide ha ?_
    have W := Walks.strWide (prog := c.prog) (w := c.w) hh h.objs.size T t
    refine loop_invN J W ?_ ?_ ?_ ?_ ⟨_, Heap.get?_push_size _ rfl, rfl, rfl⟩ (F.push _) (fun p hp => ⟨Heap.get?_push_of_some _ (N p hp).1, (N p hp).2⟩) h0 ?_ ?_
    · intro hm
      exact absurd F.ns.lt ((List.mem_singleton.mp hm) ▸ Nat.lt_irrefl _)
    · intro b hb
      rw [List.mem_singleton.mp hb]
      exact next_is_new F
    · intro p hp hI
      exact absurd (Heap.lt_size (N p hp).1) ((List.mem_singleton.mp hI) ▸ Nat.lt_irrefl _)
    · intro p hp hI
      exact absurd (Heap.lt_size (N p hp).1) ((List.mem_singleton.mp hI) ▸ Nat.lt_irrefl _)
    · rintro i v m₁ nx h2 tk2 own hi hv hadr hoff hj F₁ N₁
      obtain ⟨d, t2, hd, rfl⟩ := hv
      refine turn i d t2 m₁ nx own (by simpa [cp] using hd) hadr hoff hj _ _ F₁ N₁ fun f m' n' h3 tk3 hr3 F3 N3 => ?_
      obtain ⟨rfl, ny, q1, q2, q3, q4⟩ := hr3
      exact InvEndN.intro F3 N3 q4 q3 q1 q2
    · rintro m₁ nx h2 tk2 hj F₁ N₁
      exact kk .next m₁ nx h2 tk2 (done m₁ nx tk2 hj) F₁ N₁
  · skip
    refine wpAny_pyIter_ascii ha ?_
    have W := Walks.strAscii (prog := c.prog) (w := c.w) hh h.objs.size T t
    refine loop_invN J W ?_ ?_ ?_ ?_ ⟨_, Heap.get?_push_size _ rfl, rfl, rfl⟩ (F.push _) (fun p hp => ⟨Heap.get?_push_of_some _ (N p hp).1, (N p hp).2⟩) h0 ?_ ?_
    · intro hm
      exact absurd F.ns.lt ((List.mem_singleton.mp hm) ▸ Nat.lt_irrefl _)
    · intro b hb
      rw [List.mem_singleton.mp hb]
      exact next_is_new F
    · intro p hp hI
      exact absurd (Heap.lt_size (N p hp).1) ((List.mem_singleton.mp hI) ▸ Nat.lt_irrefl _)
    · intro p hp hI
      exact absurd (Heap.lt_size (N p hp).1) ((List.mem_singleton.mp hI) ▸ Nat.lt_irrefl _)
    · rintro i v m₁ nx h2 tk2 own hi hv hadr hoff hj F₁ N₁
      obtain ⟨d, t2, hd, rfl⟩ := hv
      refine turn i d t2 m₁ nx own (by simpa [cp] using hd) hadr hoff hj _ _ F₁ N₁ fun f m' n' h3 tk3 hr3 F3 N3 => ?_
      obtain ⟨rfl, ny, q1, q2, q3, q4⟩ := hr3
      exact InvEndN.intro F3 N3 q4 q3 q1 q2
    · rintro m₁ nx h2 tk2 hj F₁ N₁
      exact kk .next m₁ nx h2 tk2 (done m₁ nx tk2 hj) F₁ N₁
end
end Mine
end
section
local macro_rules | `(tactic| omega) => `(tactic| lia)
open PySem PySem.W PyProof PyProof.Rows
set_option Elab.async false
set_option maxRecDepth 100000
set_option maxHeartbeats 100000000
namespace Mine
section
variable {c : Cx} {m : Fm} {n : Lg} {R : Flow → Fm → Lg → Nat → Prop} {ss : List Stmt}
/-- a name that a nested def reads -/
theorem Ev.cell {x : Str} {p : Pos} {D : Addr} {o : Obj} {v : Value} (hc : c.cl.lookup x = some D) (hm : (D, o) ∈ n) (hd : o.data = .cell (some v)) (hk : c.cs.kind = .function) (hx : c.env.kindOf x = some .cell) (hb : (x == Str.ofString "__debug__") = false) : Ev c m n (.Name x p) (fun r _ => r = v) :=
  fun s _ F N k => nameX_C N hc hm hd (k v s.heap s.toks rfl F N) hk hx hb
theorem Bl.asgC {x : Str} {e : Expr} {p q : Pos} {P : Value → Nat → Prop} {D : Addr} {o : Obj} {v₀ : Option Value} {g : Obj → Lg} (he : Ev c m n e P) (hc : c.cl.lookup x = some D) (U : UpdF D o n g) (hd : o.data = .cell v₀) (hk : c.cs.kind = .function) (hl : c.env.kindOf x = some .cell) (hs : swapsWith e (some (.Name x p)) q.line c.env = pure false)
    (h : ∀ v tk o', P v tk → o'.data = .cell (some v) → Bl c m (g o') ss R) : Bl c m n (.Assign [.Name x p] e q :: ss) R :=
  Bl.cons fun s Q F N k => wpAny_Assign_Name (he s _ F N fun v hh tk hv F N => storeX_C F N hc U hd (fun h' o' F' N' hd' => k .next m (g o') h' _ (h v tk o' hv hd') F' N') hk hl) hs
theorem Ev.sliceTo {v e : Expr} {p3 p4 : Pos} {X : Str} {k : Int} (hv : Ev c m n v (Vs X)) (he : Ev c m n e (Vi k)) (hX : X.length ≤ 1000)
    (ht : ∀ t r, letTemporaryGo v (.str X t) r = pure ()) :
    Ev c m n (.Subscript v (.Slice Option.none (some e) Option.none p3) p4) (Vs (Txt.slice X Option.none (some k))) :=
  fun s _ F N kk => Subscript_ (hv s _ F N fun _ _ _ hx F N => by
    obtain ⟨t, hx⟩ := hx
    subst hx
    refine wpAny_Slice (evalPart_none_step (evalPart_some_step (he _ _ F N fun _ _ _ hy F N => ?_)))
    obtain ⟨u, rfl⟩ := hy
    refine evalPart_none_step ?_
    exact slice_strN_ns F N (fun h' t' tk F' N' => kk _ h' tk ⟨_, rfl⟩ F' N') (hsz := by rw [PySem.sizeLine_eq]; omega) (ht := fun r => ht _ r))
theorem Ev.sliceFrom {v e : Expr} {p3 p4 : Pos} {X : Str} {k : Int} (hv : Ev c m n v (Vs X)) (he : Ev c m n e (Vi k)) (hX : X.length ≤ 1000)
    (ht : ∀ t r, letTemporaryGo v (.str X t) r = pure ()) :
    Ev c m n (.Subscript v (.Slice (some e) Option.none Option.none p3) p4) (Vs (Txt.slice X (some k) Option.none)) :=
  fun s _ F N kk => Subscript_ (hv s _ F N fun _ _ _ hx F N => by
    obtain ⟨t, hx⟩ := hx
    subst hx
    refine wpAny_Slice (evalPart_some_step (he _ _ F N fun _ _ _ hy F N => ?_))
    obtain ⟨u, rfl⟩ := hy
    refine evalPart_none_step (evalPart_none_step ?_)
    exact slice_strN_sn F N (fun h' t' tk F' N' => kk _ h' tk ⟨_, rfl⟩ F' N') (hsz := by rw [PySem.sizeLine_eq]; omega) (ht := fun r => ht _ r))
end
end Mine
end
section
local macro_rules | `(tactic| omega) => `(tactic| lia)
open PySem PySem.W PyProof PyProof.Rows
set_option Elab.async false
set_option maxRecDepth 100000
set_option maxHeartbeats 100000000
set_option rowWalk.seconds 0
namespace Mine
noncomputable def repS (f : Nat) (k : Int) : Str := ⟨(List.replicate k.toNat f).toArray⟩
theorem repS_cp (f : Nat) (k : Int) : cp (repS f k) = List.replicate k.toNat f := by simp [repS, cp]
section
variable {c : Cx} {m : Fm} {n : Lg}
theorem Ev.smul1 {l r : Expr} {p : Pos} {f : Nat} {k : Int} (ha : Ev c m n l (Vs ⟨#[f]⟩)) (hb : Ev c m n r (Vi k)) (h0 : 0 ≤ k) (h1 : k ≤ 1000) : Ev c m n (.BinOp l .Mult r p) (Vs (repS f k)) :=
  Ev.bin ha hb fun _ _ _ _ ⟨_, ex⟩ ⟨_, ey⟩ => by
    subst ex ey
    exact fun s _ F N kk => mul_one h0 h1 fun S t' k' hS _ => by
      rw [show S = repS f k from cp_inj (by rw [hS, repS_cp])]
      exact kk _ s.heap k' ⟨_, rfl⟩ F N
end
local macro_rules | `(tactic| walk_at "ev") => `(tactic| first
  | exact Ev.locI (by rfl) (by rfl) (by rfl) (by rfl)
  | exact Ev.locS (by rfl) (by rfl) (by rfl) (by rfl)
  | exact Ev.vi Ev.kint
  | exact Ev.kstr
  | exact Ev.vi (Ev.sub (by walk_at "ev") (by walk_at "ev"))
  | exact Ev.vi (Ev.add (by walk_at "ev") (by walk_at "ev"))
  | exact Ev.fdiv (by walk_at "ev") (by walk_at "ev") (by decide) (noPylong_of_log2 (by decide)))
theorem cell_claim2 (w : World) (x : Str) (f a : Nat) (room : Int) (hx : x.length ≤ 1000) (ha : a ∈ [60, 62, 94]) (h0 : 0 ≤ room) (h3 : room ≤ 3) (tx tf ta tr : Tok) : Claim w 1 141 [.str x tx, .str ⟨#[f]⟩ tf, .str ⟨#[a]⟩ ta, .int room tr] (fun r => ∃ t S, r = .str S t ∧ cp S = cellL (cp x) f a room.toNat) := by
  k_with_none
  unfold Claim
  k_fill
  intro p loose mean mg mb dp un gd cn cs a' ccd cl outer A₀ base h₀ L m news s Q E B F X N T hk hdp hun hret
  refine wpAny_call ?_
  k_dflt cell_enter
  rename Fr _ _ _ _ => F1
  have F2 := fr_frl (l' := [(Str.ofString "room", Value.int room tr), (Str.ofString "side", Value.str ⟨#[a]⟩ ta), (Str.ofString "filler", Value.str ⟨#[f]⟩ tf), (Str.ofString "text", Value.str x tx)]) F1 (by rfl)
  clear F1
  refine Bl.enter (Ret news (fun r _ => ∃ t S, r = .str S t ∧ cp S = cellL (cp x) f a room.toNat)) F2 (by assumption) ?_ ?_
  focus
    refine Bl.iff (Te.eqS (Ev.locS rfl rfl rfl (by decide)) Ev.kstr rfl) ?_ ?_
    · intro e
      refine Bl.retT (Ev.cat (Ev.locS rfl rfl rfl (by decide)) (Ev.smul1 (Ev.locS rfl rfl rfl (by decide)) (Ev.locI rfl rfl rfl (by decide)) h0 (by omega)) ?_) ?_ fun _ hp => hp
      · show x.length + (repS f room).length ≤ _
        rw [← cp_len (repS f room), repS_cp, List.length_replicate]; omega
      · rintro v tk ⟨t, rfl⟩
        exact ⟨t, _, rfl, cell_a e.symm (repS_cp f room)⟩
    intro e
    refine Bl.iff (Te.eqS (Ev.locS rfl rfl rfl (by decide)) Ev.kstr rfl) ?_ ?_
    · intro e2
      refine Bl.retT (Ev.cat (Ev.smul1 (Ev.locS rfl rfl rfl (by decide)) (Ev.locI rfl rfl rfl (by decide)) h0 (by omega)) (Ev.locS rfl rfl rfl (by decide)) ?_) ?_ fun _ hp => hp
      · show (repS f room).length + x.length ≤ _
        rw [← cp_len (repS f room), repS_cp, List.length_replicate]; omega
      · rintro v tk ⟨t, rfl⟩
        exact ⟨t, _, rfl, cell_b e2.symm (repS_cp f room)⟩
    intro e2
    obtain ⟨hd1, hd2, hd3⟩ : (0 : Int) ≤ room.fdiv 2 ∧ room.fdiv 2 ≤ 3 ∧ room.fdiv 2 ≤ room := by rw [fdiv2 h0]; omega
    refine Bl.retR (Ev.cat (Ev.cat (Ev.smul1 (Ev.locS rfl rfl rfl (by decide)) (Ev.fdiv (Ev.locI rfl rfl rfl (by decide)) (Ev.vi Ev.kint) (by decide) (noPylong_of_log2 (by decide))) hd1 (by omega)) (Ev.locS rfl rfl rfl (by decide)) ?_)
      (Ev.smul1 (Ev.locS rfl rfl rfl (by decide)) (Ev.vi (Ev.sub (Ev.locI rfl rfl rfl (by decide)) (Ev.fdiv (Ev.locI rfl rfl rfl (by decide)) (Ev.vi Ev.kint) (by decide) (noPylong_of_log2 (by decide))))) (by omega) (by omega)) ?_) ?_ fun _ hp => hp
    · rw [← cp_len (repS f _), repS_cp, List.length_replicate]; omega
    · rw [Str.length_append, ← cp_len (repS f _), repS_cp, List.length_replicate, ← cp_len (repS f _), repS_cp, List.length_replicate]; omega
    · rintro v tk ⟨t, rfl⟩
      exact ⟨t, _, rfl, cell_c ha h0 e.symm e2.symm (repS_cp f _) (repS_cp f _)⟩
  rintro _ m' n' h tk ⟨v, rfl, hP, hn⟩ Fe Ne
  exact leaveK_ Fe (news_sub Ne hn) fun kF kN => hret _ _ _ hP kF kN
end Mine
end
section
local macro_rules | `(tactic| omega) => `(tactic| lia)
open PySem PySem.W PyProof PyProof.Rows
set_option Elab.async false
set_option maxRecDepth 100000
set_option maxHeartbeats 100000000
set_option rowWalk.seconds 0
namespace Mine
theorem fig_one {c co : Int} {i : Nat} {F : Str} (h1 : co = ((c.toNat / 16 ^ i : Nat) : Int)) (h2 : cp F = low c.toNat i) (h3 : F.length = i) :
    co.fdiv 16 = ((c.toNat / 16 ^ (i + 1) : Nat) : Int) ∧ cp (Txt.item (Str.ofString "0123456789abcdef") (co.fmod 16) ++ F) = low c.toNat (i + 1) ∧ (Txt.item (Str.ofString "0123456789abcdef") (co.fmod 16) ++ F).length = i + 1 := by
  have h := fig_step (c := c) (co := co) (pre := List.replicate i 0) (k := 0) (F := F) (by rw [List.length_replicate]; exact h1) (by rw [List.length_replicate]; exact h2) (by rw [List.length_replicate]; exact h3)
  rw [List.length_append, List.length_replicate] at h
  exact h
inductive Fg (c : Int) (n₀ : Lg) (i : Nat) (m : Fm) (n : Lg) : Prop
  | mk (co : Int) (F : Str) (t u : Tok) (en : n₀ = n) (f1 : m (Str.ofString "code") = some (.int co t)) (f2 : m (Str.ofString "figures") = some (.str F u)) (h1 : co = ((c.toNat / 16 ^ i : Nat) : Int)) (h2 : cp F = low c.toNat i) (h3 : F.length = i) : Fg c n₀ i m n
theorem figs_claim2 (w : World) (co k : Int) (hc : 0 ≤ co) (hc' : co < 65536) (hk0 : 0 ≤ k) (hk8 : k ≤ 8) (tc ts : Tok) : Claim w 1 127 [.int co tc, .int k ts] (fun r => ∃ t S, r = .str S t ∧ cp S = low co.toNat k.toNat ∧ S.length = k.toNat) := by
  k_with_none
  unfold Claim
  k_fill
  intro p loose mean mg mb dp un gd cn cs a ccd cl outer A₀ base h₀ L m news s Q E B F X N T hk hdp hun hret
  refine wpAny_call ?_
  k_dflt cell_enter
  rename Fr _ _ _ _ => F1
  have F2 := fr_frl (l' := [(Str.ofString "size", Value.int k ts), (Str.ofString "code", Value.int co tc)]) F1 (by rfl)
  clear F1
  rename News _ _ _ _ => N2
  rename Frag.In _ _ => X2
  rename Top _ _ _ _ _ _ => T2
  have T3 := topRead_of T2
  have lit : (Str.ofString "0123456789abcdef").length = 16 := by decide +kernel
  refine Bl.enter (Ret news (fun r _ => ∃ t S, r = .str S t ∧ cp S = low co.toNat k.toNat ∧ S.length = k.toNat)) F2 N2 ?_ ?_
  rotate_left
  · rintro _ m' n' h tk ⟨v, rfl, hP, hn⟩ Fe Ne
    exact leaveK_ Fe (news_sub Ne hn) fun kF kN => hret _ _ _ hP kF kN
  have hkn : ((k.toNat : Nat) : Int) = k := by omega
  refine Bl.asg Ev.kstr rfl rfl rfl ?_
  rintro _ _ ⟨tf, rfl⟩
  refine Bl.cut (R1 := fun f m' n' _ => f = .next ∧ Fg co news k.toNat m' n')
    (St.range (k := k.toNat) (Fg co news) (Ev.built X2 T3 (by k_is) (by boot_by_name) (by decide) rfl rfl (by decide)) (by rw [hkn]; exact Ev.locI rfl rfl rfl (by decide)) (by omega) rfl rfl rfl rfl rfl (fun _ => rfl) ?_ ?_ ?_) ?_
  · exact ⟨co, _, tc, tf, rfl, rfl, rfl, by simp only [Nat.pow_zero, Nat.div_one]; omega, (by decide +kernel : cp (Str.ofString "") = []), by decide +kernel⟩
  · rintro i ti m1 n1 own hi hadr hoff ⟨c1, F, t, u, rfl, f1, f2, h1, h2, h3⟩
    have b0 : 0 ≤ c1.fmod 16 := Int.fmod_nonneg_of_pos c1 (by decide)
    have b1 : c1.fmod 16 < 16 := Int.fmod_lt_of_pos c1 (by decide)
    obtain ⟨g1, g2, g3⟩ := fig_one h1 h2 h3
    refine Bl.asg (Ev.cat (Ev.sign Ev.kstr (Ev.fmod (Ev.locI f1 rfl rfl (by decide)) (Ev.vi Ev.kint) (by decide)) (by omega) (by rw [lit]; exact b1) (by rw [lit]; omega) (fun _ _ => rfl) (fun _ _ => rfl)) (Ev.locS f2 rfl rfl (by decide)) (by rw [it_len, h3]; omega)) rfl rfl rfl ?_
    rintro _ _ ⟨u2, rfl⟩
    refine Bl.asg (Ev.fdiv (Ev.locI f1 rfl rfl (by decide)) (Ev.vi Ev.kint) (by decide) (noPylong_of_log2 (by decide))) rfl rfl rfl ?_
    rintro _ _ ⟨t2, rfl⟩
    exact Bl.nil fun _ => .inl ⟨rfl, news, fun p hp => List.mem_append_left _ hp, fun p hp => List.mem_append_right _ hp, rfl, _, _, t2, u2, rfl, rfl, rfl, g1, g2, g3⟩
  · exact fun m1 n1 tk h => ⟨rfl, h⟩
  rintro _ m' n' tk ⟨rfl, c1, F, t, u, rfl, f1, f2, h1, h2, h3⟩
  show Bl _ _ _ _ _
  refine Bl.retR (Ev.locS f2 rfl rfl (by decide)) ?_ fun _ hp => hp
  rintro v tk ⟨t, rfl⟩
  exact ⟨t, F, rfl, h2, h3⟩
theorem Bl.last {c : Cx} {m : Fm} {n : Lg} {st : Stmt} {R : Flow → Fm → Lg → Nat → Prop} (hR : ∀ m' n' tk tk', R .next m' n' tk → R .next m' n' tk') (h : St c m n st R) : Bl c m n [st] R := Bl.cons (h.mono fun f m' n' tk hr => match f, hr with
  | .next, hr => fun s Q F N k => wpAny_execs_nil (k .next m' n' s.heap s.toks (hR m' n' tk s.toks hr) F N)
  | .brk, hr => hr
  | .cont, hr => hr
  | .ret _, hr => hr)
theorem str_of {S : Str} {l : List Nat} (h : cp S = l) : S = ⟨l.toArray⟩ := by
  cases S with
  | mk a => subst h; rfl
theorem cp_of (l : List Nat) : cp ⟨l.toArray⟩ = l := rfl
theorem e92 : (Str.ofString "\\").length = 1 := by decide +kernel
theorem e92x : (Str.ofString "\\x").length = 2 := by decide +kernel
theorem e92u : (Str.ofString "\\u").length = 2 := by decide +kernel
/-- the text so far -/
inductive Wi (x : Str) (nw : Bool) (q : Nat) (n₀ : Lg) (i : Nat) (m : Fm) (n : Lg) : Prop
  | mk (W : Str) (t u : Tok) (en : n₀ = n) (fa : m (Str.ofString "around") = some (.str ⟨#[q]⟩ u)) (fn : m (Str.ofString "narrow") = some (.bool nw)) (fw : m (Str.ofString "written") = some (.str W t)) (h1 : cp W = q :: ((cp x).take i).flatMap (wr q nw)) (h2 : W.length ≤ 1 + 6 * i) : Wi x nw q n₀ i m n
theorem st_one {W T x : Str} {q d i : Nat} {nw : Bool} (hd : (cp x)[i]? = some d) (h1 : cp W = q :: ((cp x).take i).flatMap (wr q nw)) (h2 : W.length ≤ 1 + 6 * i) (hT : cp T = wr q nw d) :
    cp (W ++ T) = q :: ((cp x).take (i + 1)).flatMap (wr q nw) ∧ (W ++ T).length ≤ 1 + 6 * (i + 1) := by
  have hl : T.length ≤ 6 := by rw [← cp_len, hT]; exact wr_len _ _ _
  refine ⟨?_, ?_⟩
  · rw [cp_app, h1, hT, List.take_add_one, hd]; simp
  · rw [Str.length_append]; omega
theorem T_len {T : Str} {q d : Nat} {nw : Bool} (hT : cp T = wr q nw d) : T.length ≤ 6 := by rw [← cp_len, hT]; exact wr_len _ _ _
theorem fin_one {c : Cx} {x : Str} {nw : Bool} {q i d : Nat} {m1 : Fm} {news own : Lg} {t tw ua : Tok} {W T : Str} {e : Expr} {p1 p2 : Pos} (hd : (cp x)[i]? = some d) (hi : i < 64) (h1 : cp W = q :: ((cp x).take i).flatMap (wr q nw)) (h2 : W.length ≤ 1 + 6 * i)
    (fa : m1 (Str.ofString "around") = some (.str ⟨#[q]⟩ ua)) (fn : m1 (Str.ofString "narrow") = some (.bool nw)) (fw : m1 (Str.ofString "written") = some (.str W tw)) (hk : c.cs.kind = .function) (hl : c.env.kindOf (Str.ofString "written") = some .local)
    (hT : cp T = wr q nw d) (he : Ev c (fset m1 (Str.ofString "sign") (.str ⟨#[d]⟩ t)) (news ++ own) e (Vs T)) :
    Bl c (fset m1 (Str.ofString "sign") (.str ⟨#[d]⟩ t)) (news ++ own) [.AugAssign (.Name (Str.ofString "written") p1) .Add e p2] (fun f m2 n2 _ => f = .next ∧ ∃ nx, (∀ p ∈ nx, p ∈ n2) ∧ (∀ p ∈ own, p ∈ n2) ∧ nx.map (·.1) = news.map (·.1) ∧ Wi x nw q news (i + 1) m2 nx) := by
  obtain ⟨g1, g2⟩ := st_one hd h1 h2 hT
  have hz := T_len hT
  exact Bl.augS fw he (by omega) hk hl fun t' => Bl.nil fun _ => ⟨rfl, news, fun p hp => List.mem_append_left _ hp, fun p hp => List.mem_append_right _ hp, rfl, _, t', ua, rfl, fa, fn, rfl, g1, g2⟩
theorem wr_claim2 (w : World) (x : Str) (nw : Bool) (hx : x.length ≤ 64) (hc : ∀ c ∈ cp x, c < 65536) (tx : Tok) : Claim w 3 134 [.str x tx, .bool nw] (fun r => ∃ t S, r = .str S t ∧ cp S = quo (cp x) :: (cp x).flatMap (wr (quo (cp x)) nw) ++ [quo (cp x)]) := by
  k_with_none
  unfold Claim
  k_fill
  intro p loose mean mg mb dp un gd cn cs a ccd cl outer A₀ base h₀ L m news s Q E B F X N T hk hdp hun hret
  refine wpAny_call ?_
  k_dflt cell_enter
  rename Fr _ _ _ _ => F1
  have F2 := fr_frl (l' := [(Str.ofString "narrow", Value.bool nw), (Str.ofString "text", Value.str x tx)]) F1 (by rfl)
  clear F1
  rename News _ _ _ _ => N2
  rename Frag.In _ _ => X2
  rename Top _ _ _ _ _ _ => T2
  have T3 := topRead_of T2
  refine Bl.enter (Ret news (fun r _ => ∃ t S, r = .str S t ∧ cp S = quo (cp x) :: (cp x).flatMap (wr (quo (cp x)) nw) ++ [quo (cp x)])) F2 N2 ?_ ?_
  rotate_left
  · rintro _ m' n' h tk ⟨v, rfl, hP, hn⟩ Fe Ne
    exact leaveK_ Fe (news_sub Ne hn) fun kF kN => hret _ _ _ hP kF kN
  refine Bl.asg (P := Vs ⟨#[quo (cp x)]⟩) (Ev.ifexp (Te.and2 (Te.inS Ev.kstr (Ev.locS rfl rfl rfl (by decide)) rfl) fun _ => Te.notInS Ev.kstr (Ev.locS rfl rfl rfl (by decide)) rfl) (fun hb => Ev.kstr.mono ?_) (fun hb => Ev.kstr.mono ?_)) rfl rfl rfl ?_
  · rintro _ _ ⟨u, rfl⟩
    obtain ⟨b1, b2⟩ := hb.1 rfl
    exact ⟨u, congrArg (fun z => Value.str z u) (quo2 (by simpa [within] using b1) (by simpa [within] using b2))⟩
  · rintro _ _ ⟨u, rfl⟩
    rcases hb.2 rfl with b1 | ⟨b1, b2⟩
    · exact ⟨u, congrArg (fun z => Value.str z u) (quo1 (by simpa [within] using b1))⟩
    · exact ⟨u, congrArg (fun z => Value.str z u) (quo3 (by simpa [within] using b2))⟩
  rintro _ _ ⟨u1, rfl⟩
  generalize quo (cp x) = q
  refine Bl.asg (Ev.locS rfl rfl rfl (by decide)) rfl rfl rfl ?_
  rintro _ _ ⟨u2, rfl⟩
  refine Bl.cut (R1 := fun f m' n' _ => f = .next ∧ Wi x nw q news (cp x).length m' n')
    (St.signs (T := x) (Wi x nw q news) (Ev.locS rfl rfl rfl (by decide)) rfl rfl rfl (fun _ => rfl) ⟨⟨#[q]⟩, u2, u1, rfl, rfl, rfl, rfl, rfl, Nat.le_refl 1⟩ ?_ (fun m1 n1 tk h => ⟨rfl, by rw [cp_len]; exact h⟩)) ?_
  · rintro i d t m1 n1 own hd hadr hoff ⟨W, tw, ua, rfl, fa, fn, fw, h1, h2⟩
    have hd' : d < 65536 := hc d (List.mem_of_getElem? hd)
    have hi : i < 64 := by
      have := (List.getElem?_eq_some_iff.mp hd).1
      rw [cp_len] at this; omega
    have one : (⟨#[d]⟩ : Str).length = 1 := rfl
    refine Bl.last (fun _ _ _ _ h => h) (St.ite (Te.or2 (Te.eqS (Ev.locS rfl rfl rfl (by decide)) (Ev.locS fa rfl rfl (by decide)) rfl) fun _ => Te.eqS (Ev.locS rfl rfl rfl (by decide)) Ev.kstr rfl) (fun hb => ?_) (fun hb => ?_))
    · refine fin_one hd hi h1 h2 fa fn fw rfl rfl ?_ (Ev.cat Ev.kstr (Ev.locS rfl rfl rfl (by decide)) (by rw [e92, one]; omega))
      rcases hb.1 rfl with b | ⟨_, b⟩
      · exact wT1 b.symm
      · exact wT2 b.symm
    obtain ⟨n1, n2⟩ := hb.2 rfl
    refine Bl.last (fun _ _ _ _ h => h) (St.ite (Te.eqS (Ev.locS rfl rfl rfl (by decide)) Ev.kstr rfl) (fun hb => fin_one hd hi h1 h2 fa fn fw rfl rfl (wT3 n1.symm n2.symm hb.symm) Ev.kstr) (fun n3 => ?_))
    refine Bl.last (fun _ _ _ _ h => h) (St.ite (Te.eqS (Ev.locS rfl rfl rfl (by decide)) Ev.kstr rfl) (fun hb => fin_one hd hi h1 h2 fa fn fw rfl rfl (wT4 n1.symm n2.symm hb.symm) Ev.kstr) (fun n4 => ?_))
    refine Bl.last (fun _ _ _ _ h => h) (St.ite (Te.eqS (Ev.locS rfl rfl rfl (by decide)) Ev.kstr rfl) (fun hb => fin_one hd hi h1 h2 fa fn fw rfl rfl (wT5 n1.symm n2.symm hb.symm) Ev.kstr) (fun n5 => ?_))
    refine Bl.last (fun _ _ _ _ h => h) (St.ite (Te.or2 (Te.between (Ev.vi Ev.kint) (Ev.ord (Ev.built X2 T3 (by k_is) (by boot_by_name) (by decide) rfl rfl (by decide)) (Ev.locS rfl rfl rfl (by decide)) rfl rfl) (Ev.vi Ev.kint) rfl) fun _ => Te.and2 (Te.inS (Ev.locS rfl rfl rfl (by decide)) Ev.kstr rfl) fun _ => Te.not (Te.boolN (Ev.loc fn rfl rfl (by decide)) rfl)) (fun hb => fin_one hd hi h1 h2 fa fn fw rfl rfl (wT6 n1.symm n2.symm n3.symm n4.symm n5.symm ?_) (Ev.locS rfl rfl rfl (by decide))) (fun hb => ?_))
    · rcases hb.1 rfl with b | ⟨_, b⟩
      · have b := b.symm
        simp only [Bool.and_eq_true, decide_eq_true_eq] at b
        exact .inl (by omega)
      · obtain ⟨b1, b2⟩ := b.1 rfl
        exact .inr ⟨(occ_ee (by simpa [within] using b1)).mpr rfl, by simpa using b2.symm⟩
    obtain ⟨b, c6⟩ := hb.2 rfl
    have g1 : ¬ (32 ≤ d ∧ d < 127) := by
      intro e
      have b := b.symm
      simp only [Bool.and_eq_false_iff, decide_eq_false_iff_not] at b
      omega
    have g2 : ¬ (d = 233 ∨ d = 8364) ∨ nw = true := by
      rcases c6.2 rfl with b | ⟨_, b⟩
      · exact wno (by simpa [within] using b)
      · exact .inr (by simpa using b.symm)
    refine Bl.last (fun _ _ _ _ h => h) (St.ite (Te.cmpI (Ev.ord (Ev.built X2 T3 (by k_is) (by boot_by_name) (by decide) rfl rfl (by decide)) (Ev.locS rfl rfl rfl (by decide)) rfl rfl) (Ev.vi Ev.kint) (by simp) rfl) (fun hb => ?_) (fun hb => ?_))
    · have hn : d < 256 := by
        have := hb.symm
        simp only [Lt, decide_eq_true_eq] at this
        omega
      refine fin_one hd hi h1 h2 fa fn fw rfl rfl (wT8 (S := ⟨(low ((d : Int)).toNat (Int.toNat 2)).toArray⟩) n1.symm n2.symm n3.symm n4.symm n5.symm g1 g2 hn (cp_of _)) (Ev.cat Ev.kstr (Ev.dcall (f := 127) (P := Vs ⟨(low ((d : Int)).toNat (Int.toNat 2)).toArray⟩) X2 (by k_is) rfl (Ev.glob X2 T3 (by k_is) rfl rfl (by decide)) (Args.cons (Ev.ord (Ev.built X2 T3 (by k_is) (by boot_by_name) (by decide) rfl rfl (by decide)) (Ev.locS rfl rfl rfl (by decide)) rfl rfl) (Args.cons (Ev.vi Ev.kint) Args.nil rfl) rfl) ?_ rfl rfl) (by rw [e92x]; show 2 + Array.size _ ≤ _; rw [List.size_toArray, low_len]; decide))
      rintro _ _ ⟨v1, q1, vs1, rfl, ⟨w1, rfl⟩, q2, v2, q3, vs2, rfl, ⟨w2, rfl⟩, q4, rfl⟩
      intro s5 Q5 F5 N5 k5
      k_dflt (refine' (figs_claim2 _ _ _ ?h1 ?h2 ?h3 ?h4 _ _).use ?k1 ?k2 ?k3 ?k4 ?k5 ?kK ?kd ?ku ?_; (case k1 => k_asm); (case k2 => exact F5); (case k3 => k_asm); (case k4 => exact N5); (case k5 => k_asm); (case kK => first | exact rfl | assumption); (case h1 => omega); (case h2 => omega); (case h3 => omega); (case h4 => omega); (case kd => ktr_room); (case ku => ktr_units))
      rintro r h' tk' ⟨t5, S5, rfl, e5, -⟩ F6 N6
      exact k5 _ h' tk' ⟨t5, congrArg (fun z => Value.str z t5) (str_of e5)⟩ F6 N6
    · have hn : ¬ d < 256 := by
        have := hb.symm
        simp only [Lt, decide_eq_false_iff_not] at this
        omega
      refine fin_one hd hi h1 h2 fa fn fw rfl rfl (wT9 (S := ⟨(low ((d : Int)).toNat (Int.toNat 4)).toArray⟩) n1.symm n2.symm n3.symm n4.symm n5.symm g1 g2 hn (cp_of _)) (Ev.cat Ev.kstr (Ev.dcall (f := 127) (P := Vs ⟨(low ((d : Int)).toNat (Int.toNat 4)).toArray⟩) X2 (by k_is) rfl (Ev.glob X2 T3 (by k_is) rfl rfl (by decide)) (Args.cons (Ev.ord (Ev.built X2 T3 (by k_is) (by boot_by_name) (by decide) rfl rfl (by decide)) (Ev.locS rfl rfl rfl (by decide)) rfl rfl) (Args.cons (Ev.vi Ev.kint) Args.nil rfl) rfl) ?_ rfl rfl) (by rw [e92u]; show 2 + Array.size _ ≤ _; rw [List.size_toArray, low_len]; decide))
      rintro _ _ ⟨v1, q1, vs1, rfl, ⟨w1, rfl⟩, q2, v2, q3, vs2, rfl, ⟨w2, rfl⟩, q4, rfl⟩
      intro s5 Q5 F5 N5 k5
      k_dflt (refine' (figs_claim2 _ _ _ ?h1 ?h2 ?h3 ?h4 _ _).use ?k1 ?k2 ?k3 ?k4 ?k5 ?kK ?kd ?ku ?_; (case k1 => k_asm); (case k2 => exact F5); (case k3 => k_asm); (case k4 => exact N5); (case k5 => k_asm); (case kK => first | exact rfl | assumption); (case h1 => omega); (case h2 => omega); (case h3 => omega); (case h4 => omega); (case kd => ktr_room); (case ku => ktr_units))
      rintro r h' tk' ⟨t5, S5, rfl, e5, -⟩ F6 N6
      exact k5 _ h' tk' ⟨t5, congrArg (fun z => Value.str z t5) (str_of e5)⟩ F6 N6
  rintro _ m' n' tk ⟨rfl, W, t, u, rfl, fa, fn, fw, h1, h2⟩
  show Bl _ _ _ _ _
  have hl : (⟨#[q]⟩ : Str).length = 1 := rfl
  have hcl := cp_len x
  refine Bl.retR (Ev.cat (Ev.locS fw rfl rfl (by decide)) (Ev.locS fa rfl rfl (by decide)) (by omega)) ?_ fun _ hp => hp
  rintro v tk ⟨t, rfl⟩
  exact ⟨t, _, rfl, by rw [cp_app, h1, List.take_of_length_le (Nat.le_refl _)]⟩
end Mine
end
section
local macro_rules | `(tactic| omega) => `(tactic| lia)
open PySem PySem.W PyProof PyProof.Rows
set_option Elab.async false
set_option maxRecDepth 100000
set_option maxHeartbeats 100000000
namespace Mine
theorem w1_step {x y : Str} {k : Int} (h0 : 0 ≤ k) (h1 : k ≤ x.length) (h2 : k ≤ y.length) (h3 : (cp x).take k.toNat = (cp y).take k.toNat)
    (e1 : ((Txt.slice x (some k) none).length : Int) ≠ 0) (e2 : ((Txt.slice y (some k) none).length : Int) ≠ 0)
    (f1 : (0 ≤ k → k ≤ x.length → ((Txt.slice x (some k) none).length : Int) = (x.length : Int) - k)) (f2 : (0 ≤ k → k ≤ y.length → ((Txt.slice y (some k) none).length : Int) = (y.length : Int) - k))
    (he : (Txt.item x k == Txt.item y k) = true) : (0 ≤ k + 1 ∧ k + 1 ≤ x.length ∧ k + 1 ≤ y.length ∧ (cp x).take (k + 1).toNat = (cp y).take (k + 1).toNat) ∧ x.length - (k + 1).toNat < x.length - k.toNat := by
  have g1 := f1 h0 h1
  have g2 := f2 h0 h2
  have l1 : k < x.length := by omega
  have l2 : k < y.length := by omega
  refine ⟨⟨by omega, by omega, by omega, ?_⟩, by omega⟩
  have he' := beq_iff_eq.mp he
  rw [it_pos h0 l1, it_pos h0 l2] at he'
  have he2 : (cp x).getD k.toNat 0 = (cp y).getD k.toNat 0 := by
    have := congrArg (fun s : Str => s.cps.toList) he'
    simpa using this
  have hx : k.toNat < (cp x).length := by rw [cp_len]; omega
  have hy : k.toNat < (cp y).length := by rw [cp_len]; omega
  have ek : (k + 1).toNat = k.toNat + 1 := by omega
  rw [ek, List.take_succ_eq_append_getElem hx, List.take_succ_eq_append_getElem hy, h3]
  simp only [List.getD, List.getElem?_eq_getElem hx, List.getElem?_eq_getElem hy, Option.getD_some] at he2
  rw [he2]
theorem w2_start (A B : Str) : ((0 : Int) ≤ 0 ∧ -(0 : Int) ≤ A.length ∧ -(0 : Int) ≤ B.length ∧ (cp A).drop ((A.length : Int) + 0).toNat = (cp B).drop ((B.length : Int) + 0).toNat) := by
  refine ⟨by omega, by omega, by omega, ?_⟩
  rw [List.drop_eq_nil_of_le (by rw [cp_len]; omega), List.drop_eq_nil_of_le (by rw [cp_len]; omega)]
theorem w2_step {A B : Str} {k : Int} (h0 : k ≤ 0) (h1 : -k ≤ A.length) (h2 : -k ≤ B.length) (h3 : (cp A).drop (A.length + k).toNat = (cp B).drop (B.length + k).toNat)
    (l1 : -k < A.length) (l2 : -k < B.length) (he : (Txt.item A (k - 1) == Txt.item B (k - 1)) = true) :
    (k - 1 ≤ 0 ∧ -(k - 1) ≤ A.length ∧ -(k - 1) ≤ B.length ∧ (cp A).drop (A.length + (k - 1)).toNat = (cp B).drop (B.length + (k - 1)).toNat) ∧ A.length - (-(k - 1)).toNat < A.length - (-k).toNat := by
  refine ⟨⟨by omega, by omega, by omega, ?_⟩, by omega⟩
  have he' := beq_iff_eq.mp he
  rw [it_neg (by omega) (by omega), it_neg (by omega) (by omega)] at he'
  have he2 : (cp A).getD ((A.length : Int) + (k - 1)).toNat 0 = (cp B).getD ((B.length : Int) + (k - 1)).toNat 0 := by
    have := congrArg (fun s : Str => s.cps.toList) he'
    simpa using this
  have hx : ((A.length : Int) + (k - 1)).toNat < (cp A).length := by rw [cp_len]; omega
  have hy : ((B.length : Int) + (k - 1)).toNat < (cp B).length := by rw [cp_len]; omega
  have ea : ((A.length : Int) + k).toNat = ((A.length : Int) + (k - 1)).toNat + 1 := by omega
  have eb : ((B.length : Int) + k).toNat = ((B.length : Int) + (k - 1)).toNat + 1 := by omega
  simp only [List.getD, List.getElem?_eq_getElem hx, List.getElem?_eq_getElem hy, Option.getD_some] at he2
  rw [List.drop_eq_getElem_cons hx, List.drop_eq_getElem_cons hy, he2, ← ea, ← eb, h3]
end Mine
end
section
local macro_rules | `(tactic| omega) => `(tactic| lia)
open PySem PySem.W PyProof PyProof.Rows
set_option Elab.async false
set_option maxRecDepth 100000
set_option maxHeartbeats 100000000
set_option rowWalk.seconds 0
namespace Mine
theorem bne_true {i : Int} (h : true = (i != 0)) : i ≠ 0 := by simpa using h.symm
theorem bne_false {i : Int} (h : false = (i != 0)) : i = 0 := by simpa using h.symm
theorem ints_set : ∀ {us : List Value} {zs : List Int}, IntsAre us zs → ∀ (i : Nat) (V : Int) (t : Tok), IntsAre (us.set i (.int V t)) (zs.set i V)
  | _, _, .nil, _, _, _ => .nil
  | _, _, .cons _ _ h, 0, V, t => .cons V t h
  | _, _, .cons a u h, i + 1, V, t => .cons a u (ints_set h i V t)
theorem imin (a b : Int) : (if a < b then a else b) = min a b := by
  rw [Int.min_def]; split <;> split <;> omega
theorem cell_one {S B : Str} {i j : Nat} {dis res V : Int} {row : List Int} (hr : row = rowAt (cp S) (cp B) i j) (hi : i < S.length) (hj : j < B.length) (hd : dis = R (cp S) (cp B) i j) (hres : (i = 0 ∧ res = 2 * (j : Int)) ∨ (0 < i ∧ res = R (cp S) (cp B) i (j + 1)))
    (hV : V = if dis + subS (Txt.item B j) (Txt.item S i) < (if row.getD i 0 < res then row.getD i 0 else res) + 2 then dis + subS (Txt.item B j) (Txt.item S i) else (if row.getD i 0 < res then row.getD i 0 else res) + 2) :
    V = R (cp S) (cp B) (i + 1) (j + 1) ∧ row.getD i 0 = R (cp S) (cp B) (i + 1) j ∧ row.set i V = rowAt (cp S) (cp B) (i + 1) j := by
  have hi' : i < (cp S).length := by rw [cp_len]; exact hi
  have hj' : j < (cp B).length := by rw [cp_len]; exact hj
  have eg : row.getD i 0 = R (cp S) (cp B) (i + 1) j := by rw [hr, rowAt_get hi']
  have es : subS (Txt.item B j) (Txt.item S i) = sc ((cp B).getD j 0) ((cp S).getD i 0) := by
    rw [it_pos (by omega) (by omega), it_pos (by omega) (by omega), Int.toNat_natCast, Int.toNat_natCast]; rfl
  have eV : V = R (cp S) (cp B) (i + 1) (j + 1) := by
    have h := cell_step hi' hj' hd hres
    rw [hV, eg, es, imin, imin, ← h, Int.min_comm (R (cp S) (cp B) (i + 1) j), Int.min_comm (dis + _)]
  exact ⟨eV, eg, by rw [eV, hr, rowAt_set]⟩
/-- the first loop's word -/
inductive W1 (M : Fm) (x y : Str) (news : Lg) (k : Nat) (m' : Fm) (n' : Lg) : Prop
  | mk (i : Int) (t : Tok) (en : news = n') (em : m' = fset M (Str.ofString "pre") (.int i t)) (h1 : 0 ≤ i) (h2 : i ≤ x.length) (h3 : i ≤ y.length) (h4 : (cp x).take i.toNat = (cp y).take i.toNat) (h5 : k = x.length - i.toNat) : W1 M x y news k m' n'
/-- the second loop's -/
inductive W2 (M : Fm) (x y : Str) (news : Lg) (k : Nat) (m' : Fm) (n' : Lg) : Prop
  | mk (i : Int) (t : Tok) (en : news = n') (em : m' = fset M (Str.ofString "post") (.int i t)) (h1 : i ≤ 0) (h2 : -i ≤ x.length) (h3 : -i ≤ y.length) (h4 : (cp x).drop (x.length + i).toNat = (cp y).drop (y.length + i).toNat) (h5 : k = x.length - (-i).toNat) : W2 M x y news k m' n'
/-- the shorter one first -/
inductive Sw (M : Fm) (A B : Str) (news : Lg) (m' : Fm) (n' : Lg) : Prop
  | mk (S L : Str) (t t' : Tok) (em : m' = fset (fset M (Str.ofString "a") (.str S t)) (Str.ofString "b") (.str L t')) (hn : ∀ p ∈ news, p ∈ n') (h1 : S.length ≤ L.length) (h2 : S.length ≤ 40) (h3 : L.length ≤ 40) (h4 : 0 < S.length) (h5 : ed (cp S) (cp L) = ed (cp A) (cp B)) (h6 : B.length + S.length ≤ A.length + L.length) : Sw M A B news m' n'
/-- the frame's names that the loops read -/
inductive Ff (S L : Str) (tS tL : Tok) (mc : Int) (tm : Tok) (D : Addr) (m : Fm) : Prop
  | mk (fa : m (Str.ofString "a") = some (.str S tS)) (fb : m (Str.ofString "b") = some (.str L tL)) (fm : m (Str.ofString "max_cost") = some (.int mc tm)) (fr : m (Str.ofString "row") = some (.ref D)) : Ff S L tS tL mc tm D m
/-- the outer loop's word -/
inductive Ou (S L : Str) (tS tL : Tok) (mc : Int) (tm : Tok) (D : Addr) (n₀ : Lg) (j : Nat) (m : Fm) (nx : Lg) : Prop
  | mk (o : Obj) (us : List Value) (zs : List Int) (res : Int) (t : Tok) (en : nx = (D, o) :: n₀) (ho : IsL o (List.toArray us)) (hI : IntsAre us zs) (hzs : zs = rowAt (cp S) (cp L) 0 j) (f : Ff S L tS tL mc tm D m) (fres : m (Str.ofString "result") = some (.int res t)) (hres : j = 0 ∨ res = R (cp S) (cp L) S.length j) : Ou S L tS tL mc tm D n₀ j m nx
/-- the inner loop's -/
inductive In (S L : Str) (tS tL : Tok) (mc : Int) (tm : Tok) (D : Addr) (n₀ : Lg) (tb : Tok) (j i : Nat) (m : Fm) (nx : Lg) : Prop
  | mk (o : Obj) (us : List Value) (zs : List Int) (res dis mn : Int) (t1 t2 t3 : Tok) (en : nx = (D, o) :: n₀) (ho : IsL o (List.toArray us)) (hI : IntsAre us zs) (hzs : zs = rowAt (cp S) (cp L) i j) (hdis : dis = R (cp S) (cp L) i j) (hres : (i = 0 ∧ res = 2 * (j : Int)) ∨ (0 < i ∧ res = R (cp S) (cp L) i (j + 1))) (hmn : ∀ i', i' < i → mn ≤ R (cp S) (cp L) (i' + 1) (j + 1))
      (f : Ff S L tS tL mc tm D m) (fbc : m (Str.ofString "bchar") = some (.str (Txt.item L j) tb)) (fres : m (Str.ofString "result") = some (.int res t1)) (fdis : m (Str.ofString "distance") = some (.int dis t2)) (fmn : m (Str.ofString "minimum") = some (.int mn t3)) : In S L tS tL mc tm D n₀ tb j i m nx
/-- the frame behind the turn's last test -/
inductive La (M : Fm) (mn V : Int) (m' : Fm) : Prop
  | mk (mn' : Int) (t : Tok) (h1 : mn' ≤ mn) (h2 : mn' ≤ V) (em : m' = fset M (Str.ofString "minimum") (.int mn' t)) : La M mn V m'
inductive Fi (x y : Str) (mc : Int) (news : Lg) (res₀ : Int) (m' : Fm) (n' : Lg) : Prop
  | mk (t : Tok) (hn : ∀ p ∈ news, p ∈ n') (fres : m' (Str.ofString "result") = some (.int res₀ t)) : Fi x y mc news res₀ m' n'
theorem lev_claim2 (w : World) (x y : Str) (mc : Int) (hx : x.length ≤ 1000) (hy : y.length ≤ 1000) (hm0 : 0 ≤ mc) (hm : mc ≤ 1000000) (tx ty tm : Tok) : ClaimK w 3 120 [.str x tx, .str y ty, .int mc tm] (fun r tk => ∃ t n, r = .int n t ∧ (LevOk (cp x) (cp y) mc n ∧ (tk ≠ 0 ∨ 2 * ((y.length : Int) - x.length) ≤ mc))) := by
  k_with_none
  unfold ClaimK
  k_fill
  intro p loose mean mg mb dp un gd cn cs a ccd cl outer A₀ base h₀ L m news s Q E B F X N T hk hdp hun hret
  refine wpAny_call ?_
  k_dflt cell_enter
  rename Fr _ _ _ _ => F1
  have F2 := fr_frl (l' := [(Str.ofString "max_cost", Value.int mc tm), (Str.ofString "b", Value.str y ty), (Str.ofString "a", Value.str x tx)]) F1 (by rfl)
  clear F1
  rename News _ _ _ _ => N2
  rename Frag.In _ _ => X2
  rename Top _ _ _ _ _ _ => T2
  have T3 := topRead_of T2
  refine Bl.enter (Ret news (fun r tk => ∃ t n, r = .int n t ∧ (LevOk (cp x) (cp y) mc n ∧ (tk ≠ 0 ∨ 2 * ((y.length : Int) - x.length) ≤ mc)))) F2 N2 ?_ ?_
  rotate_left
  · rintro _ m' n' h tk ⟨v, rfl, hP, hn⟩ Fe Ne
    exact leaveK_ Fe (news_sub Ne hn) fun kF kN => hret _ _ _ hP kF kN
  generalize hM : frl [(Str.ofString "max_cost", Value.int mc tm), (Str.ofString "b", Value.str y ty), (Str.ofString "a", Value.str x tx)] = M
  have ma : M (Str.ofString "a") = some (.str x tx) := by rw [← hM]; rfl
  have mb' : M (Str.ofString "b") = some (.str y ty) := by rw [← hM]; rfl
  have mm : M (Str.ofString "max_cost") = some (.int mc tm) := by rw [← hM]; rfl
  clear hM F2
  -- the same text
  refine Bl.iff (Te.eqS (Ev.locS ma rfl rfl (by decide)) (Ev.locS mb' rfl rfl (by decide)) rfl) ?_ ?_
  · intro e
    refine Bl.retT Ev.kint ?_ fun _ hp => hp
    rintro v tk ⟨⟨t, rfl⟩, h⟩
    exact ⟨t, 0, rfl, lev_same (congrArg cp (beq_iff_eq.mp e.symm)) hm0, .inl h⟩
  intro _
  refine Bl.asg Ev.kint rfl rfl rfl ?_
  rintro _ _ ⟨⟨tp, rfl⟩, _⟩
  refine Bl.cut (R1 := fun f m' n' _ => f = .next ∧ ∃ k, W1 M x y news k m' n')
    (St.while (W1 M x y news) ⟨0, tp, rfl, rfl, by omega, by omega, by omega, rfl, rfl⟩ ?_) ?_
  · intro k m1 n1 hw
    obtain ⟨i, t, rfl, rfl, h1, h2, h3, h4, h5⟩ := id hw
    have q1 := from_len h1 h2
    have q2 := from_len h1 h3
    refine ⟨_, Te.and3 (Te.str (Ev.from ma rfl hx rfl rfl rfl (by decide) (by decide)) (by omega) rfl) (fun _ => Te.str (Ev.from mb' rfl hy rfl rfl rfl (by decide) (by decide)) (by omega) rfl)
      (fun e1 e2 => Te.eqS (Ev.sign (Ev.locS ma rfl rfl (by decide)) (Ev.locI rfl rfl rfl (by decide)) (by omega) (by have := bne_true e1; omega) hx (fun _ _ => rfl) (fun _ _ => rfl))
        (Ev.sign (Ev.locS mb' rfl rfl (by decide)) (Ev.locI rfl rfl rfl (by decide)) (by omega) (by have := bne_true e2; omega) hy (fun _ _ => rfl) (fun _ _ => rfl)) rfl), ?_, ?_⟩
    · rintro ⟨hb, _⟩
      obtain ⟨e1, e2, e3⟩ := hb rfl
      have st := w1_step h1 h2 h3 h4 (bne_true e1) (bne_true e2) (fun _ _ => q1) (fun _ _ => q2) e3.symm
      refine Bl.aug rfl (Ev.vi Ev.kint) rfl rfl fun t' => Bl.nil fun _ => ?_
      rw [fset_twice]
      exact ⟨rfl, _, by rw [h5]; exact st.2, _, _, rfl, rfl, st.1.1, st.1.2.1, st.1.2.2.1, st.1.2.2.2, rfl⟩
    · exact fun _ _ => ⟨rfl, k, hw⟩
  rintro _ _ _ _ ⟨rfl, _, kpre, tpre, rfl, rfl, hk0, hk1, hk2, hk3, _⟩
  refine Bl.asg (Ev.from ma rfl hx rfl rfl rfl (by decide) (by decide)) rfl rfl rfl ?_
  rintro _ _ ⟨tA1, rfl⟩
  refine Bl.asg (Ev.from mb' rfl hy rfl rfl rfl (by decide) (by decide)) rfl rfl rfl ?_
  rintro _ _ ⟨tB1, rfl⟩
  generalize hA1 : Txt.slice x (some kpre) none = A1
  generalize hB1 : Txt.slice y (some kpre) none = B1
  have lA1 : A1.length ≤ 1000 := by have := from_len hk0 hk1; rw [hA1] at this; omega
  have lB1 : B1.length ≤ 1000 := by have := from_len hk0 hk2; rw [hB1] at this; omega
  generalize hM : fset M (Str.ofString "pre") (.int kpre tpre) = M1
  have mm1 : M1 (Str.ofString "max_cost") = some (.int mc tm) := by rw [← hM]; exact mm
  clear hM mm ma mb'
  refine Bl.asg Ev.kint rfl rfl rfl ?_
  rintro _ _ ⟨⟨tq, rfl⟩, _⟩
  generalize hM : fset (fset M1 (Str.ofString "a") (.str A1 tA1)) (Str.ofString "b") (.str B1 tB1) = M2
  have ma : M2 (Str.ofString "a") = some (.str A1 tA1) := by rw [← hM]; rfl
  have mb' : M2 (Str.ofString "b") = some (.str B1 tB1) := by rw [← hM]; rfl
  have mm : M2 (Str.ofString "max_cost") = some (.int mc tm) := by rw [← hM]; exact mm1
  clear hM mm1
  have w2s := w2_start A1 B1
  refine Bl.cut (R1 := fun f m' n' _ => f = .next ∧ ∃ k, W2 M2 A1 B1 news k m' n')
    (St.while (W2 M2 A1 B1 news) ⟨0, tq, rfl, rfl, w2s.1, w2s.2.1, w2s.2.2.1, w2s.2.2.2, rfl⟩ ?_) ?_
  · intro k m1 n1 hw
    obtain ⟨i, t, rfl, rfl, h1, h2, h3, h4, h5⟩ := id hw
    have q1 := cut_len h1 h2
    have q2 := cut_len h1 h3
    refine ⟨_, Te.and3 (Te.str (Ev.cut ma rfl lA1 rfl rfl rfl (by decide) (by decide)) (by omega) rfl) (fun _ => Te.str (Ev.cut mb' rfl lB1 rfl rfl rfl (by decide) (by decide)) (by omega) rfl)
      (fun e1 e2 => Te.eqS (Ev.sign (Ev.locS ma rfl rfl (by decide)) (Ev.vi (Ev.sub (Ev.locI rfl rfl rfl (by decide)) (Ev.vi Ev.kint))) (by have := bne_true e1; omega) (by omega) lA1 (fun _ _ => rfl) (fun _ _ => rfl))
        (Ev.sign (Ev.locS mb' rfl rfl (by decide)) (Ev.vi (Ev.sub (Ev.locI rfl rfl rfl (by decide)) (Ev.vi Ev.kint))) (by have := bne_true e2; omega) (by omega) lB1 (fun _ _ => rfl) (fun _ _ => rfl)) rfl), ?_, ?_⟩
    · rintro ⟨hb, _⟩
      obtain ⟨e1, e2, e3⟩ := hb rfl
      have e1' := bne_true e1
      have e2' := bne_true e2
      have st := w2_step h1 h2 h3 h4 (by omega) (by omega) e3.symm
      refine Bl.augSub rfl (Ev.vi Ev.kint) rfl rfl fun t' => Bl.nil fun _ => ?_
      rw [fset_twice]
      exact ⟨rfl, _, by rw [h5]; exact st.2, _, _, rfl, rfl, st.1.1, st.1.2.1, st.1.2.2.1, st.1.2.2.2, rfl⟩
    · exact fun _ _ => ⟨rfl, k, hw⟩
  rintro _ _ _ _ ⟨rfl, _, kpost, tpost, rfl, rfl, hp0, hp1, hp2, hp3, _⟩
  refine Bl.asg (Ev.cut ma rfl lA1 rfl rfl rfl (by decide) (by decide)) rfl rfl rfl ?_
  rintro _ _ ⟨tA2, rfl⟩
  refine Bl.asg (Ev.cut mb' rfl lB1 rfl rfl rfl (by decide) (by decide)) rfl rfl rfl ?_
  rintro _ _ ⟨tB2, rfl⟩
  have hA2 := cut_cp hp0 hp1
  have hB2 := cut_cp hp0 hp2
  generalize hA : cut A1 kpost = A2 at *
  generalize hB : cut B1 kpost = B2 at *
  have hStrip : Strip (cp x) (cp y) (cp A2) (cp B2) := strip_of (by rw [← hA1]; exact sl_from hk0 hk1) (by rw [← hB1]; exact sl_from hk0 hk2) hk3 (by rw [cp_len]; omega) (by rw [cp_len]; omega) hA2 hB2 hp3
  have hlA : A2.length ≤ 1000 := by have h := hStrip.2.1; rw [cp_len, cp_len] at h; omega
  have hlB : B2.length ≤ 1000 := by have h := hStrip.2.2.1; rw [cp_len, cp_len] at h; omega
  have hdf : (y.length : Int) - x.length = B2.length - A2.length := by have h := hStrip.2.2.2.2; rw [cp_len, cp_len, cp_len, cp_len] at h; exact h
  generalize hM : fset M2 (Str.ofString "post") (.int kpost tpost) = M3
  have mm3 : M3 (Str.ofString "max_cost") = some (.int mc tm) := by rw [← hM]; exact mm
  clear hM mm ma mb' hA hB hA1 hB1 hA2 hB2 hp3 hk3
  have ma : fset (fset M3 (Str.ofString "a") (.str A2 tA2)) (Str.ofString "b") (.str B2 tB2) (Str.ofString "a") = some (.str A2 tA2) := rfl
  have mb' : fset (fset M3 (Str.ofString "a") (.str A2 tA2)) (Str.ofString "b") (.str B2 tB2) (Str.ofString "b") = some (.str B2 tB2) := rfl
  have mm : fset (fset M3 (Str.ofString "a") (.str A2 tA2)) (Str.ofString "b") (.str B2 tB2) (Str.ofString "max_cost") = some (.int mc tm) := mm3
  -- nothing left of one
  refine Bl.iff (Te.or2 (Te.not (Te.str (Ev.locS ma rfl rfl (by decide)) (by omega) rfl)) (fun _ => Te.not (Te.str (Ev.locS mb' rfl rfl (by decide)) (by omega) rfl))) ?_ ?_
  · rintro ⟨hb, _⟩
    refine Bl.retT (Ev.mul (Ev.glob X2 T3 (by k_is) rfl rfl (by decide)).toI (Ev.vi (Ev.add (Ev.vi (Ev.len (Ev.built X2 T3 (by k_is) (by boot_by_name) (by decide) rfl rfl (by decide)) (Ev.locS ma rfl rfl (by decide)) (by omega) rfl rfl)) (Ev.vi (Ev.len (Ev.built X2 T3 (by k_is) (by boot_by_name) (by decide) rfl rfl (by decide)) (Ev.locS mb' rfl rfl (by decide)) (by omega) rfl rfl)))) (by mul_fits)) ?_ fun _ hp => hp
    rintro v tk ⟨⟨t, rfl⟩, h⟩
    have hl : A2.length = 0 ∨ B2.length = 0 := by
      rcases hb rfl with q | ⟨_, q⟩
      · have := bne_false q; omega
      · have := bne_false q; omega
    exact ⟨t, _, rfl, lev_empty hStrip (by rw [cp_len, cp_len]; exact hl) (by rw [cp_len, cp_len]) hm0, .inl h⟩
  rintro ⟨_, hb⟩
  have hne : A2.length ≠ 0 ∧ B2.length ≠ 0 := by
    obtain ⟨q1, q2⟩ := hb rfl
    have := bne_true q1
    have := bne_true q2
    omega
  clear hb
  -- too long
  refine Bl.iff (Te.or2 (Te.cmpI (Ev.vi (Ev.len (Ev.built X2 T3 (by k_is) (by boot_by_name) (by decide) rfl rfl (by decide)) (Ev.locS ma rfl rfl (by decide)) (by omega) rfl rfl)) (Ev.glob X2 T3 (by k_is) rfl rfl (by decide)).toI (by decide) rfl)
    (fun _ => Te.cmpI (Ev.vi (Ev.len (Ev.built X2 T3 (by k_is) (by boot_by_name) (by decide) rfl rfl (by decide)) (Ev.locS mb' rfl rfl (by decide)) (by omega) rfl rfl)) (Ev.glob X2 T3 (by k_is) rfl rfl (by decide)).toI (by decide) rfl)) ?_ ?_
  · rintro ⟨hb, _⟩
    refine Bl.retT (Ev.add (Ev.locI mm rfl rfl (by decide)) (Ev.vi Ev.kint)) ?_ fun _ hp => hp
    rintro v tk ⟨⟨t, rfl⟩, h⟩
    have hl : 40 < A2.length ∨ 40 < B2.length := by
      rcases hb rfl with q | ⟨_, q⟩
      · have := of_decide_eq_true q.symm; omega
      · have := of_decide_eq_true q.symm; omega
    exact ⟨t, _, rfl, lev_big hStrip (by rw [cp_len, cp_len]; exact hl), .inl h⟩
  rintro ⟨_, hb⟩
  have hsm : A2.length ≤ 40 ∧ B2.length ≤ 40 := by
    obtain ⟨q1, q2⟩ := hb rfl
    have := of_decide_eq_false q1.symm
    have := of_decide_eq_false q2.symm
    omega
  clear hb
  -- the shorter one first
  refine Bl.cut (R1 := fun f m' n' _ => f = .next ∧ Sw M3 A2 B2 news m' n')
    (St.ite (Te.cmpI (Ev.vi (Ev.len (Ev.built X2 T3 (by k_is) (by boot_by_name) (by decide) rfl rfl (by decide)) (Ev.locS mb' rfl rfl (by decide)) (by omega) rfl rfl)) (Ev.vi (Ev.len (Ev.built X2 T3 (by k_is) (by boot_by_name) (by decide) rfl rfl (by decide)) (Ev.locS ma rfl rfl (by decide)) (by omega) rfl rfl)) (by decide) rfl) ?_ ?_) ?_
  · intro hb
    have hlt := of_decide_eq_true hb.symm
    intro s9 Q9 F9 N9 kk9
    k_steps
    rename Fr _ _ _ _ => F8
    rename News _ _ _ _ => N8
    refine kk9 .next (fset (fset M3 (Str.ofString "a") (.str B2 tB2)) (Str.ofString "b") (.str A2 tA2)) _ _ _ ⟨rfl, B2, A2, tB2, tA2, rfl, fun p hp => .tail _ hp, by omega, by omega, by omega, by omega, ed_comm _ _, by omega⟩ (fr_eq F8 fun z => ?_) N8
    by_cases h1 : z = Str.ofString "a"
    · subst h1; rfl
    · by_cases h2 : z = Str.ofString "b"
      · subst h2; rfl
      · simp only [fset, if_neg h1, if_neg h2]
  · intro hb
    have hlt := of_decide_eq_false hb.symm
    exact Bl.nil fun _ => ⟨rfl, A2, B2, _, _, rfl, fun _ hp => hp, by omega, by omega, by omega, by omega, rfl, by omega⟩
  rintro _ _ news2 _ ⟨rfl, S2, L2, tS, tL, rfl, hnews, hS1, hS2, hS3, hS4, hS5, hS6⟩
  clear ma mb' mm
  generalize hM : fset (fset M3 (Str.ofString "a") (.str S2 tS)) (Str.ofString "b") (.str L2 tL) = M4
  have ma : M4 (Str.ofString "a") = some (.str S2 tS) := by rw [← hM]; rfl
  have mb' : M4 (Str.ofString "b") = some (.str L2 tL) := by rw [← hM]; rfl
  have mm : M4 (Str.ofString "max_cost") = some (.int mc tm) := by rw [← hM]; exact mm3
  clear hM mm3
  show Bl _ _ _ _ _
  -- the lengths part too far
  refine Bl.iff (Te.cmpI (Ev.vi (Ev.mul (Ev.vi (Ev.sub (Ev.vi (Ev.len (Ev.built X2 T3 (by k_is) (by boot_by_name) (by decide) rfl rfl (by decide)) (Ev.locS mb' rfl rfl (by decide)) (by omega) rfl rfl)) (Ev.vi (Ev.len (Ev.built X2 T3 (by k_is) (by boot_by_name) (by decide) rfl rfl (by decide)) (Ev.locS ma rfl rfl (by decide)) (by omega) rfl rfl)))) (Ev.glob X2 T3 (by k_is) rfl rfl (by decide)).toI (by mul_fits))) (Ev.locI mm rfl rfl (by decide)) (by decide) rfl) ?_ ?_
  · intro hb
    have hlt := of_decide_eq_true hb.symm
    refine Bl.retT (Ev.add (Ev.locI mm rfl rfl (by decide)) (Ev.vi Ev.kint)) ?_ hnews
    rintro v tk ⟨⟨t, rfl⟩, h⟩
    exact ⟨t, _, rfl, lev_over hStrip (by have h := ed_len (cp S2) (cp L2); rw [cp_len, cp_len, hS5] at h; omega), .inl h⟩
  intro hb
  have hdm := of_decide_eq_false hb.symm
  clear hb
  refine Bl.asgL (EvL.row (k := S2.length) (Ev.built X2 T3 (by k_is) (by boot_by_name) (by decide) rfl rfl (by decide)) (Ev.built X2 T3 (by k_is) (by boot_by_name) (by decide) rfl rfl (by decide)) (Ev.glob X2 T3 (by k_is) rfl rfl (by decide)).toI
    (Ev.vi (Ev.mul (Ev.glob X2 T3 (by k_is) rfl rfl (by decide)).toI (Ev.vi (Ev.add (Ev.vi (Ev.len (Ev.built X2 T3 (by k_is) (by boot_by_name) (by decide) rfl rfl (by decide)) (Ev.locS ma rfl rfl (by decide)) (by omega) rfl rfl)) (Ev.vi Ev.kint))) (by mul_fits))) (Ev.glob X2 T3 (by k_is) rfl rfl (by decide)).toI rfl (by omega) rfl rfl rfl rfl rfl rfl) rfl rfl rfl ?_
  rintro _ _ ⟨D, o0, us0, rfl, rfl, ho0, hD, hI0⟩
  refine Bl.asg Ev.kint rfl rfl rfl ?_
  rintro _ _ ⟨⟨tz, rfl⟩, _⟩
  refine Bl.cut (R1 := fun f m' n' tk => (f = .next ∧ Fi x y mc news (ed (cp S2) (cp L2)) m' n') ∨ ∃ v, f = .ret v ∧ Ret news (fun r tk => ∃ t n, r = .int n t ∧ (LevOk (cp x) (cp y) mc n ∧ (tk ≠ 0 ∨ 2 * ((y.length : Int) - x.length) ≤ mc))) (.ret v) m' n' tk)
    (St.range (k := L2.length) (Ou S2 L2 tS tL mc tm D news2)
      (Ev.built X2 T3 (by k_is) (by boot_by_name) (by decide) rfl rfl (by decide)) (Ev.vi (Ev.len (Ev.built X2 T3 (by k_is) (by boot_by_name) (by decide) rfl rfl (by decide)) (Ev.locS mb' rfl rfl (by decide)) (by omega) rfl rfl)) (by omega) rfl rfl rfl rfl rfl (fun _ => rfl) ?_ ?_ ?_) ?_
  · refine ⟨o0, us0, _, 0, tz, rfl, ho0, hI0, ?_, ⟨ma, mb', mm, rfl⟩, rfl, .inl rfl⟩
    have h := rowAt_init (cp S2) (cp L2)
    rw [cp_len] at h
    exact h.symm
  · rintro j tj m1 n1 own hj hadr hoff ⟨o, us, zs, res, tr, rfl, ho, hI, hzs, ⟨fa, fb, fm, fr⟩, fres, hres⟩
    refine Bl.asg (Ev.sign (k := j) (Ev.locS fb rfl rfl (by decide)) (Ev.locI rfl rfl rfl (by decide)) (by omega) (by omega) (by omega) (fun _ _ => rfl) (fun _ _ => rfl)) rfl rfl rfl ?_
    rintro _ _ ⟨tb, rfl⟩
    refine Bl.asg2 (Ev.mul (i := j) (Ev.locI rfl rfl rfl (by decide)) (Ev.glob X2 T3 (by k_is) rfl rfl (by decide)).toI (by mul_fits)) rfl rfl rfl rfl rfl ?_
    rintro _ _ ⟨⟨td, rfl⟩, _⟩
    refine Bl.asg Ev.kint rfl rfl rfl ?_
    rintro _ _ ⟨⟨tmn, rfl⟩, _⟩
    refine Bl.cut (R1 := fun f m2 n2 _ => f = .next ∧ In S2 L2 tS tL mc tm D (news2 ++ own) tb j S2.length m2 n2)
      (St.range (k := S2.length) (In S2 L2 tS tL mc tm D (news2 ++ own) tb j)
        (Ev.built X2 T3 (by k_is) (by boot_by_name) (by decide) rfl rfl (by decide)) (Ev.vi (Ev.len (Ev.built X2 T3 (by k_is) (by boot_by_name) (by decide) rfl rfl (by decide)) (Ev.locS fa rfl rfl (by decide)) (by omega) rfl rfl)) (by omega) rfl rfl rfl rfl rfl (fun _ => rfl) ?_ ?_ ?_) ?_
    · exact ⟨o, us, zs, _, _, _, td, td, tmn, rfl, ho, hI, hzs, by rw [R_left (by rw [cp_len]; omega)]; omega, .inl ⟨rfl, by omega⟩, fun i hi => absurd hi (Nat.not_lt_zero i), ⟨fa, fb, fm, fr⟩, rfl, rfl, rfl, rfl⟩
    · rintro i ti m2 n2 own2 hi hadr2 hoff2 ⟨o, us, zs, res, dis, mn, t1, t2, t3, rfl, ho, hI, hzs, hdis, hres, hmn, ⟨fa, fb, fm, fr⟩, fbc, fres, fdis, fmn⟩
      have hD2 : ∀ p ∈ (news2 ++ own) ++ own2, p.1 ≠ D := by
        intro p hp
        rcases List.mem_append.mp hp with hp | hp
        · rcases List.mem_append.mp hp with hp | hp
          · exact hD p hp
          · exact hoff.ne (List.mem_cons_self ..) p hp
        · exact hoff2.ne (List.mem_cons_self ..) p hp
      have hlen : us.length = S2.length := by
        have h1 := hI.length
        rw [hzs, rowAt_len, cp_len] at h1
        exact h1
      obtain ⟨tv, htv⟩ : ∃ t, (List.toArray us)[(i : Int).toNat]? = some (.int (zs.getD i 0) t) := by
        have hz : i < zs.length := by rw [hzs, rowAt_len, cp_len]; exact hi
        obtain ⟨t, ht⟩ := hI.get i zs[i] (List.getElem?_eq_getElem hz)
        refine ⟨t, ?_⟩
        rw [Int.toNat_natCast]
        simpa [List.getD, List.getElem?_eq_getElem hz] using ht
      refine Bl.asg (Ev.add (Ev.locI fdis rfl rfl (by decide)) (Ev.dcall (f := 113) (P := Vi (subS (Txt.item L2 (j : Int)) (Txt.item S2 (i : Int)))) X2 (by k_is) rfl (Ev.glob X2 T3 (by k_is) rfl rfl (by decide)) (Args.cons (Ev.locS fbc rfl rfl (by decide)) (Args.cons (Ev.sign (k := i) (Ev.locS fa rfl rfl (by decide)) (Ev.locI rfl rfl rfl (by decide)) (by omega) (by omega) (by omega) (fun _ _ => rfl) (fun _ _ => rfl)) Args.nil rfl) rfl) ?_ rfl rfl)) rfl rfl rfl ?_
      · rintro _ _ ⟨v1, q1, vs1, rfl, ⟨u1, rfl⟩, q2, v2, q3, vs2, rfl, ⟨u2, rfl⟩, q4, rfl⟩
        intro s5 Q5 F5 N5 k5
        k_dflt (refine' (sub_claim _ _ _ ?h1 ?h2 _ _).use ?k1 ?k2 ?k3 ?k4 ?k5 ?kK ?kd ?ku ?_; (case k1 => k_asm); (case k2 => exact F5); (case k3 => k_asm); (case k4 => exact N5); (case k5 => k_asm); (case kK => first | exact rfl | assumption); (case h1 => rfl); (case h2 => rfl); (case kd => ktr_room); (case ku => ktr_units))
        rintro r h' tk' ⟨t, rfl⟩ F6 N6
        exact k5 _ h' tk' ⟨t, rfl⟩ F6 N6
      rintro _ _ ⟨⟨ts, rfl⟩, _⟩
      refine Bl.asg (Ev.at (k := i) fr rfl (.head _) ho (by omega) (by omega) htv rfl rfl rfl (by decide) (by decide)) rfl rfl rfl ?_
      rintro _ _ rfl
      refine Bl.asg (Ev.vi (Ev.add (Ev.min (Ev.built X2 T3 (by k_is) (by boot_by_name) (by decide) rfl rfl (by decide)) (Ev.locI fres rfl rfl (by decide)) (Ev.locI rfl rfl rfl (by decide)) rfl rfl rfl rfl rfl) (Ev.glob X2 T3 (by k_is) rfl rfl (by decide)).toI)) rfl rfl rfl ?_
      rintro _ _ ⟨tid, rfl⟩
      refine Bl.asg (Ev.min (Ev.built X2 T3 (by k_is) (by boot_by_name) (by decide) rfl rfl (by decide)) (Ev.locI rfl rfl rfl (by decide)) (Ev.locI rfl rfl rfl (by decide)) rfl rfl rfl rfl rfl) rfl rfl rfl ?_
      rintro _ _ ⟨trs, rfl⟩
      generalize hV : (if dis + subS (Txt.item L2 (j : Int)) (Txt.item S2 (i : Int)) < (if zs.getD i 0 < res then zs.getD i 0 else res) + 2 then dis + subS (Txt.item L2 (j : Int)) (Txt.item S2 (i : Int)) else (if zs.getD i 0 < res then zs.getD i 0 else res) + 2) = V
      obtain ⟨c1, c2, c3⟩ := cell_one hzs hi hj hdis hres hV.symm
      refine Bl.put (k := i) fr rfl rfl rfl ho hD2 (by omega) (by simp [hlen]; omega) (by omega) rfl rfl rfl rfl (by decide) (by decide) (by decide) rfl ?_
      intro o' ho'
      have hI2 : IntsAre (us.set i (.int V trs)) (zs.set i V) := ints_set hI i V trs
      have hu' : (us.toArray.setIfInBounds (i : Int).toNat (.int V trs)) = (us.set i (.int V trs)).toArray := by
        rw [Int.toNat_natCast]; simp
      rw [hu'] at ho'
      rw [c3] at hI2
      refine Bl.cut (R1 := fun f m3 n3 _ => f = .next ∧ n3 = (D, o') :: (news2 ++ own ++ own2) ∧ La (fset (fset (fset (fset (fset m2 (Str.ofString "index") (.int i ti)) (Str.ofString "substitute") (.int (dis + subS (Txt.item L2 (j : Int)) (Txt.item S2 (i : Int))) ts)) (Str.ofString "distance") (.int (zs.getD i 0) tv)) (Str.ofString "insert_delete") (.int ((if zs.getD i 0 < res then zs.getD i 0 else res) + 2) tid)) (Str.ofString "result") (.int V trs)) mn V m3)
        (St.ite (Te.cmpI (Ev.locI rfl rfl rfl (by decide)) (Ev.locI fmn rfl rfl (by decide)) (by decide) rfl) ?_ ?_) ?_
      · intro hb
        have hlt := of_decide_eq_true hb.symm
        refine Bl.asg (Ev.locI rfl rfl rfl (by decide)) rfl rfl rfl ?_
        rintro _ _ ⟨t4, rfl⟩
        exact Bl.nil fun _ => ⟨rfl, rfl, V, t4, by omega, by omega, rfl⟩
      · intro hb
        have hge := of_decide_eq_false hb.symm
        exact Bl.nil fun _ => ⟨rfl, rfl, mn, t3, by omega, by omega, (fset_self (by exact fmn)).symm⟩
      · rintro _ _ _ _ ⟨rfl, rfl, mn', t4, hmn1, hmn2, rfl⟩
        refine Bl.nil fun _ => .inl ⟨rfl, (D, o') :: (news2 ++ own), fun p hp => ?_, fun p hp => .tail _ (List.mem_append_right _ hp), rfl, o', _, _, V, zs.getD i 0, mn', trs, tv, t4, rfl, ho', hI2, rfl, c2, .inr ⟨by omega, c1⟩, fun i' hi' => ?_, ⟨fa, fb, fm, fr⟩, fbc, rfl, rfl, rfl⟩
        · rcases List.mem_cons.mp hp with e | hp
          · rw [e]; exact .head _
          · exact .tail _ (List.mem_append_left _ hp)
        · by_cases e : i' = i
          · subst e; rw [← c1]; exact hmn2
          · exact Int.le_trans hmn1 (hmn i' (by omega))
    · exact fun m2 n2 tk h => ⟨rfl, h⟩
    · rintro _ m2 n2 tk ⟨rfl, o, us, zs, res, dis, mn, t1, t2, t3, rfl, ho, hI, hzs, hdis, hres, hmn, ⟨fa, fb, fm, fr⟩, fbc, fres, fdis, fmn⟩
      have hn2 : ∀ p ∈ (D, o) :: (news2 ++ own), p ∈ (D, o) :: (news2 ++ own) := fun _ hp => hp
      show Bl _ _ _ _ _
      refine Bl.iff (Te.cmpI (Ev.locI fmn rfl rfl (by decide)) (Ev.locI fm rfl rfl (by decide)) (by decide) rfl) ?_ ?_
      · intro hb
        have hlt := of_decide_eq_true hb.symm
        refine Bl.ret (Ev.add (Ev.locI fm rfl rfl (by decide)) (Ev.vi Ev.kint)) ?_
        rintro v tk ⟨⟨t, rfl⟩, h⟩
        refine .inr ⟨_, rfl, .inr ⟨_, rfl, _, rfl, ⟨t, _, rfl, lev_over hStrip ?_, .inl h⟩, fun p hp => hn2 p (.tail _ (List.mem_append_left _ (hnews p hp)))⟩⟩
        rw [← hS5]
        exact above_ed (by rw [cp_len]; exact hS4) (by rw [cp_len]; exact hj) fun i hi => by
          rw [cp_len] at hi
          have := hmn i hi
          omega
      · intro _
        refine Bl.nil fun _ => .inl ⟨rfl, (D, o) :: news2, fun p hp => ?_, fun p hp => hn2 p (.tail _ (List.mem_append_right _ hp)), rfl, o, us, zs, res, t1, rfl, ho, hI, ?_, ⟨fa, fb, fm, fr⟩, fres, .inr ?_⟩
        · rcases List.mem_cons.mp hp with e | hp
          · exact hn2 p (by rw [e]; exact .head _)
          · exact hn2 p (.tail _ (List.mem_append_left _ hp))
        · have h := rowAt_full (cp S2) (cp L2) j
          rw [cp_len] at h
          rw [hzs, h]
        · rcases hres with ⟨h, _⟩ | ⟨_, h⟩
          · omega
          · exact h
  · rintro m1 n1 tk ⟨o, us, zs, res, tr, rfl, ho, hI, hzs, ⟨fa, fb, fm, fr⟩, fres, hres⟩
    refine .inl ⟨rfl, tr, fun p hp => .tail _ (hnews p hp), ?_⟩
    refine fres.trans (congrArg (fun z => some (Value.int z tr)) ?_)
    rcases hres with h | h
    · omega
    · have e := R_full (cp S2) (cp L2)
      rw [cp_len, cp_len] at e
      rw [h, e]
  rintro _ m' n' tk (⟨rfl, t, hn, fres⟩ | ⟨v, rfl, hR⟩)
  · show Bl _ _ _ _ _
    refine Bl.retR (Ev.locI fres rfl rfl (by decide)) ?_ hn
    rintro v tk ⟨t, rfl⟩
    exact ⟨t, _, rfl, lev_fin hStrip (by rw [cp_len]; omega) (by rw [cp_len]; omega) (by rw [← hS5]) (by rw [cp_len, cp_len]; omega), .inr (by omega)⟩
  · exact hR
end Mine
end
section
local macro_rules | `(tactic| omega) => `(tactic| lia)
open PySem PySem.W PyProof PyProof.Rows
set_option Elab.async false
set_option maxRecDepth 100000
set_option maxHeartbeats 100000000
namespace Mine
noncomputable def LIT : Str := Str.ofString "aB'\"\\\n\t\r\x00\x7fé\xa0€\u2028 7"
theorem lit_cp : cp LIT = menu := by decide +kernel
theorem lit_item (a : Int) : ∃ c ∈ menu, Txt.item LIT (a.fmod 16) = ⟨#[c]⟩ := by
  have h0 : 0 ≤ a.fmod 16 := Int.fmod_nonneg_of_pos a (by decide)
  have h1 : a.fmod 16 < 16 := Int.fmod_lt_of_pos a (by decide)
  have hl : LIT.length = 16 := by decide +kernel
  refine ⟨_, ?_, it_pos h0 (by rw [hl]; exact h1)⟩
  rw [lit_cp]
  have hlt : (a.fmod 16).toNat < menu.length := by show _ < 16; omega
  simp only [List.getD, List.getElem?_eq_getElem hlt, Option.getD_some]
  exact List.getElem_mem hlt
theorem join_cp : ∀ (xs : List Str), cp (Txt.join (Str.ofString "") xs) = xs.flatMap cp := by
  intro xs
  have key : ∀ xs : List Str, cp (Str.join (Str.ofString "") xs) = xs.flatMap cp := by
    intro xs
    induction xs with
    | nil => rfl
    | cons x r ih =>
      cases r with
      | nil => rw [List.flatMap_cons, List.flatMap_nil, List.append_nil]; rfl
      | cons y r =>
        show cp (x ++ Str.ofString "" ++ Str.join (Str.ofString "") (y :: r)) = _
        rw [cp_app, cp_app, ih, show cp (Str.ofString "") = [] from by decide +kernel, List.append_nil]
        rfl
  have e : Txt.join (Str.ofString "") xs = Str.join (Str.ofString "") xs := StrLaws.glued_eq_join _ _
  rw [e]; exact key xs
theorem whole_ok (ns : List Int) (W : Str) (h : Str.ofString "é" ++ Txt.join (Str.ofString "") (List.map (fun a => Txt.item (Str.ofString "aB'\"\\\n\t\r\x00\x7fé\xa0€\u2028 7") (a.fmod 16)) ns) = W) :
    (∀ c ∈ cp W, c ∈ menu) ∧ (∃ l, cp W = 233 :: l) ∧ W.length = 1 + ns.length := by
  have e : cp W = 233 :: (ns.map (fun a => Txt.item LIT (a.fmod 16))).flatMap cp := by
    rw [← h, cp_app, join_cp]
    rw [show cp (Str.ofString "é") = [233] from by decide +kernel]
    rfl
  have key : ∀ ns : List Int, (∀ c ∈ (ns.map (fun a => Txt.item LIT (a.fmod 16))).flatMap cp, c ∈ menu) ∧ ((ns.map (fun a => Txt.item LIT (a.fmod 16))).flatMap cp).length = ns.length := by
    intro ns
    induction ns with
    | nil => simp
    | cons n ns ih =>
      obtain ⟨c, hc, e⟩ := lit_item n
      rw [List.map_cons, List.flatMap_cons, e]
      refine ⟨?_, ?_⟩
      · intro d hd
        rcases List.mem_append.mp hd with h | h
        · have : d = c := by simpa [cp] using h
          rw [this]; exact hc
        · exact ih.1 d h
      · rw [List.length_append, ih.2]
        show 1 + ns.length = _
        rw [List.length_cons]; omega
  refine ⟨?_, ⟨_, e⟩, ?_⟩
  · rw [e]
    intro c hc
    rcases List.mem_cons.mp hc with h | h
    · rw [h]; decide
    · exact (key ns).1 c h
  · rw [← cp_len, e, List.length_cons, (key ns).2]; omega
theorem text_ok (W T : Str) (h : Txt.slice W none (some 6) = T) : cp T = (cp W).take 6 := by
  rw [← h]
  by_cases h6 : (6 : Int) ≤ W.length
  · rw [sl_to (by omega) h6]; rfl
  · rw [sl_to_over (by omega), List.take_of_length_le (by rw [cp_len]; omega)]
theorem text_facts (W T : Str) (h : Txt.slice W none (some 6) = T) (hm : ∀ c ∈ cp W, c ∈ menu) (hh : ∃ l, cp W = 233 :: l) : (∀ c ∈ cp T, c ∈ menu) ∧ (∃ l, cp T = 233 :: l) ∧ T.length ≤ 6 ∧ 1 ≤ T.length := by
  have e := text_ok W T h
  obtain ⟨l, hl⟩ := hh
  have e2 : cp T = 233 :: l.take 5 := by rw [e, hl]; rfl
  refine ⟨?_, ⟨_, e2⟩, ?_, ?_⟩
  · rw [e]; intro c hc; exact hm c (List.mem_of_mem_take hc)
  · rw [← cp_len, e]; simp; omega
  · rw [← cp_len, e2]; simp
theorem side_ok (k : Int) (S : Str) (h : Txt.item (Str.ofString "<>^") (k.fmod 3) = S) : ∃ a, a ∈ [60, 62, 94] ∧ S = ⟨#[a]⟩ := by
  have h0 : 0 ≤ k.fmod 3 := Int.fmod_nonneg_of_pos k (by decide)
  have h1 : k.fmod 3 < 3 := Int.fmod_lt_of_pos k (by decide)
  have hl : (Str.ofString "<>^").length = 3 := by decide +kernel
  rw [it_pos h0 (by rw [hl]; exact h1), show cp (Str.ofString "<>^") = [60, 62, 94] from by decide +kernel] at h
  refine ⟨_, ?_, h.symm⟩
  have hlt : (k.fmod 3).toNat < [60, 62, 94].length := by show _ < 3; omega
  simp only [List.getD, List.getElem?_eq_getElem hlt, Option.getD_some]
  exact List.getElem_mem hlt
theorem fill_ok (k : Int) (h0 : 0 ≤ k) (h1 : k < 48) (S : Str) (h : Txt.item (Str.ofString "*x0 ") (k.fdiv 12) = S) : ∃ a, a ∈ [42, 120, 48, 32] ∧ S = ⟨#[a]⟩ := by
  have e : k.fdiv 12 = k / 12 := Int.fdiv_eq_ediv_of_nonneg _ (by omega)
  have hl : (Str.ofString "*x0 ").length = 4 := by decide +kernel
  rw [e, it_pos (by omega) (by rw [hl]; omega), show cp (Str.ofString "*x0 ") = [42, 120, 48, 32] from by decide +kernel] at h
  refine ⟨_, ?_, h.symm⟩
  have hlt : (k / 12).toNat < [42, 120, 48, 32].length := by show _ < 4; omega
  simp only [List.getD, List.getElem?_eq_getElem hlt, Option.getD_some]
  exact List.getElem_mem hlt
noncomputable def wrt (x : Str) (nw : Bool) : List Nat := quo (cp x) :: (cp x).flatMap (wr (quo (cp x)) nw) ++ [quo (cp x)]
noncomputable def WR (x : Str) (nw : Bool) : Str := ⟨(wrt x nw).toArray⟩
theorem WR_cp (x : Str) (nw : Bool) : cp (WR x nw) = wrt x nw := cp_mk _
theorem flat6 (f : Nat → List Nat) (h : ∀ c, (f c).length ≤ 6) : ∀ l : List Nat, (l.flatMap f).length ≤ 6 * l.length
  | [] => by simp
  | c :: l => by
    have := flat6 f h l
    have := h c
    rw [List.flatMap_cons, List.length_append, List.length_cons]; omega
theorem WR_len (x : Str) (nw : Bool) : (WR x nw).length ≤ 2 + 6 * x.length := by
  rw [← cp_len, WR_cp, wrt, List.length_append, List.length_cons]
  have := flat6 (wr (quo (cp x)) nw) (wr_len _ _) (cp x)
  rw [cp_len] at this
  simp only [List.length_singleton]; omega
theorem WR_repr {x : Str} (h : ∀ c ∈ cp x, c ∈ menu) : reprText x = WR x false := cp_inj (by rw [WR_cp, repr_menu h]; rfl)
section
variable {prog : Program} {w : World} {A : Around} {E : Value → Shared → Prop} {s : Shared}
theorem call_repr_m {x : Str} {t : Tok} {Q : Value → Shared → Prop} (hm : ∀ c ∈ cp x, c ∈ menu) (hl : x.length ≤ 64) (h : ∀ t' k, (WR x false).length ≤ 2 + 6 * x.length → Q (.str (WR x false) t') { s with toks := k }) : wpAny (model prog w) A (call (.builtin "repr") [.str x t]) Q E s := by
  have e := WR_repr hm
  have hl' := WR_len x false
  refine P.repr_of_str ?_ (hsz := ?_)
  · rw [e]; exact h _ _ hl'
  · rw [e, PySem.sizeLine_eq]; omega
theorem call_ascii_m {x : Str} {t : Tok} {Q : Value → Shared → Prop} (hm : ∀ c ∈ cp x, c ∈ menu) (hl : x.length ≤ 64) (h : ∀ t' k, (WR x true).length ≤ 2 + 6 * x.length → Q (.str (WR x true) t') { s with toks := k }) : wpAny (model prog w) A (call (.builtin "ascii") [.str x t]) Q E s := by
  have e := WR_repr hm
  have hl' := WR_len x false
  refine call_ascii (repr_signs hm) (by rw [e]; omega) fun t' k => ?_
  have e2 : (⟨((cp (reprText x)).flatMap asc).toArray⟩ : Str) = WR x true := by
    rw [asc_repr hm]; rfl
  rw [e2]
  exact h t' k (WR_len x true)
end
theorem menu_lt : ∀ c ∈ menu, c < 65536 := by decide
theorem wr_claim_m (w : World) (x : Str) (nw : Bool) (hm : ∀ c ∈ cp x, c ∈ menu) (hx : x.length ≤ 64) (tx : Tok) : Claim w 3 134 [.str x tx, .bool nw] (fun r => ∃ t, r = .str (WR x nw) t ∧ (WR x nw).length ≤ 2 + 6 * x.length) := by
  intro p loose mean mg mb dp un gd cn cs a ccd cl outer A₀ base h₀ L m news s Q E B F X N T hk hdp hun hret
  refine (wr_claim2 w x nw hx (fun c hc => menu_lt c (hm c hc)) tx) p loose mean mg mb dp un gd cn cs a ccd cl outer A₀ base h₀ L m news s Q E B F X N T hk hdp hun ?_
  intro r h' tk' hp F' N'
  obtain ⟨t, S, rfl, hS⟩ := hp
  have e : S = WR x nw := cp_inj (by rw [hS, WR_cp]; rfl)
  exact hret _ h' tk' ⟨t, by rw [e], WR_len x nw⟩ F' N'
theorem shp2 {a b : PyData} (ha : a.canLay0 = true) (hb : b.canLay0 = true) (da : a.depth = 0) (db : b.depth = 0) : SeqAt.shaped (.list [a, b]) = true := by
  simp [SeqAt.shaped, PyData.canLay0, PyData.canLayAll0, PyData.depth, PyData.depthAll, ha, hb, da, db]
theorem ok_of {x : Str} (h : ∀ c ∈ cp x, c < 65536) : (PyData.str x).canLay0 = true := by
  show PyData.strOk x = true
  unfold PyData.strOk
  rw [Array.all_eq_true']
  intro c hc
  have := h c (by simpa [cp] using hc)
  simp; omega
theorem ok_menu {x : Str} (h : ∀ c ∈ cp x, c ∈ menu) : (PyData.str x).canLay0 = true := ok_of (fun c hc => menu_lt c (h c hc))
theorem wr_lt : ∀ c ∈ menu, ∀ q ∈ [34, 39], ∀ nw, ∀ d ∈ wr q nw c, d < 65536 := by decide +kernel
theorem wrt_lt {x : Str} {nw : Bool} (h : ∀ c ∈ cp x, c ∈ menu) : ∀ c ∈ cp (WR x nw), c < 65536 := by
  have hq := quo_mem (cp x)
  simp only [List.mem_cons, List.not_mem_nil, or_false] at hq
  rw [WR_cp]
  intro d hd
  simp only [wrt, List.mem_append, List.mem_cons, List.mem_flatMap, List.not_mem_nil, or_false] at hd
  rcases hd with (e | ⟨c, hc, hd⟩) | e
  · omega
  · exact wr_lt c (h c hc) _ (quo_mem _) nw d hd
  · omega
theorem ok_WR {x : Str} {nw : Bool} (h : ∀ c ∈ cp x, c ∈ menu) : (PyData.str (WR x nw)).canLay0 = true := ok_of (wrt_lt h)
theorem tot_cp : ∀ n : Nat, n < 100 → cp (Str.ofString (toString (n : Int))) = wtxt n := by decide +kernel
theorem ok_tot {k : Int} (h0 : 0 ≤ k) (h1 : k < 100) : (PyData.str (Str.ofString (toString k))).canLay0 = true := by
  obtain ⟨n, rfl⟩ : ∃ n : Nat, k = n := ⟨k.toNat, by omega⟩
  refine ok_of (fun c hc => ?_)
  rw [tot_cp n (by omega)] at hc
  have := wtxt_small n (by omega) c hc
  omega

theorem wrt_wtx (x : Str) (nw : Bool) : cp (WR x nw) = wtx (cp x) nw := WR_cp x nw
theorem WR_pos (x : Str) (nw : Bool) : 2 ≤ (WR x nw).length := by
  rw [← cp_len, WR_cp, wrt, List.length_append, List.length_cons]
  simp only [List.length_singleton]; omega
noncomputable def cellS (x : Str) (f a : Nat) (room : Int) : Str := ⟨(cellL (cp x) f a room.toNat).toArray⟩
theorem cellS_cp (x : Str) (f a : Nat) (room : Int) : cp (cellS x f a room) = cellL (cp x) f a room.toNat := cp_mk _
theorem cellS_len {x : Str} {f a : Nat} {room : Int} (h0 : 0 ≤ room) : ((cellS x f a room).length : Int) = x.length + room := by
  rw [← cp_len, cellS_cp, cell_len, cp_len]; omega
section
variable {prog : Program} {w : World} {A : Around} {E : Value → Shared → Prop} {s : Shared}
theorem call_format_m {x sp : Str} {f a : Nat} {room : Int} {t u : Tok} {Q : Value → Shared → Prop} (hf : f ∈ [42, 120, 48, 32]) (ha : a ∈ [60, 62, 94]) (h0 : 0 ≤ room) (h3 : room ≤ 3) (hl : x.length ≤ 38) (h1 : 1 ≤ x.length)
    (hsp : sp = ⟨#[f]⟩ ++ ⟨#[a]⟩ ++ Str.ofString (toString ((x.length : Int) + room))) (h : ∀ t' k, ((cellS x f a room).length : Int) = x.length + room → Q (.str (cellS x f a room) t') { s with toks := k }) :
    wpAny (model prog w) A (call (.builtin "format") [.str x t, .str sp u]) Q E s := by
  have hW : x.length + room.toNat < 100 := by omega
  have e : (x.length : Int) + room = ((x.length + room.toNat : Nat) : Int) := by omega
  refine call_format (f := f) (a := a) (W := x.length + room.toNat) ?_ ha ?_ hW (okSpec_all _ hW f hf a ha (by omega)) (by omega) fun t' k => ?_
  · rw [hsp, cp_app, cp_app, e, tot_cp _ hW]; rfl
  · have key : ∀ f ∈ [42, 120, 48, 32], f < 128 := by decide
    exact key f hf
  · rw [Nat.add_sub_cancel_left]
    exact h t' k (cellS_len h0)
noncomputable def barS (k : Nat) : Str := ⟨(List.replicate k 42).toArray⟩
theorem barS_cp (k : Nat) : cp (barS k) = List.replicate k 42 := cp_mk _
theorem barS_len (k : Nat) : (barS k).length = k := by rw [← cp_len, barS_cp]; simp
theorem call_bar {sp x : Str} {t u : Tok} {Q : Value → Shared → Prop} (W : Nat) (hx : x = Str.ofString "") (hs : cp sp = 42 :: 60 :: wtxt W) (hW : W < 100) (h1 : 1 ≤ W)
    (h : ∀ t' k, (barS W).length = W → Q (.str (barS W) t') { s with toks := k }) : wpAny (model prog w) A (call (.builtin "format") [.str x t, .str sp u]) Q E s := by
  subst hx
  refine call_format (f := 42) (a := 60) (W := W) hs (by decide) (by decide) hW (okSpec_all _ hW 42 (by decide) 60 (by decide) h1) (by decide) fun t' k => ?_
  have e : cellL (cp (Str.ofString "")) 42 60 (W - (Str.ofString "").length) = List.replicate W 42 := by
    rw [show cp (Str.ofString "") = [] from by decide +kernel, show (Str.ofString "").length = 0 from by decide +kernel]
    simp [cellL]
  rw [e]
  exact h t' k (barS_len W)
end
theorem cell_claim_m (w : World) (x : Str) (f a : Nat) (room : Int) (hx : x.length ≤ 1000) (ha : a ∈ [60, 62, 94]) (h0 : 0 ≤ room) (h3 : room ≤ 3) (tx tf ta tr : Tok) : Claim w 1 141 [.str x tx, .str ⟨#[f]⟩ tf, .str ⟨#[a]⟩ ta, .int room tr] (fun r => ∃ t, r = .str (cellS x f a room) t) := by
  intro p loose mean mg mb dp un gd cn cs a' ccd cl outer A₀ base h₀ L m news s Q E B F X N T hk hdp hun hret
  refine (cell_claim2 w x f a room hx ha h0 h3 tx tf ta tr) p loose mean mg mb dp un gd cn cs a' ccd cl outer A₀ base h₀ L m news s Q E B F X N T hk hdp hun ?_
  intro r h' tk' hp F' N'
  obtain ⟨t, S, rfl, hS⟩ := hp
  exact hret _ h' tk' ⟨t, by rw [show S = cellS x f a room from cp_inj (by rw [hS, cellS_cp])]⟩ F' N'
/-- what the measure gives, where the measure is known -/
theorem lev_exact {a b : List Nat} {mc n v : Int} (h : LevOk a b mc n) (ha : a.length ≤ 40) (hb : b.length ≤ 40) (he : ed a b = v) (hv : v ≤ mc + 1) : n = v := by
  obtain ⟨h1, h2⟩ := h.1 ha hb
  by_cases q : ed a b ≤ mc
  · rw [h1 q, he]
  · rcases h2 (by omega) with e | e <;> omega
section
variable {T : Str} {mc n room : Int} {f a : Nat} (hm : ∀ c ∈ cp T, c ∈ menu) (hl : T.length ≤ 6) (hf : f ∈ [42, 120, 48, 32]) (h0 : 0 ≤ room) (h3 : room ≤ 3) (hh : ∃ l, cp T = 233 :: l)
include hm hl
theorem lev01 (h : LevOk (cp T) (cp (WR T false)) mc n) (hmc : 2 * ((WR T false).length - ((T.length : Int) - (cp T).countP lostp)) = mc) : n = mc := by
  have e := ed_wide hm
  have l2 := WR_len T false
  rw [← wrt_wtx, cp_len, cp_len] at e
  exact lev_exact h (by rw [cp_len]; omega) (by rw [cp_len]; omega) (e.trans hmc) (by omega)
theorem lev02 (h : LevOk (cp T) (cp (WR T true)) mc n) (hmc : 2 * ((WR T true).length - ((T.length : Int) - (cp T).countP lostp - (cp T).countP byp)) = mc) : n = mc := by
  have e := ed_two hm
  have l2 := WR_len T true
  rw [← wrt_wtx, cp_len, cp_len] at e
  exact lev_exact h (by rw [cp_len]; omega) (by rw [cp_len]; omega) (e.trans hmc) (by omega)
theorem lev12 (h : LevOk (cp (WR T false)) (cp (WR T true)) mc n) (hmc : 2 * ((WR T true).length - (((WR T false).length : Int) - (cp T).countP byp)) = mc) : n = mc := by
  have e := ed_narrow hm
  have l2 := WR_len T true
  have l3 := WR_len T false
  rw [← wrt_wtx, ← wrt_wtx, cp_len, cp_len] at e
  exact lev_exact h (by rw [cp_len]; omega) (by rw [cp_len]; omega) (e.trans hmc) (by omega)
theorem WR_less (hh : ∃ l, cp T = 233 :: l) (nw : Bool) : (WR T nw).length ≤ 6 * T.length := by
  obtain ⟨l, e⟩ := hh
  rw [← cp_len, WR_cp, wrt, List.length_append, List.length_cons, ← cp_len T]
  have hq := quo_mem (cp T)
  revert hq
  generalize quo (cp T) = q
  intro hq
  rw [e]
  have h1 := flat6 (wr q nw) (wr_len _ _) l
  have key : ∀ q ∈ [34, 39], ∀ nw, (wr q nw 233).length ≤ 4 := by decide +kernel
  have h2 := key q hq nw
  rw [List.flatMap_cons, List.length_append, List.length_cons]
  have : [q].length = 1 := rfl
  have : ([] : List Nat).length = 0 := rfl
  have : (233 :: l).length = l.length + 1 := rfl
  omega
include hf h0 h3 hh
theorem lev03 (h : LevOk (cp T) (cp (cellS (WR T true) f a room)) mc n) (v : Int) (hmc : 2 * ((WR T true).length + room - ((T.length : Int) - (cp T).countP lostp - (cp T).countP byp)) = v) (hv : v ≤ mc + 1) : n = v := by
  have e := (ed_cell (a := a) (r := room.toNat) hm hf).1
  have l2 := WR_less hm hl hh true
  have l3 := cellS_len (x := WR T true) (f := f) (a := a) h0
  rw [← wrt_wtx, ← cellS_cp, cp_len, cp_len] at e
  exact lev_exact h (by rw [cp_len]; omega) (by rw [cp_len]; omega) (e.trans (by omega)) hv
theorem lev30 (h : LevOk (cp (cellS (WR T true) f a room)) (cp T) mc n) (v : Int) (hmc : 2 * ((WR T true).length + room - ((T.length : Int) - (cp T).countP lostp - (cp T).countP byp)) = v) (hv : v ≤ mc + 1) : n = v := by
  have e := (ed_cell (a := a) (r := room.toNat) hm hf).1
  have l2 := WR_less hm hl hh true
  have l3 := cellS_len (x := WR T true) (f := f) (a := a) h0
  rw [← wrt_wtx, ← cellS_cp, cp_len, cp_len, ed_comm] at e
  exact lev_exact h (by rw [cp_len]; omega) (by rw [cp_len]; omega) (e.trans (by omega)) hv
theorem lev13 (h : LevOk (cp (WR T false)) (cp (cellS (WR T true) f a room)) mc n) (hmc : 2 * ((WR T true).length + room - (((WR T false).length : Int) - (cp T).countP byp)) = mc) : n = mc := by
  have e := (ed_cell (a := a) (r := room.toNat) hm hf).2.1
  have l2 := WR_less hm hl hh true
  have l4 := WR_less hm hl hh false
  have l3 := cellS_len (x := WR T true) (f := f) (a := a) h0
  rw [← wrt_wtx, ← wrt_wtx, ← cellS_cp, cp_len, cp_len] at e
  exact lev_exact h (by rw [cp_len]; omega) (by rw [cp_len]; omega) (e.trans (by omega)) (by omega)
theorem lev23 (h : LevOk (cp (WR T true)) (cp (cellS (WR T true) f a room)) mc n) (hmc : 2 * room = mc) : n = mc := by
  have e := (ed_cell (a := a) (r := room.toNat) hm hf).2.2
  have l2 := WR_less hm hl hh true
  have l3 := cellS_len (x := WR T true) (f := f) (a := a) h0
  rw [← wrt_wtx, ← cellS_cp] at e
  exact lev_exact h (by rw [cp_len]; omega) (by rw [cp_len]; omega) (e.trans (by omega)) (by omega)
end
/-- the length alone -/
theorem lev_beside {x y : Str} {mc n : Int} (h : LevOk (cp x) (cp y) mc n) (hmc : mc + 1 = 2 * ((y.length : Int) - x.length)) : n = mc + 1 :=
  h.2.2 (by rw [cp_len, cp_len]; exact hmc)
theorem lev_swap {T S : Str} {mc n : Int} (hm : ∀ c ∈ cp T, c ∈ menu) (hl : T.length ≤ 6) (hS : cp S = (cp T).map swp) (h : LevOk (cp T) (cp S) mc n) (hmc : mc = (cp T).countP letp) : n = mc := by
  have e := ed_swapped hm
  rw [hS] at h
  exact lev_exact h (by rw [cp_len]; omega) (by rw [List.length_map, cp_len]; omega) (e.trans hmc.symm) (by omega)
theorem lev_turn {T S : Str} {n : Int} (hm : ∀ c ∈ cp T, c ∈ menu) (hl : T.length ≤ 6) (hh : ∃ l, cp T = 233 :: l) (hS : cp S = (cp T).drop 1 ++ (cp T).take 1) (h : LevOk (cp T) (cp S) 4 n) : n = if S == T then 0 else 4 := by
  obtain ⟨l, e⟩ := hh
  have hS' : cp S = l ++ [233] := by rw [hS, e]; rfl
  have hlen : (cp S).length ≤ 40 := by
    rw [hS']
    have := congrArg List.length e
    rw [cp_len] at this
    simp only [List.length_append, List.length_cons, List.length_nil] at this ⊢
    omega
  by_cases q : S = T
  · subst q
    rw [if_pos (beq_self_eq_true S)]
    exact lev_exact h (by rw [cp_len]; omega) hlen (ed_refl _) (by omega)
  · have hb : (S == T) = false := by simpa using q
    rw [hb]
    refine lev_exact h (by rw [cp_len]; omega) hlen ?_ (by omega)
    rw [hS', e]
    refine ed_turned (by rw [← e]; exact hm) fun h => q (cp_inj (by rw [hS', e]; exact h))
theorem lev_bar40 {x : Str} {n : Int} {c : Nat} (hx : cp x = [c]) (hc : c ∈ menu) (h : LevOk (cp x) (cp (barS 40)) 90 n) : n = 80 := by
  rw [hx, barS_cp] at h
  exact lev_exact h (by simp) (by simp) (ed_bar hc 40 (by omega)) (by omega)
theorem lev_bar41 {x : Str} {n : Int} {c : Nat} (hx : cp x = [c]) (hc : c ∈ menu) (h : LevOk (cp x) (cp (barS 41)) 90 n) : n = 91 := by
  rw [hx, barS_cp] at h
  have key : ∀ c ∈ menu, c ≠ 42 := by decide +kernel
  refine h.2.1 (by simp) (by simp) fun u hu v hv => ?_
  rw [List.mem_singleton.mp hu, (List.mem_replicate.mp hv).2]
  exact key c hc
end Mine
end
section
local macro_rules | `(tactic| omega) => `(tactic| lia)
open PySem PySem.W PyProof PyProof.Rows
set_option Elab.async false
set_option maxRecDepth 100000
set_option maxHeartbeats 100000000
set_option rowWalk.seconds 0
namespace Mine
/-- a call out of the law's own frame that is handed the object fm of the class Formatter -/
noncomputable def ClaimT (w : World) (n : Nat) (f : Addr) (fm dx : Addr) (vs : List Value) (Post : Value → Prop) : Prop :=
  ∀ (p : Program) (loose : List Str) (mean : ExcName → Option Value) (mg mb : Str → Option Value) (dp un : Nat) (gd : Option (List Code)) (cn : Str) (cs : Scope) (a : Addr) (ccd : Value) (cl : List (Str × Addr)) (A₀ : Around) (base h₀ : Heap) (L : Addr) (m : Str → Option Value) (news : List (Addr × Obj)) (s : Shared) (Q E : Value → Shared → Prop),
    Below A₀ base [] h₀ → (hd.heap_39 w.params).In base → Top p loose mean mg mb base → Fr h₀ L s.heap m → (hd.heap_39 w.params).In h₀ → News h₀ L s.heap ((fm, instObj 102 dx) :: (dx, dictOf [] 0) :: news) → Top p loose mean mg mb h₀ → cs.kind = .function → dp + n < recursionLimit → un + 8 * n + 8 < cLine →
    (∀ (r : Value) (h' : Heap) (tk' : Nat), Post r → Fr h₀ L h' m → News h₀ L h' ((fm, instObj 102 dx) :: (dx, dictOf [] 0) :: news) → Q r { s with heap := h', toks := tk' }) →
      wpAny (model PySem.Challenge.rw_ik0037_01.row.prog w) (ktrTop dp un gd cn cs L a ccd cl []) (call (.ref f) vs) Q E s
local macro_rules | `(tactic| walk_at "call builtin:str.format") => `(tactic| ((refine call_fmt (by omega) ?_); intro S9 t9 k9 hS9))
local macro_rules | `(tactic| walk_at "call ref") => `(tactic| k_dflt (k_extra "my call"))
theorem refused_claimT (w : World) (x y : Str) (fm dx : Addr) (hx : x.length ≤ 1000) (hy : y.length ≤ 1000) (hys : (y == Str.ofString "s") = false) (hyr : (y == Str.ofString "r") = false) (hya : (y == Str.ofString "a") = false) (tx ty : Tok) : ClaimT w 5 148 fm dx [.ref fm, .str x tx, .str y ty] (fun r => r = .bool true) := by
  k_with_none
  k_with "my call" =>
    (with_reducible show wpAny _ _ (call (Value.ref 85) _) _ _ _)
    refine wpAny_call ?_
    refine' code_defS ?k1 ?k2 ?k3 ?k4 ?k5 ?XB ?TB ?D ?T0 ?kA ?k6 ?k7 ?k8 ?k9 ?kB ?_ ?cK ?c2 ?c3 ?c4 ?c5
    case kA => exact rfl
    case k2 => k_asm
    case k1 => k_asm
    case XB => assumption
    case TB => assumption
    case D => assumption
    case T0 => first | assumption | exact KtsTurn.refl
    case k3 => k_asm
    case k4 => k_asm
    case k5 => k_asm
    case k6 => k_is
    case k7 => k_is
    case k8 => ktr_room
    case k9 => first | exact binds_K (by k_in) rfl (by k_is) rfl rfl rfl | exact BindsTo.of_eq rfl
    case kB => exact locs rfl
    case cK => exact rfl
    case c2 => exact rfl
    case c3 => exact rfl
    case c4 => exact rfl
    case c5 => decide
    k_whole
    intro g' L' h' FG' F' N' B' X' T' D'
    (try dsimp only)
    (try k_lift B')
    (try k_fold)
  unfold ClaimT
  k_fill
  intro p loose mean mg mb dp un gd cn cs a' ccd cl A₀ base h₀ L m news s Q E B XB TB F X N T hk hdp hun hret
  refine wpAny_call ?_
  refine' enter_try ?k1 ?k2 ?k3 ?k4 ?k5 ?kA ?kf ?ke ?k6 ?k7 ?k8 ?k9 ?kB ?_ ?c2 ?c3 ?c4 ?c5
  case kA => exact rfl
  case kf => exact rfl
  case ke => exact hk
  case k2 => k_asm
  case k1 => k_asm
  case k3 => k_asm
  case k4 => k_asm
  case k5 => k_asm
  case k6 => k_is
  case k7 => k_is
  case k8 => ktr_room
  case k9 => first | exact binds_K (by k_in) rfl (by k_is) rfl rfl rfl | exact BindsTo.of_eq rfl
  case kB => exact locs rfl
  case c2 => exact rfl
  case c3 => exact rfl
  case c4 => exact rfl
  case c5 => decide
  k_whole
  intro g' L' h' FG' F' N' B' X' T' D'
  (try dsimp only)
  (try k_lift B')
  (try k_fold)
  rename Fr g' _ _ _ => F1
  have F2 := fr_eq (m' := fun z => if z = Str.ofString "strange" then some (Value.str y ty) else if z = Str.ofString "text" then some (Value.str x tx) else if z = Str.ofString "formatter" then some (Value.ref fm) else none) F1 (by
    intro z
    show List.lookup z [(Str.ofString "strange", Value.str y ty), (Str.ofString "text", Value.str x tx), (Str.ofString "formatter", Value.ref fm)] = _
    rw [lookup_if, lookup_if, lookup_if]
    rfl)
  clear F1
  k_steps
  all_goals exact hret _ _ _ rfl (by assumption) (by assumption)
theorem ClaimT.use {w : World} {n : Nat} {f fm dx : Addr} {vs : List Value} {Post : Value → Prop} (C : ClaimT w n f fm dx vs Post) {p : Program} {loose : List Str} {mean : ExcName → Option Value} {mg mb : Str → Option Value} {dp un : Nat} {gd : Option (List Code)} {cn : Str} {cs : Scope} {a : Addr} {ccd : Value} {cl : List (Str × Addr)} {A₀ : Around} {base h₀ : Heap} {L : Addr} {m : Str → Option Value} {news : List (Addr × Obj)} {s : Shared} {Q E : Value → Shared → Prop}
    (B : Below A₀ base [] h₀) (XB : (hd.heap_39 w.params).In base) (TB : Top p loose mean mg mb base) (F : Fr h₀ L s.heap m) (X : (hd.heap_39 w.params).In h₀) (N : News h₀ L s.heap news) (h1 : (fm, instObj 102 dx) ∈ news) (h2 : (dx, dictOf [] 0) ∈ news) (T : Top p loose mean mg mb h₀) (hk : cs.kind = .function) (hd : dp + n < recursionLimit) (hu : un + 8 * n + 8 < cLine)
    (ret : ∀ (r : Value) (h' : Heap) (tk' : Nat), Post r → Fr h₀ L h' m → News h₀ L h' news → Q r { s with heap := h', toks := tk' }) :
      wpAny (model PySem.Challenge.rw_ik0037_01.row.prog w) (ktrTop dp un gd cn cs L a ccd cl []) (call (.ref f) vs) Q E s :=
  C _ _ _ _ _ _ _ _ _ _ _ _ _ _ _ _ _ _ _ _ _ _ B XB TB F X (fun p hp => by
    rcases List.mem_cons.mp hp with e | hp
    · rw [e]; exact N _ h1
    · rcases List.mem_cons.mp hp with e | hp
      · rw [e]; exact N _ h2
      · exact N p hp) T hk hd hu fun r h' tk' hp F' N' => ret r h' tk' hp F' (news_sub N' fun q hq => List.mem_cons_of_mem _ (List.mem_cons_of_mem _ hq))
/-- a text that opens with an e with an acute accent is none of the words -/
theorem whole_ne {W : Str} (hh : ∃ l, cp W = 233 :: l) {y : Str} {c : Nat} {l' : List Nat} (hy : cp y = c :: l') (hc : c ≠ 233) : (W == y) = false := by
  obtain ⟨l, e⟩ := hh
  have : W ≠ y := fun q => by
    rw [q, hy] at e
    exact hc (List.cons.inj e).1
  simpa using this
end Mine
end
section
local macro_rules | `(tactic| omega) => `(tactic| lia)
open PySem PySem.W PyProof PyProof.Rows
set_option Elab.async false
set_option maxRecDepth 100000
set_option maxHeartbeats 100000000
set_option rowWalk.seconds 0
namespace Mine
local macro_rules | `(tactic| walk_at "call builtin:repr") => `(tactic| ((with_reducible show wpAny _ _ (call (Value.builtin "repr") [Value.str _ _]) _ _ _); (refine call_repr_m (by assumption) (by omega) ?_); intro t9 k9 hR9))
local macro_rules | `(tactic| walk_at "call builtin:ascii") => `(tactic| ((with_reducible show wpAny _ _ (call (Value.builtin "ascii") [Value.str _ _]) _ _ _); (refine call_ascii_m (by assumption) (by omega) ?_); intro t9 k9 hR9))
local macro_rules | `(tactic| walk_at "call type:str") => `(tactic| (k_here; (with_reducible show wpAny _ _ (call (Value.type "str") [Value.str _ _]) _ _ _); refine str_of_str ?_))
theorem conv_r (w : World) (fm : Addr) (x : Str) (hm : ∀ c ∈ cp x, c ∈ menu) (hx : x.length ≤ 64) (tx tc : Tok) : Claim w 1 85 [.ref fm, (.str x tx), (.str (Str.ofString "r") tc)] (fun r => ∃ t, r = .str (WR x false) t ∧ (WR x false).length ≤ 2 + 6 * x.length) := by
  k_with_none
  unfold Claim
  k_fill
  intro p loose mean mg mb dp un gd cn cs a' ccd cl outer A₀ base h₀ L m news s Q E B F X N T hk hdp hun hret
  refine wpAny_call ?_
  k_dflt cell_enter
  generalize s.toks + _ = tk0
  k_steps
  all_goals exact hret _ _ _ ⟨_, rfl, by assumption⟩ (by assumption) (by assumption)
theorem conv_a (w : World) (fm : Addr) (x : Str) (hm : ∀ c ∈ cp x, c ∈ menu) (hx : x.length ≤ 64) (tx tc : Tok) : Claim w 1 85 [.ref fm, (.str x tx), (.str (Str.ofString "a") tc)] (fun r => ∃ t, r = .str (WR x true) t ∧ (WR x true).length ≤ 2 + 6 * x.length) := by
  k_with_none
  unfold Claim
  k_fill
  intro p loose mean mg mb dp un gd cn cs a' ccd cl outer A₀ base h₀ L m news s Q E B F X N T hk hdp hun hret
  refine wpAny_call ?_
  k_dflt cell_enter
  generalize s.toks + _ = tk0
  k_steps
  all_goals exact hret _ _ _ ⟨_, rfl, by assumption⟩ (by assumption) (by assumption)
theorem conv_s (w : World) (fm : Addr) (x : Str) (hx : x.length ≤ 64) (tx tc : Tok) : Claim w 1 85 [.ref fm, (.str x tx), (.str (Str.ofString "s") tc)] (fun r => r = .str x tx) := by
  k_with_none
  unfold Claim
  k_fill
  intro p loose mean mg mb dp un gd cn cs a' ccd cl outer A₀ base h₀ L m news s Q E B F X N T hk hdp hun hret
  refine wpAny_call ?_
  k_dflt cell_enter
  generalize s.toks + _ = tk0
  k_steps
  all_goals exact hret _ _ _ rfl (by assumption) (by assumption)
theorem conv_i (w : World) (fm : Addr) (k : Int) (h0 : 0 ≤ k) (h1 : k < 48) (tx tc : Tok) : Claim w 1 85 [.ref fm, (.int k tx), (.str (Str.ofString "s") tc)] (fun r => ∃ t, r = .str (Str.ofString (toString k)) t) := by
  k_with_none
  unfold Claim
  k_fill
  intro p loose mean mg mb dp un gd cn cs a' ccd cl outer A₀ base h₀ L m news s Q E B F X N T hk hdp hun hret
  refine wpAny_call ?_
  k_dflt cell_enter
  generalize s.toks + _ = tk0
  k_steps
  all_goals exact hret _ _ _ ⟨_, rfl⟩ (by assumption) (by assumption)
theorem conv_n (w : World) (fm : Addr) (v : Value) : Claim w 1 85 [.ref fm, v, .none] (fun r => r = v) := by
  k_with_none
  unfold Claim
  k_fill
  intro p loose mean mg mb dp un gd cn cs a' ccd cl outer A₀ base h₀ L m news s Q E B F X N T hk hdp hun hret
  refine wpAny_call ?_
  k_dflt cell_enter
  generalize s.toks + _ = tk0
  k_steps
  all_goals exact hret _ _ _ rfl (by assumption) (by assumption)
end Mine
end
section
local macro_rules | `(tactic| omega) => `(tactic| lia)
open PySem PySem.W PyProof PyProof.Rows
set_option Elab.async false
set_option maxRecDepth 100000
namespace Mine
theorem cnt_eq {T : Str} {lit : Str} {p : Nat → Bool} (hm : ∀ c ∈ cp T, c ∈ menu) (h : ∀ c ∈ menu, inLit lit c = p c) : (cp T).countP (inLit lit) = (cp T).countP p :=
  List.countP_congr fun c hc => by rw [h c (hm c hc)]
theorem lost_eq {T : Str} (hm : ∀ c ∈ cp T, c ∈ menu) : (cp T).countP (inLit (Str.ofString "\n\t\r\x00\x7f\xa0\u2028")) = (cp T).countP lostp := cnt_eq hm (by decide +kernel)
theorem by_eq {T : Str} (hm : ∀ c ∈ cp T, c ∈ menu) : (cp T).countP (inLit (Str.ofString "é€")) = (cp T).countP byp := cnt_eq hm (by decide +kernel)
theorem let_eq {T : Str} (hm : ∀ c ∈ cp T, c ∈ menu) : (cp T).countP (inLit (Str.ofString "aBé")) = (cp T).countP letp := cnt_eq hm (by decide +kernel)
/-- all that the law's numbers need -/
theorem facts {T : Str} (hm : ∀ c ∈ cp T, c ∈ menu) (hl : T.length ≤ 6) (hh : ∃ l, cp T = 233 :: l) :
    (cp T).countP lostp ≤ T.length ∧ (cp T).countP byp ≤ T.length ∧ (cp T).countP letp ≤ T.length ∧ (WR T true).length ≤ 36 ∧ (WR T false).length ≤ 36 ∧ T.length + 2 ≤ (WR T false).length ∧
    (WR T false).length ≤ (WR T true).length + (cp T).countP byp ∧ T.length + 2 ≤ (WR T true).length := by
  have c1 := List.countP_le_length (p := lostp) (l := cp T)
  have c2 := List.countP_le_length (p := byp) (l := cp T)
  have c3 := List.countP_le_length (p := letp) (l := cp T)
  have l1 := WR_less hm hl hh true
  have l2 := WR_less hm hl hh false
  have e2 := ed_narrow hm
  have n2 := ed_nonneg (wtx (cp T) false) (wtx (cp T) true)
  have key : ∀ q ∈ [34, 39], ∀ nw, ∀ c ∈ menu, 1 ≤ (wr q nw c).length := by decide +kernel
  have more : ∀ nw, T.length + 2 ≤ (WR T nw).length := by
    intro nw
    rw [← cp_len (WR T nw), WR_cp, wrt, List.length_append, List.length_cons, ← cp_len T]
    have hq := quo_mem (cp T)
    revert hq
    generalize quo (cp T) = q
    intro hq
    have flat1 : ∀ l : List Nat, (∀ c ∈ l, c ∈ menu) → l.length ≤ (l.flatMap (wr q nw)).length := by
      intro l
      induction l with
      | nil => intro _; simp
      | cons c l ih =>
        intro hl
        have h1 := ih (fun d hd => hl d (.tail _ hd))
        have h2 := key q hq nw c (hl c (.head _))
        rw [List.flatMap_cons, List.length_append, List.length_cons]; omega
    have := flat1 _ hm
    simp only [List.length_singleton]; omega
  have m1 := more false
  have m2 := more true
  rw [e2, ← wrt_wtx, ← wrt_wtx, cp_len, cp_len] at n2
  rw [cp_len] at c1 c2 c3
  refine ⟨c1, c2, c3, by omega, by omega, m1, by omega, m2⟩
theorem turned_cp {T : Str} (hh : ∃ l, cp T = 233 :: l) : cp (Txt.slice T (some 1) none ++ Txt.slice T none (some 1)) = (cp T).drop 1 ++ (cp T).take 1 := by
  obtain ⟨l, e⟩ := hh
  have h1 : 1 ≤ T.length := by rw [← cp_len, e, List.length_cons]; omega
  rw [cp_app, sl_from (by omega) (by omega), sl_to (by omega) (by omega)]
  rfl
theorem turned_len {T : Str} (hl : T.length ≤ 6) (hh : ∃ l, cp T = 233 :: l) : (Txt.slice T (some 1) none ++ Txt.slice T none (some 1)).length ≤ 1000 := by
  rw [← cp_len, turned_cp hh, List.length_append, List.length_drop, List.length_take, cp_len]; omega
theorem replaceM {prog : Program} {w : World} {A : Around} {E : Value → Shared → Prop} {s : Shared} {x y z : Str} {c d : Nat} {t u v : Tok} {Q : Value → Shared → Prop} (hy : y = ⟨#[c]⟩) (hz : z = ⟨#[d]⟩) (hcd : c ≠ d) (hu : u ≠ 0) (hv : v ≠ 0) (huv : u ≠ v) (hx : x.length ≤ 1000)
    (hq : ∀ R t' k, s.toks ≤ k → cp R = (cp x).map (rep1 c d) → R.length = x.length → Q (.str R t') { s with toks := k }) : wpAny (model prog w) A (call (.builtin "str.replace") [.str x t, .str y u, .str z v]) Q E s := by
  subst hy hz
  refine replaceK hu hv huv (by rw [one_eqW]; simpa using hcd) hx (Nat.le_refl 1) fun t' k hk _ => ?_
  have e := replace_map x c d
  exact hq _ t' k hk e (by rw [← cp_len, e, List.length_map, cp_len])
theorem swap3 {T R1 R2 R3 : Str} (h3 : cp R3 = (cp R2).map (rep1 233 201)) (h2 : cp R2 = (cp R1).map (rep1 66 98)) (h1 : cp R1 = (cp T).map (rep1 97 65)) : cp R3 = (cp T).map swp := by
  rw [h3, h2, h1, List.map_map, List.map_map]; rfl
theorem last_cp {T : Str} (hm : ∀ c ∈ cp T, c ∈ menu) (h1 : 1 ≤ T.length) : ∃ c ∈ menu, cp (Txt.slice T (some (-1)) none) = [c] := by
  have e : cp (Txt.slice T (some (-1)) none) = (cp T).drop ((T.length : Int) + (-1)).toNat := sl_from_neg (by omega) (by omega)
  have hl : ((T.length : Int) + (-1)).toNat = T.length - 1 := by omega
  rw [hl] at e
  have hlen : (cp (Txt.slice T (some (-1)) none)).length = 1 := by rw [e, List.length_drop, cp_len]; omega
  obtain ⟨c, hc⟩ := List.length_eq_one_iff.mp hlen
  refine ⟨c, hm c ?_, hc⟩
  have : c ∈ (cp T).drop (T.length - 1) := by rw [← e, hc]; exact List.mem_singleton.mpr rfl
  exact List.mem_of_mem_drop this
theorem last_len {T : Str} (hm : ∀ c ∈ cp T, c ∈ menu) (h1 : 1 ≤ T.length) : (Txt.slice T (some (-1)) none).length ≤ 1000 := by
  obtain ⟨c, _, e⟩ := last_cp hm h1
  rw [← cp_len, e]; exact (by decide : 1 ≤ 1000)
end Mine
end
section
local macro_rules | `(tactic| omega) => `(tactic| lia)
open PySem PySem.W PyProof PyProof.Rows
set_option Elab.async false
set_option maxRecDepth 100000
set_option maxHeartbeats 100000000
namespace Mine
/-- the law's own code -/
noncomputable def lawDef : Stmt := PySem.Challenge.rw_ik0037_01.prog.main.body.getLastD (.Pass ⟨0, 0, 0, 0⟩)
noncomputable def lawBody : List Stmt := match lawDef with
  | .FunctionDef _ _ body _ _ _ _ _ _ _ => body
  | _ => []
noncomputable def lawScope : Scope := match lawDef with
  | .FunctionDef _ _ _ _ _ _ sc _ _ _ => sc
  | _ => ⟨.module, [], false, false, []⟩
noncomputable def lawSt (i : Nat) : Stmt := lawBody.getD i (.Pass ⟨0, 0, 0, 0⟩)
/-- the law's frame -/
noncomputable abbrev lawCx (w : World) (dp un : Nat) (gd : Option (List Code)) (cn : Str) (L a : Addr) (ccd : Value) (cl : List (Str × Addr)) (h₀ : Heap) : Cx :=
  ⟨PySem.Challenge.rw_ik0037_01.row.prog, w, ktrTop dp un gd cn lawScope L a ccd cl [], cn, lawScope, a, ccd, cl, h₀, L⟩
section
variable {w : World} {dp un : Nat} {gd : Option (List Code)} {cn : Str} {L a : Addr} {ccd : Value} {cl : List (Str × Addr)} {h₀ : Heap} {m : Fm} {n : Lg} {R : Flow → Fm → Lg → Nat → Prop} {ss : List Stmt}
theorem seg1 {tot : Int} {tt : Tok} (hm : m (Str.ofString "total") = some (.int tot tt)) (h0 : 0 ≤ tot) (h1 : tot < 48)
    (h : ∀ (room : Int) (fl sa : Nat) t1 t2 t3, 0 ≤ room → room ≤ 3 → fl ∈ [42, 120, 48, 32] → sa ∈ [60, 62, 94] →
      Bl (lawCx w dp un gd cn L a ccd cl h₀) (fset (fset (fset m (Str.ofString "room") (.int room t1)) (Str.ofString "side") (.str ⟨#[sa]⟩ t2)) (Str.ofString "filler") (.str ⟨#[fl]⟩ t3)) n ss R) :
    Bl (lawCx w dp un gd cn L a ccd cl h₀) m n (lawSt 3 :: lawSt 4 :: lawSt 5 :: ss) R := by
  refine Bl.asg (Ev.fmod (Ev.vi (Ev.add (Ev.vi Ev.kint) (Ev.locI hm rfl rfl (by decide)))) (Ev.vi Ev.kint) (by decide)) rfl rfl rfl ?_
  rintro _ _ ⟨t1, rfl⟩
  have hl3 : (Str.ofString "<>^").length = 3 := by decide +kernel
  have hl4 : (Str.ofString "*x0 ").length = 4 := by decide +kernel
  have g0 : 0 ≤ (tot.fdiv 4).fmod 3 := Int.fmod_nonneg_of_pos _ (by decide)
  have g1 : (tot.fdiv 4).fmod 3 < 3 := Int.fmod_lt_of_pos _ (by decide)
  have e2 : tot.fdiv 12 = tot / 12 := Int.fdiv_eq_ediv_of_nonneg _ (by omega)
  refine Bl.asg (Ev.sign Ev.kstr (Ev.fmod (Ev.fdiv (Ev.locI hm rfl rfl (by decide)) (Ev.vi Ev.kint) (by decide) (noPylong_of_log2 (by decide))) (Ev.vi Ev.kint) (by decide)) (by rw [hl3]; omega) (by rw [hl3]; omega) (by rw [hl3]; omega) (fun _ _ => rfl) (fun _ _ => rfl)) rfl rfl rfl ?_
  rintro _ _ ⟨t2, rfl⟩
  refine Bl.asg (Ev.sign Ev.kstr (Ev.fdiv (Ev.locI hm rfl rfl (by decide)) (Ev.vi Ev.kint) (by decide) (noPylong_of_log2 (by decide))) (by rw [hl4]; omega) (by rw [hl4]; omega) (by rw [hl4]; omega) (fun _ _ => rfl) (fun _ _ => rfl)) rfl rfl rfl ?_
  rintro _ _ ⟨t3, rfl⟩
  obtain ⟨sa, hsa, eSa⟩ := side_ok _ _ rfl
  obtain ⟨fl, hfl, eFl⟩ := fill_ok _ h0 h1 _ rfl
  rw [eSa, eFl]
  exact h _ fl sa t1 t2 t3 (Int.fmod_nonneg_of_pos _ (by decide)) (by have := Int.fmod_lt_of_pos (1 + tot) (by decide : (0 : Int) < 4); omega) hfl hsa
end
end Mine
end
section
local macro_rules | `(tactic| omega) => `(tactic| lia)
open PySem PySem.W PyProof PyProof.Rows
set_option Elab.async false
set_option maxRecDepth 100000
set_option maxHeartbeats 100000000
namespace Mine
/-- what stands around the law's frame -/
inductive Gd (w : World) (dp un : Nat) (h₀ : Heap) : Prop
  | mk (p : Program) (loose : List Str) (mean : ExcName → Option Value) (mg mb : Str → Option Value) (A₀ : Around) (base : Heap)
     (B : Below A₀ base [] h₀) (XB : (hd.heap_39 w.params).In base) (TB : Top p loose mean mg mb base) (X : (hd.heap_39 w.params).In h₀) (T : Top p loose mean mg mb h₀) (hdp : dp + 20 < recursionLimit) (hun : un + 400 < cLine) : Gd w dp un h₀
section
variable {w : World} {dp un : Nat} {gd : Option (List Code)} {cn : Str} {L a : Addr} {ccd : Value} {cl : List (Str × Addr)} {h₀ : Heap} {m : Fm} {n : Lg}
theorem Gd.X (G : Gd w dp un h₀) : (hd.heap_39 w.params).In h₀ := by
  obtain ⟨p, loose, mean, mg, mb, A₀, base, B, XB, TB, X, T, hdp, hun⟩ := G
  exact X
theorem Op.claim {k : Nat} {f : Addr} {vs : List Value} {Post : Value → Prop} (G : Gd w dp un h₀) (C : Claim w k f vs Post) (hk : k ≤ 10) : Op (lawCx w dp un gd cn L a ccd cl h₀) m n (call (.ref f) vs) (fun r _ => Post r) := by
  obtain ⟨p, loose, mean, mg, mb, A₀, base, B, XB, TB, X, T, hdp, hun⟩ := G
  exact fun s Q F N kk => C.use B F X N T rfl (by omega) (by omega) fun r h tk hp F N => kk r h tk hp F N
theorem Op.claimK {k : Nat} {f : Addr} {vs : List Value} {Post : Value → Nat → Prop} (G : Gd w dp un h₀) (C : ClaimK w k f vs Post) (hk : k ≤ 10) : Op (lawCx w dp un gd cn L a ccd cl h₀) m n (call (.ref f) vs) Post := by
  obtain ⟨p, loose, mean, mg, mb, A₀, base, B, XB, TB, X, T, hdp, hun⟩ := G
  exact fun s Q F N kk => C.use B F X N T rfl (by omega) (by omega) fun r h tk hp F N => kk r h tk hp F N
theorem Op.claimT {k : Nat} {f fm dx : Addr} {vs : List Value} {Post : Value → Prop} (G : Gd w dp un h₀) (C : ClaimT w k f fm dx vs Post) (hk : k ≤ 10) (h1 : (fm, instObj 102 dx) ∈ n) (h2 : (dx, dictOf [] 0) ∈ n) : Op (lawCx w dp un gd cn L a ccd cl h₀) m n (call (.ref f) vs) (fun r _ => Post r) := by
  obtain ⟨p, loose, mean, mg, mb, A₀, base, B, XB, TB, X, T, hdp, hun⟩ := G
  exact fun s Q F N kk => C.use B XB TB F X N h1 h2 T rfl (by omega) (by omega) fun r h tk hp F N => kk r h tk hp F N
theorem Ev.globG {x : Str} {p : Pos} {v : Value} (G : Gd w dp un h₀) (e : nsIn (hd.heap_39 w.params) mainGlobals x = some (some v)) (hl : (lawCx w dp un gd cn L a ccd cl h₀).env.kindOf x = some .globalImplicit) (hd : (x == Str.ofString "__debug__") = false) : Ev (lawCx w dp un gd cn L a ccd cl h₀) m n (.Name x p) (fun r _ => r = v) := by
  obtain ⟨pr, loose, mean, mg, mb, A₀, base, B, XB, TB, X, T, hdp, hun⟩ := G
  exact Ev.glob X (topRead_of T) e rfl hl hd
theorem Ev.builtG {x : Str} {p : Pos} {v : Value} (G : Gd w dp un h₀) (e : nsIn (hd.heap_39 w.params) mainGlobals x = some none) (hv : bootBuiltins x = some v) (hn : x ≠ Str.ofString "__name__") (hl : (lawCx w dp un gd cn L a ccd cl h₀).env.kindOf x = some .globalImplicit) (hd : (x == Str.ofString "__debug__") = false) : Ev (lawCx w dp un gd cn L a ccd cl h₀) m n (.Name x p) (fun r _ => r = v) := by
  obtain ⟨pr, loose, mean, mg, mb, A₀, base, B, XB, TB, X, T, hdp, hun⟩ := G
  exact Ev.built X (topRead_of T) e hv hn rfl hl hd
end
section
variable {c : Cx} {m : Fm} {n : Lg} {R : Flow → Fm → Lg → Nat → Prop} {ss : List Stmt}
/-- a list display -/
theorem EvL.list {es : List Expr} {p : Pos} {Ps : List Value → Nat → Prop} (ha : Args c m n p es Ps) (hz : ∀ vs t, Ps vs t → vs.length ≤ 1000) : EvL c m n (.List es p) (fun v n' => ∃ D vs t, v = .ref D ∧ n' = (D, listOf vs.toArray 0) :: n ∧ Ps vs t ∧ ∀ q ∈ n, q.1 < D) :=
  fun s _ F N k => List_ (ha s _ F N fun vs h tk hv F N => newList_K F N (fun l h' F' N' hl => k _ _ h' tk ⟨l, vs, tk, rfl, rfl, hv, hl⟩ F' N') (hsz := by have := hz vs tk hv; rw [PySem.sizeLine_eq]; omega))
/-- a plain value's data -/
noncomputable def Sc (v : Value) (d : PyData) : Prop := (∃ x t, v = .str x t ∧ d = .str x) ∨ ∃ k t, v = .int k t ∧ d = .int k
theorem Sc.reads {v : Value} {d : PyData} {h : Heap} (x : Sc v d) : Reads h v d [] := by
  rcases x with ⟨x, t, rfl, rfl⟩ | ⟨k, t, rfl, rfl⟩
  · exact Reads.str _ _
  · exact Reads.int _ _
theorem Sc.flat {v : Value} {d : PyData} (x : Sc v d) : d.depth = 0 ∧ PyData.eqv d d = true := by
  rcases x with ⟨x, t, rfl, rfl⟩ | ⟨k, t, rfl, rfl⟩
  · exact ⟨rfl, by simp [PyData.eqv]⟩
  · exact ⟨rfl, by simp [PyData.eqv]⟩
theorem reads_two {h : Heap} {D : Addr} {a b : Value} {d1 d2 : PyData} (hD : h.get? D = some (listOf #[a, b] 0)) (h1 : Sc a d1) (h2 : Sc b d2) : Reads h (.ref D) (.list [d1, d2]) [D] :=
  Reads.list hD rfl rfl (ReadsAll.cons h1.reads (ReadsAll.cons h2.reads ReadsAll.nil))
/-- [a, b] != [a, b] -/
theorem Te.ne2 {l1 l2 : List Expr} {p1 p2 p : Pos} {d1 d2 : PyData} (h1 : Args c m n p1 l1 (fun vs _ => ∃ a b, vs = [a, b] ∧ Sc a d1 ∧ Sc b d2)) (h2 : ∀ n', (∀ q ∈ n, q ∈ n') → Args c m n' p2 l2 (fun vs _ => ∃ a b, vs = [a, b] ∧ Sc a d1 ∧ Sc b d2))
    (k1 : d1.canLay0 = true) (k2 : d2.canLay0 = true) (hu : c.A.units + 64 < cLine) (hm : behindInMarks .NotEq (.List l2 p2) = false) : Te c m n (.Compare (.List l1 p1) [.NotEq] [.List l2 p2] p) (fun b => b = false) := by
  intro s Q F N kk
  refine wpAny_isTrue_Compare1 (List_ (h1 s _ F N fun vs h tk hv F N => newList_K F N (fun D1 h' F' N' hl => List_ (h2 _ (fun q hq => List.mem_cons_of_mem _ hq) _ _ F' N' fun ws g tk2 hw F2 N2 => newList_K F2 N2 (fun D2 g' F3 N3 hl2 => ?_) (hsz := ?_))) (hsz := ?_))) hm
  · obtain ⟨a, b, rfl, sa, sb⟩ := hv
    obtain ⟨a', b', rfl, sa', sb'⟩ := hw
    refine ne_dataH (reads_two (N3 _ (.tail _ (.head _))).1 sa sb) (reads_two (N3 _ (.head _)).1 sa' sb') (shp2 k1 k2 sa.flat.1 sb.flat.1) (shp2 k1 k2 sa.flat.1 sb.flat.1) hu ?_
    have e : PyData.eqv (.list [d1, d2]) (.list [d1, d2]) = true := by
      simp only [PyData.eqv, PyData.eqvAll, sa.flat.2, sb.flat.2, Bool.and_true]
    rw [e]
    exact fun _ _ _ => kk false g' tk2 rfl F3 (news_sub N3 fun q hq => .tail _ (.tail _ hq))
  · obtain ⟨a', b', rfl, sa', sb'⟩ := hw
    show 2 ≤ sizeLine
    rw [PySem.sizeLine_eq]; omega
  · obtain ⟨a, b, rfl, sa, sb⟩ := hv
    show 2 ≤ sizeLine
    rw [PySem.sizeLine_eq]; omega
/-- a method of an object of the class at C -/
theorem Ev.mcall {K : Frag} {ob e : Expr} {es : List Expr} {nm : Str} {ap p : Pos} {fm dx f C : Addr} {es' : List DictEntry} {nn : Nat} {Ps : List Value → Nat → Prop} {P : Value → Nat → Prop} (X : K.In c.h₀) (ho : Ev c m n ob (fun r _ => r = .ref fm)) (h1 : (fm, instObj C dx) ∈ n) (h2 : (dx, dictOf es' nn) ∈ n)
    (hg : plainGet K C nm = true) (hf : findIn K (.ref C) nm = some (some (.ref f))) (ht : isFn K (.ref f) = true) (hl : getL nm es' = some none) (hk : keepIn K (.ref f) = true)
    (ha : Args c m n p (e :: es) Ps) (hcall : ∀ vs t, Ps vs t → Op c m n (call (.ref f) (.ref fm :: vs)) P)
    (hx : starEach (e :: es) c.env = (false, eval e c.env) :: starEach es c.env) (hpl : ((backTo p (starEach es c.env)).any fun x => x.1) = false)
    {pl : Sem Bool} (he : eval (.Call (.Attribute ob nm ap) (e :: es) [] p) c.env = (do
      let ov ← eval ob c.env
      standAt ap.atName
      let (f, first) ← holding [ov] (getMethod ov nm pl)
      callWith p f first (backTo p (starEach (e :: es) c.env)) [])) : Ev c m n (.Call (.Attribute ob nm ap) (e :: es) [] p) P :=
  fun s _ F N k => MethodCall_ (ho s _ F N fun v h tk hv F N => by
    subst hv
    refine method_inst F X (InstAt.of_news N h1 h2) hg hf ht hl ?_
    exact callWith_K X hk (ha _ _ F N fun vs h tk hvs F N => ⟨X.keeps F.keep, hcall vs tk hvs _ _ F N k⟩) hx hpl) he
/-- a comparison of ints as a value -/
theorem Ev.cmpI {l r : Expr} {op : CmpOp} {p : Pos} {i j : Int} (ha : Ev c m n l (Vi i)) (hb : Ev c m n r (Vi j)) (ho : op = .Eq ∨ op = .NotEq ∨ op = .Lt ∨ op = .Gt ∨ op = .LtE ∨ op = .GtE) (hm : behindInMarks op r = false) : Ev c m n (.Compare l [op] [r] p) (Vb (Lt op i j)) :=
  fun s _ F N k => wpAny_Compare1 (ha s _ F N fun _ _ _ hx F N => hb _ _ F N fun _ _ _ hy F N => by
    obtain ⟨t, rfl⟩ := hx
    obtain ⟨u, rfl⟩ := hy
    exact Op.cmpI ho _ _ F N fun v h tk hv F N => k v h tk hv F N) hm
theorem Te.neS {l r : Expr} {p : Pos} {x y : Str} (ha : Ev c m n l (Vs x)) (hb : Ev c m n r (Vs y)) (hm : behindInMarks .NotEq r = false) : Te c m n (.Compare l [.NotEq] [r] p) (fun b => b = !(x == y)) :=
  Te.cmp ha hb hm fun _ _ _ _ ⟨_, ex⟩ ⟨_, ey⟩ => by subst ex ey; exact fun s _ F N k => PyProof.Rows.ne_str (k _ s.heap s.toks ⟨_, rfl, rfl⟩ F N)
/-- sum(x[i:j]) of a list of ints -/
theorem Ev.sumSl {fe ve e1 e2 : Expr} {p p1 p2 : Pos} {D : Addr} {o : Obj} {us : List Value} {ks : List Int} {i j : Int} (hf : Ev c m n fe (fun r _ => r = .builtin "sum")) (hv : Ev c m n ve (fun r _ => r = .ref D)) (hm : (D, o) ∈ n) (ho : IsL o us.toArray) (hI : IntsAre us ks) (h1 : Ev c m n e1 (Vi i)) (h2 : Ev c m n e2 (Vi j))
    (i0 : 0 ≤ i) (ij : i ≤ j) (jl : j ≤ ks.length) (hz : ks.length ≤ 1000) (hh : c.A.handled = none)
    (hc : eval (fe.Call [.Subscript ve (.Slice (some e1) (some e2) Option.none p2) p1] [] p) c.env = (do let f ← eval fe c.env; callWith p f [] (backTo p (starEach [.Subscript ve (.Slice (some e1) (some e2) Option.none p2) p1] c.env)) (backToKw p (keywordEach [] c.env))))
    (hx : starEach [.Subscript ve (.Slice (some e1) (some e2) Option.none p2) p1] c.env = (false, eval (.Subscript ve (.Slice (some e1) (some e2) Option.none p2) p1) c.env) :: starEach [] c.env)
    (hs : ∀ (a b : Addr), subscripted (.Slice (some e1) (some e2) Option.none p2) false (.ref a) (.ref b) = operate [.ref b, .ref a] (getItem (.ref a) (.ref b))) (ht : ∀ (a : Addr) r, letTemporaryGo ve (.ref a) r = pure ()) :
    Ev c m n (fe.Call [.Subscript ve (.Slice (some e1) (some e2) Option.none p2) p1] [] p) (Vi ((ks.drop i.toNat).take (j - i).toNat).sum) :=
  fun s Q F N k => Call_ (hf s _ F N fun f h tk hf F N => by
    subst hf
    refine PyProof.Rows.callWith_builtin1 (args_cons ?_ hx) hx rfl
    refine Subscript_ (hv _ _ F N fun v h tk hv F N => ?_)
    subst hv
    refine wpAny_Slice (evalPart_some_step (h1 _ _ F N fun v h tk hv1 F N => evalPart_some_step (h2 _ _ F N fun v h tk hv2 F N => evalPart_none_step ?_)))
    obtain ⟨t1, rfl⟩ := hv1
    obtain ⟨t2, rfl⟩ := hv2
    refine slice_listK (IsL.at N hm ho) (.int _ _) (.int _ _) ?_ (hs _ _) (ht _) (by rw [List.size_toArray, hI.length, PySem.sizeLine_eq]; omega)
    refine args_nil ?_
    have hS := slice_ints hI i0 ij jl
    have F2 := (F.push { cls := .type "slice", data := .fields #[.int i t1, .int j t2, .none] }).push { cls := .type "list", data := .seq (slicePick us.toArray (some i) (some j) none) }
    have up : ∀ (g : Heap) o b o', g.get? b = some o' → (g.push o).get? b = some o' := fun g o b o' e => Heap.get?_push_of_some _ e
    have N2 := (N.grown (up _ { cls := .type "slice", data := .fields #[.int i t1, .int j t2, .none] })).grown (up _ { cls := .type "list", data := .seq (slicePick us.toArray (some i) (some j) none) })
    refine LSm.sum_ints (vs := (slicePick us.toArray (some i) (some j) none).toList) F2 N2 hh ?_ hS fun h' tk t' F' N' => k _ h' tk ⟨t', rfl⟩ F' N'
    have e : h.objs.size + 1 = (h.push { cls := .type "slice", data := .fields #[.int i t1, .int j t2, .none] }).objs.size := by rw [Heap.size_push]
    rw [Array.toArray_toList, e]
    exact ⟨_, Heap.get?_push_size _ rfl, rfl, _, rfl⟩) hc
/-- sum(x) -/
theorem Ev.sum {fe ve : Expr} {p : Pos} {D : Addr} {o : Obj} {us : List Value} {ks : List Int} (hf : Ev c m n fe (fun r _ => r = .builtin "sum")) (hv : Ev c m n ve (fun r _ => r = .ref D)) (hm : (D, o) ∈ n) (ho : IsL o us.toArray) (hI : IntsAre us ks) (hh : c.A.handled = none)
    (hc : eval (fe.Call [ve] [] p) c.env = (do let f ← eval fe c.env; callWith p f [] (backTo p (starEach [ve] c.env)) (backToKw p (keywordEach [] c.env))))
    (hx : starEach [ve] c.env = (false, eval ve c.env) :: starEach [] c.env) : Ev c m n (fe.Call [ve] [] p) (Vi ks.sum) :=
  Ev.bcall hf (Args.one hv hx) (fun vs t ⟨a, u, e1, e2⟩ => by
    subst e1 e2
    exact fun s Q F N k => LSm.sum_ints F N hh (IsL.at N hm ho) hI fun h' tk t' F' N' => k _ h' tk ⟨t', rfl⟩ F' N') hc hx rfl
/-- range(a, b) -/
theorem St.range2 {x : Str} {px pc pos : Pos} {fe e1 e2 : Expr} {body : List Stmt} {a b : Int} {k : Nat} (J : Nat → Fm → Lg → Prop) (hf : Ev c m n fe (fun r _ => r = .type "range")) (h1 : Ev c m n e1 (Vi a)) (h2 : Ev c m n e2 (Vi b)) (hab : b = a + (k : Int)) (ha0 : 0 ≤ a) (ha1 : a ≤ 1000) (hk : k ≤ 1000) (hh : c.A.handled = none)
    (hl : c.env.kindOf x = some .local) (hcl : (c.env.scope.kind == ScopeKind.class || c.env.scope.kind == ScopeKind.module && c.env.locals != c.env.globals) = false)
    (hc : eval (fe.Call [e1, e2] [] pc) c.env = (do let f ← eval fe c.env; callWith pc f [] (backTo pc (starEach [e1, e2] c.env)) (backToKw pc (keywordEach [] c.env)))) (hx1 : starEach [e1, e2] c.env = (false, eval e1 c.env) :: starEach [e2] c.env) (hx2 : starEach [e2] c.env = (false, eval e2 c.env) :: starEach [] c.env)
    (hp : ((backTo pc (starEach [e2] c.env)).any fun x => x.1) = false)
    (hs : ∀ v, foldedSetIterable (fe.Call [e1, e2] [] pc) c.env v = pure v) (h0 : J 0 m n)
    (turn : ∀ (i : Nat) t m1 n1 own, i < k → n1.map (·.1) = n.map (·.1) → OwnOff own (n.map (·.1)) → J i m1 n1 → Bl c (fset m1 x (.int (a + (i : Int)) t)) (n1 ++ own) body (fun f m2 n2 tk => (f = .next ∧ ∃ nx, (∀ p ∈ nx, p ∈ n2) ∧ (∀ p ∈ own, p ∈ n2) ∧ nx.map (·.1) = n.map (·.1) ∧ J (i + 1) m2 nx) ∨ ∃ v, f = .ret v ∧ R (.ret v) m2 n2 tk))
    (done : ∀ m1 n1 tk, J k m1 n1 → R .next m1 n1 tk) : St c m n (.For (.Name x px) (.Call fe [e1, e2] [] pc) body [] pos) R := by
  intro s Q F N kk
  refine For_invVF F hl hcl ?_ hs PassesOwn.never
  refine Call_ (hf s _ F N fun f h tk hf F N => ?_) hc
  subst hf
  refine PyProof.Rows.callWith_type1 (args_cons (h1 _ _ F N fun v h tk hv F N => args_cons (h2 _ _ F N fun v2 h tk hv2 F N => args_nil ?_) hx2) hx1) hx1 hp
  obtain ⟨t, rfl⟩ := hv
  obtain ⟨t2, rfl⟩ := hv2
  refine range2_rows F N fun h' tk' t₁ u₁ v₁ hr F N _ => ?_
  have hsz : Builtin.Range.rangeSize a b 1 = (k : Int) := by rw [rangeSize_nat]; omega
  refine wpAny_pyIter_range hr (small_one (by omega) (by omega) (by omega) (by omega)) ?_
  have W : Walks c.prog c.w c.A h'.objs.size [h'.objs.size] [h'.objs.size] k (fun i v => i < k ∧ ∃ t, v = .int (a + i * 1) t)
      (fun i h => IsRangeIter h h'.objs.size (a + (i : Nat) * 1) ((k : Int) - (i : Nat)) 1) := (Walks.range hh _ a 1 k).bound
  refine loop_invN J W ?_ ?_ ?_ ?_ (by show IsRangeIter _ _ _ _ _; rw [hsz]; simpa using Heap.get?_push_size _ rfl) (F.push _) (fun p hp => ⟨Heap.get?_push_of_some _ (N p hp).1, (N p hp).2⟩) h0 ?_ ?_
  · intro hm
    exact absurd F.ns.lt ((List.mem_singleton.mp hm) ▸ Nat.lt_irrefl _)
  · intro b hb
    rw [List.mem_singleton.mp hb]
    exact next_is_new F
  · intro p hp hI
    exact absurd (Heap.lt_size (N p hp).1) ((List.mem_singleton.mp hI) ▸ Nat.lt_irrefl _)
  · intro p hp hI
    exact absurd (Heap.lt_size (N p hp).1) ((List.mem_singleton.mp hI) ▸ Nat.lt_irrefl _)
  · rintro i v m₁ nx h2 tk2 own hi ⟨_, t2, rfl⟩ hadr hoff hj F₁ N₁
    have e1 : a + (i : Int) * 1 = a + (i : Int) := by omega
    rw [e1] at F₁
    refine turn i t2 m₁ nx own hi hadr hoff hj _ _ F₁ N₁ fun f m' n' h3 tk3 hr3 F3 N3 => ?_
    rcases hr3 with ⟨rfl, ny, q1, q2, q3, q4⟩ | ⟨v, rfl, hR⟩
    · exact InvEndN.intro F3 N3 q4 q3 q1 q2
    · exact kk (.ret v) m' n' h3 tk3 hR F3 N3
  · rintro m₁ nx h2 tk2 hj F₁ N₁
    exact kk .next m₁ nx h2 tk2 (done m₁ nx tk2 hj) F₁ N₁
end
section
variable {c : Cx} {m : Fm} {n : Lg} {R : Flow → Fm → Lg → Nat → Prop} {ss : List Stmt}
/-- str(k) -/
theorem Ev.strI {fe e : Expr} {p : Pos} {k : Int} (hf : Ev c m n fe (fun r _ => r = .type "str")) (he : Ev c m n e (Vi k)) (h0 : 0 ≤ k) (h1 : k < 1000)
    (hc : eval (fe.Call [e] [] p) c.env = (do let f ← eval fe c.env; callWith p f [] (backTo p (starEach [e] c.env)) (backToKw p (keywordEach [] c.env)))) (hx : starEach [e] c.env = (false, eval e c.env) :: starEach [] c.env) : Ev c m n (.Call fe [e] [] p) (Vs (Str.ofString (toString k))) :=
  fun s Q F N kk => Call_ (hf s _ F N fun f h tk hf F N => by
    subst hf
    refine PyProof.Rows.callWith_type1 (args_cons (he _ _ F N fun v h tk hv F N => args_nil ?_) hx) hx
    obtain ⟨t, rfl⟩ := hv
    exact P.str_of_int (shown (N := 1000) (by omega) (by omega) (by decide +kernel)) (kk _ _ _ ⟨_, rfl⟩ F N)) hc
/-- for x in a list display -/
theorem St.listD {x : Str} {px pl pos : Pos} {es : List Expr} {body : List Stmt} {Ps : List Value → Nat → Prop} (J : Nat → Fm → Lg → Prop) (ha : Args c m n pl es Ps) (hz : ∀ vs t, Ps vs t → vs.length ≤ 1000) (hh : c.A.handled = none)
    (hl : c.env.kindOf x = some .local) (hcl : (c.env.scope.kind == ScopeKind.class || c.env.scope.kind == ScopeKind.module && c.env.locals != c.env.globals) = false) (hs : ∀ v, foldedSetIterable (.List es pl) c.env v = pure v) (h0 : J 0 m n)
    (turn : ∀ vs t0, Ps vs t0 → ∀ (i : Nat) v m1 n1 own, vs[i]? = some v → n1.map (·.1) = n.map (·.1) → OwnOff own (n.map (·.1)) → J i m1 n1 → Bl c (fset m1 x v) (n1 ++ own) body (fun f m2 n2 _ => f = .next ∧ ∃ nx, (∀ p ∈ nx, p ∈ n2) ∧ (∀ p ∈ own, p ∈ n2) ∧ nx.map (·.1) = n.map (·.1) ∧ J (i + 1) m2 nx))
    (done : ∀ vs t0, Ps vs t0 → ∀ m1 n1 tk, J vs.length m1 n1 → R .next m1 n1 tk) : St c m n (.For (.Name x px) (.List es pl) body [] pos) R := by
  intro s Q F N kk
  refine For_invVF F hl hcl ?_ hs PassesOwn.never
  refine List_ (ha _ _ F N fun vs h tk hv F N => newList_K F N (fun D h' F' N' hD => ?_) (hsz := by have := hz vs tk hv; rw [PySem.sizeLine_eq]; omega))
  have hls : h'.IsList D vs.toArray := ⟨_, (N' _ (.head _)).1, rfl, _, rfl⟩
  have hlt : D < h'.objs.size := Heap.lt_size (N' _ (.head _)).1
  have hne : D ≠ h'.objs.size := Nat.ne_of_lt hlt
  have Nn : News c.h₀ c.L h' n := news_sub N' fun q hq => .tail _ hq
  refine wpAny_pyIter_list hls ?_
  have W := Walks.list (prog := c.prog) (w := c.w) hh h'.objs.size D hne vs.toArray
  refine loop_invN J W ?_ ?_ ?_ ?_ ⟨⟨_, Heap.get?_push_size _ rfl, rfl, rfl⟩, hls.at fun o e => Heap.get?_push_of_some _ e⟩ (F'.push _) (fun p hp => ⟨Heap.get?_push_of_some _ (Nn p hp).1, (Nn p hp).2⟩) h0 ?_ ?_
  · intro hm
    rcases List.mem_cons.mp hm with e | hm
    · exact absurd F'.ns.lt (e ▸ Nat.lt_irrefl _)
    · exact (N' _ (.head _)).2.1 (List.mem_singleton.mp hm).symm
  · intro b hb
    rw [List.mem_singleton.mp hb]
    exact next_is_new F'
  · intro p hp hI
    exact absurd (Heap.lt_size (Nn p hp).1) ((List.mem_singleton.mp hI) ▸ Nat.lt_irrefl _)
  · intro p hp hI
    rcases List.mem_cons.mp hI with e | hm
    · exact absurd (Heap.lt_size (Nn p hp).1) (e ▸ Nat.lt_irrefl _)
    · exact absurd (hD p hp) ((List.mem_singleton.mp hm) ▸ Nat.lt_irrefl _)
  · rintro i v m₁ nx h2 tk2 own hi hvi hadr hoff hj F₁ N₁
    refine turn vs tk hv i v m₁ nx own (by simpa using hvi) hadr hoff hj _ _ F₁ N₁ fun f m' n' h3 tk3 hr3 F3 N3 => ?_
    obtain ⟨rfl, ny, q1, q2, q3, q4⟩ := hr3
    exact InvEndN.intro F3 N3 q4 q3 q1 q2
  · rintro m₁ nx h2 tk2 hj F₁ N₁
    exact kk .next m₁ nx h2 tk2 (done vs tk hv m₁ nx tk2 (by rw [List.size_toArray] at hj; exact hj)) F₁ N₁
end
end Mine
end
section
local macro_rules | `(tactic| omega) => `(tactic| lia)
open PySem PySem.W PyProof PyProof.Rows
set_option Elab.async false
set_option maxRecDepth 100000
set_option maxHeartbeats 100000000
namespace Mine
/-- the law's cells and its formatter -/
inductive Lw (T : Str) (fm dx : Addr) (cl : List (Str × Addr)) (n : Lg) : Prop
  | mk (DF DT : Addr) (oF oT : Obj) (tT : Tok) (hcf : cl.lookup (Str.ofString "formatter") = some DF) (hct : cl.lookup (Str.ofString "text") = some DT) (mf : (DF, oF) ∈ n) (mt : (DT, oT) ∈ n)
    (ef : oF.data = .cell (some (.ref fm))) (et : oT.data = .cell (some (.str T tT))) (m1 : (fm, instObj 102 dx) ∈ n) (m2 : (dx, dictOf [] 0) ∈ n) : Lw T fm dx cl n
theorem Lw.up {T : Str} {fm dx : Addr} {cl : List (Str × Addr)} {n n' : Lg} (h : Lw T fm dx cl n) (hs : ∀ q ∈ n, q ∈ n') : Lw T fm dx cl n' := by
  obtain ⟨DF, DT, oF, oT, tT, hcf, hct, mf, mt, ef, et, m1, m2⟩ := h
  exact ⟨DF, DT, oF, oT, tT, hcf, hct, hs _ mf, hs _ mt, ef, et, hs _ m1, hs _ m2⟩
section
variable {w : World} {dp un : Nat} {gd : Option (List Code)} {cn : Str} {L a : Addr} {ccd : Value} {cl : List (Str × Addr)} {h₀ : Heap} {m : Fm} {n : Lg} {T : Str} {fm dx : Addr} {R : Flow → Fm → Lg → Nat → Prop} {ss : List Stmt}
theorem Gd.room (G : Gd w dp un h₀) : (lawCx w dp un gd cn L a ccd cl h₀).A.units + 64 < cLine := by
  obtain ⟨p, loose, mean, mg, mb, A₀, base, B, XB, TB, X, T, hdp, hun⟩ := G
  show un + 64 < cLine
  omega
theorem Claim.mono {k : Nat} {f : Addr} {vs : List Value} {P P' : Value → Prop} (C : Claim w k f vs P) (h : ∀ r, P r → P' r) : Claim w k f vs P' :=
  fun p loose mean mg mb dp un gd cn cs a ccd cl outer A₀ base h₀ L m news s Q E B F X N T hk hd hu ret => C p loose mean mg mb dp un gd cn cs a ccd cl outer A₀ base h₀ L m news s Q E B F X N T hk hd hu fun r h' tk' hp F' N' => ret r h' tk' (h r hp) F' N'
theorem Ev.txt {p : Pos} (l : Lw T fm dx cl n) : Ev (lawCx w dp un gd cn L a ccd cl h₀) m n (.Name (Str.ofString "text") p) (Vs T) := by
  obtain ⟨DF, DT, oF, oT, tT, hcf, hct, mf, mt, ef, et, m1, m2⟩ := l
  exact Op.mono (Ev.cell (c := lawCx w dp un gd cn L a ccd cl h₀) hct mt et rfl rfl (by decide)) fun _ _ e => ⟨tT, e⟩
theorem Ev.fmt {p : Pos} (l : Lw T fm dx cl n) : Ev (lawCx w dp un gd cn L a ccd cl h₀) m n (.Name (Str.ofString "formatter") p) (fun r _ => r = .ref fm) := by
  obtain ⟨DF, DT, oF, oT, tT, hcf, hct, mf, mt, ef, et, m1, m2⟩ := l
  exact Ev.cell (c := lawCx w dp un gd cn L a ccd cl h₀) hcf mf ef rfl rfl (by decide)
theorem Ev.conv {e1 e2 : Expr} {P1 P2 : Value → Nat → Prop} {Post : Value → Prop} {p1 ap p : Pos} (G : Gd w dp un h₀) (l : Lw T fm dx cl n) (h1 : Ev (lawCx w dp un gd cn L a ccd cl h₀) m n e1 P1) (h2 : Ev (lawCx w dp un gd cn L a ccd cl h₀) m n e2 P2)
    (C : ∀ x y t u, P1 x t → P2 y u → Claim w 1 85 [.ref fm, x, y] Post)
    (hx1 : starEach [e1, e2] (lawCx w dp un gd cn L a ccd cl h₀).env = (false, eval e1 (lawCx w dp un gd cn L a ccd cl h₀).env) :: starEach [e2] (lawCx w dp un gd cn L a ccd cl h₀).env) (hx2 : starEach [e2] (lawCx w dp un gd cn L a ccd cl h₀).env = (false, eval e2 (lawCx w dp un gd cn L a ccd cl h₀).env) :: starEach [] (lawCx w dp un gd cn L a ccd cl h₀).env)
    (hp : ((backTo p (starEach [e2] (lawCx w dp un gd cn L a ccd cl h₀).env)).any fun x => x.1) = false)
    {pl : Sem Bool} (he : eval (.Call (.Attribute (.Name (Str.ofString "formatter") p1) (Str.ofString "convert_field") ap) [e1, e2] [] p) (lawCx w dp un gd cn L a ccd cl h₀).env = (do
      let ov ← eval (.Name (Str.ofString "formatter") p1) (lawCx w dp un gd cn L a ccd cl h₀).env
      standAt ap.atName
      let (f, first) ← holding [ov] (getMethod ov (Str.ofString "convert_field") pl)
      callWith p f first (backTo p (starEach [e1, e2] (lawCx w dp un gd cn L a ccd cl h₀).env)) [])) :
    Ev (lawCx w dp un gd cn L a ccd cl h₀) m n (.Call (.Attribute (.Name (Str.ofString "formatter") p1) (Str.ofString "convert_field") ap) [e1, e2] [] p) (fun r _ => Post r) := by
  have l2 := l
  obtain ⟨DF, DT, oF, oT, tT, hcf, hct, mf, mt, ef, et, m1, m2⟩ := l2
  refine Ev.mcall (C := 102) (f := 85) G.X (Ev.fmt l) m1 m2 (by k_is) (by k_is) (by k_is) (by k_get) (by k_is) (Args.two h1 h2 hx1 hx2) (fun vs t hv => ?_) hx1 hp he
  obtain ⟨x, y, t, u, rfl, q1, q2⟩ := hv
  exact Op.claim G (C x y t u q1 q2) (by decide)
theorem Ev.written {e : Expr} {x : Str} {b : Bool} {k : Nat} {p1 p2 p : Pos} (G : Gd w dp un h₀) (h1 : Ev (lawCx w dp un gd cn L a ccd cl h₀) m n e (Vs x)) (hm : ∀ c ∈ cp x, c ∈ menu) (hx : x.length ≤ 64)
    (hx1 : starEach [e, .Constant (.bool b) k p2] (lawCx w dp un gd cn L a ccd cl h₀).env = (false, eval e (lawCx w dp un gd cn L a ccd cl h₀).env) :: starEach [.Constant (.bool b) k p2] (lawCx w dp un gd cn L a ccd cl h₀).env) :
    Ev (lawCx w dp un gd cn L a ccd cl h₀) m n (.Call (.Name (Str.ofString "_law_written") p1) [e, .Constant (.bool b) k p2] [] p) (Vs (WR x b)) := by
  refine Ev.dcall (f := 134) G.X (by k_is) rfl (Ev.globG G (by k_is) rfl (by decide)) (Args.two h1 Ev.kbool hx1 rfl) (fun vs t hv => ?_) rfl hx1
  obtain ⟨y, z, t, u, rfl, ⟨t1, rfl⟩, rfl⟩ := hv
  refine (Op.claim G (wr_claim_m w x b hm hx t1) (by decide)).mono fun v _ q => ?_
  obtain ⟨t2, e, _⟩ := q
  exact ⟨t2, e⟩
theorem sc_s {x : Str} {v : Value} (h : ∃ t, v = .str x t) : Sc v (.str x) := by
  obtain ⟨t, e⟩ := h
  exact .inl ⟨x, t, e, rfl⟩
theorem sc_i {k : Int} {v : Value} (h : ∃ t, v = .int k t) : Sc v (.int k) := by
  obtain ⟨t, e⟩ := h
  exact .inr ⟨k, t, e, rfl⟩
theorem Args.sc2 {c : Cx} {m : Fm} {n : Lg} {p : Pos} {es : List Expr} {P1 P2 : Value → Nat → Prop} {d1 d2 : PyData} (h : Args c m n p es (fun vs _ => ∃ a b t u, vs = [a, b] ∧ P1 a t ∧ P2 b u)) (k1 : ∀ v t, P1 v t → Sc v d1) (k2 : ∀ v t, P2 v t → Sc v d2) : Args c m n p es (fun vs _ => ∃ a b, vs = [a, b] ∧ Sc a d1 ∧ Sc b d2) :=
  Op.mono h fun vs _ ⟨a, b, t, u, e, q1, q2⟩ => ⟨a, b, e, k1 a t q1, k2 b u q2⟩
theorem st7 {W : Str} {tW : Tok} (G : Gd w dp un h₀) (l : Lw T fm dx cl n) (hm : m (Str.ofString "whole") = some (.str W tW)) (hW : ∀ c ∈ cp W, c ∈ menu) (hl : W.length ≤ 64)
    (h : Bl (lawCx w dp un gd cn L a ccd cl h₀) m n ss R) : Bl (lawCx w dp un gd cn L a ccd cl h₀) m n (lawSt 7 :: ss) R := by
  refine Bl.iff (Te.ne2 (d1 := .str (WR W false)) (d2 := .str (WR W true)) (Args.sc2 (Args.two (Ev.conv G l (Ev.locS hm rfl rfl (by decide)) Ev.kstr (Post := fun v => ∃ t, v = .str (WR W false) t) ?_ rfl rfl rfl rfl) (Ev.conv G l (Ev.locS hm rfl rfl (by decide)) Ev.kstr (Post := fun v => ∃ t, v = .str (WR W true) t) ?_ rfl rfl rfl rfl) rfl rfl) (fun _ _ => sc_s) (fun _ _ => sc_s))
    (fun n' hn => Args.sc2 (Args.two (Ev.written G (Ev.locS hm rfl rfl (by decide)) hW hl rfl) (Ev.written G (Ev.locS hm rfl rfl (by decide)) hW hl rfl) rfl rfl) (fun _ _ => sc_s) (fun _ _ => sc_s)) (ok_WR hW) (ok_WR hW) ?_ rfl) (fun hb => nomatch hb) (fun _ => h)
  · rintro x y t u ⟨t1, rfl⟩ ⟨t2, rfl⟩
    exact (conv_r w fm W hW hl t1 t2).mono fun r ⟨t, e, _⟩ => ⟨t, e⟩
  · rintro x y t u ⟨t1, rfl⟩ ⟨t2, rfl⟩
    exact (conv_a w fm W hW hl t1 t2).mono fun r ⟨t, e, _⟩ => ⟨t, e⟩
  · exact G.room
theorem st8 {tot : Int} {tt : Tok} (G : Gd w dp un h₀) (l : Lw T fm dx cl n) (hm : m (Str.ofString "total") = some (.int tot tt)) (hT : ∀ c ∈ cp T, c ∈ menu) 
    (h : Bl (lawCx w dp un gd cn L a ccd cl h₀) m n ss R) : Bl (lawCx w dp un gd cn L a ccd cl h₀) m n (lawSt 8 :: ss) R := by
  refine Bl.iff (Te.ne2 (d1 := .str T) (d2 := .int tot) (Args.sc2 (Args.two (Ev.conv G l (Ev.txt l) Ev.knone (Post := fun v => ∃ t, v = .str T t) ?_ rfl rfl rfl rfl) (Ev.conv G l (Ev.locI hm rfl rfl (by decide)) Ev.knone (Post := fun v => ∃ t, v = .int tot t) ?_ rfl rfl rfl rfl) rfl rfl) (fun _ _ => sc_s) (fun _ _ => sc_i))
    (fun n' hn => Args.sc2 (Args.two (Ev.txt (l.up hn)) (Ev.locI hm rfl rfl (by decide)) rfl rfl) (fun _ _ => sc_s) (fun _ _ => sc_i)) (ok_menu hT) rfl G.room rfl) (fun hb => nomatch hb) (fun _ => h)
  · rintro x y t u ⟨t1, rfl⟩ rfl
    exact (conv_n w fm _).mono fun r e => ⟨t1, e⟩
  · rintro x y t u ⟨t1, rfl⟩ rfl
    exact (conv_n w fm _).mono fun r e => ⟨t1, e⟩
theorem st9 {tot : Int} {tt : Tok} (G : Gd w dp un h₀) (l : Lw T fm dx cl n) (hm : m (Str.ofString "total") = some (.int tot tt)) (h0 : 0 ≤ tot) (h1 : tot < 48) (hT : ∀ c ∈ cp T, c ∈ menu) (hl : T.length ≤ 6)
    (h : Bl (lawCx w dp un gd cn L a ccd cl h₀) m n ss R) : Bl (lawCx w dp un gd cn L a ccd cl h₀) m n (lawSt 9 :: ss) R := by
  refine Bl.iff (Te.ne2 (d1 := .str T) (d2 := .str (Str.ofString (toString tot))) (Args.sc2 (Args.two (Ev.conv G l (Ev.txt l) Ev.kstr (Post := fun v => ∃ t, v = .str T t) ?_ rfl rfl rfl rfl) (Ev.conv G l (Ev.locI hm rfl rfl (by decide)) Ev.kstr (Post := fun v => ∃ t, v = .str (Str.ofString (toString tot)) t) ?_ rfl rfl rfl rfl) rfl rfl) (fun _ _ => sc_s) (fun _ _ => sc_s))
    (fun n' hn => Args.sc2 (Args.two (Ev.txt (l.up hn)) (Ev.strI (Ev.builtG G (by k_is) (by boot_by_name) (by decide) rfl (by decide)) (Ev.locI hm rfl rfl (by decide)) h0 (by omega) rfl rfl) rfl rfl) (fun _ _ => sc_s) (fun _ _ => sc_s)) (ok_menu hT) (ok_tot h0 (by omega)) G.room rfl) (fun hb => nomatch hb) (fun _ => h)
  · rintro x y t u ⟨t1, rfl⟩ ⟨t2, rfl⟩
    exact (conv_s w fm T (by omega) t1 t2).mono fun r e => ⟨t1, e⟩
  · rintro x y t u ⟨t1, rfl⟩ ⟨t2, rfl⟩
    exact conv_i w fm tot h0 h1 t1 t2
end
end Mine
end
section
local macro_rules | `(tactic| omega) => `(tactic| lia)
open PySem PySem.W PyProof PyProof.Rows
set_option Elab.async false
set_option maxRecDepth 100000
set_option maxHeartbeats 100000000
namespace Mine
theorem fmt_claim {S x sp : Str} (w : World) (fm : Addr) (tx ts : Tok) (hS : ∀ (A : Around) (E : Value → Shared → Prop) (s : Shared) (Q : Value → Shared → Prop), (∀ t' k, Q (.str S t') { s with toks := k }) → wpAny (model PySem.Challenge.rw_ik0037_01.row.prog w) A (call (.builtin "format") [.str x tx, .str sp ts]) Q E s) :
    Claim w 1 78 [.ref fm, .str x tx, .str sp ts] (fun r => ∃ t, r = .str S t) := by
  k_with_none
  unfold Claim
  k_fill
  intro p loose mean mg mb dp un gd cn cs a ccd cl outer A₀ base h₀ L m news s Q E B F X N T hk hdp hun hret
  refine wpAny_call ?_
  k_dflt cell_enter
  rename Fr _ _ _ _ => F1
  have F2 := fr_frl (l' := [(Str.ofString "format_spec", Value.str sp ts), (Str.ofString "value", Value.str x tx), (Str.ofString "self", Value.ref fm)]) F1 (by rfl)
  clear F1
  rename News _ _ _ _ => N2
  rename Frag.In _ _ => X2
  rename Top _ _ _ _ _ _ => T2
  have T3 := topRead_of T2
  refine Bl.enter (Ret news (fun r _ => ∃ t, r = .str S t)) F2 N2 ?_ ?_
  rotate_left
  · rintro _ m' n' h tk ⟨v, rfl, hP, hn⟩ Fe Ne
    exact leaveK_ Fe (news_sub Ne hn) fun kF kN => hret _ _ _ hP kF kN
  refine Bl.retR (Ev.bcall (Ev.built X2 T3 (by k_is) (by boot_by_name) (by decide) rfl rfl (by decide)) (Args.two (Ev.loc rfl rfl rfl (by decide)) (Ev.loc rfl rfl rfl (by decide)) rfl rfl) (fun vs t hv => ?_) rfl rfl rfl) (fun v tk h => h) fun _ hp => hp
  obtain ⟨y, z, t, u, rfl, rfl, rfl⟩ := hv
  exact fun s Q F N k => hS _ _ _ _ fun t' k' => k _ s.heap k' ⟨t', rfl⟩ F N
section
variable {w : World} {dp un : Nat} {gd : Option (List Code)} {cn : Str} {L a : Addr} {ccd : Value} {cl : List (Str × Addr)} {h₀ : Heap} {m : Fm} {n : Lg} {T : Str} {fm dx : Addr} {R : Flow → Fm → Lg → Nat → Prop} {ss : List Stmt}
/-- the law's loop: nothing but the loop's name changes -/
inductive Rf (m₀ : Fm) (n₀ : Lg) (m : Fm) (n : Lg) : Prop
  | mk (en : n₀ = n) (em : ∀ y, y ≠ Str.ofString "strange" → m y = m₀ y) : Rf m₀ n₀ m n
theorem st10 {W : Str} {tW : Tok} (G : Gd w dp un h₀) (l : Lw T fm dx cl n) (hm : m (Str.ofString "whole") = some (.str W tW)) (hW : ∃ l, cp W = 233 :: l) (hl : W.length ≤ 64) (hT : T.length ≤ 6)
    (h : ∀ m', (∀ y, y ≠ Str.ofString "strange" → m' y = m y) → Bl (lawCx w dp un gd cn L a ccd cl h₀) m' n ss R) : Bl (lawCx w dp un gd cn L a ccd cl h₀) m n (lawSt 10 :: ss) R := by
  refine Bl.cut (R1 := fun f m' n' _ => f = .next ∧ Rf m n m' n')
    (St.listD (Ps := fun vs _ => vs.length = 6 ∧ ∀ v ∈ vs, ∃ y t, v = .str y t ∧ y.length ≤ 1000 ∧ (y == Str.ofString "s") = false ∧ (y == Str.ofString "r") = false ∧ (y == Str.ofString "a") = false) (fun _ => Rf m n) ?_ ?_ rfl rfl rfl (fun _ => rfl) ⟨rfl, fun _ _ => rfl⟩ ?_ (fun _ _ _ m1 n1 tk h => ⟨rfl, h⟩)) ?_
  · have key : ∀ z : Str, z.length ≤ 1000 → (z == Str.ofString "s") = false → (z == Str.ofString "r") = false → (z == Str.ofString "a") = false → ∀ v (t : Nat), Vs z v t → ∃ y t, v = .str y t ∧ y.length ≤ 1000 ∧ (y == Str.ofString "s") = false ∧ (y == Str.ofString "r") = false ∧ (y == Str.ofString "a") = false := by
      rintro z z1 z2 z3 z4 v t ⟨u, rfl⟩
      exact ⟨z, u, rfl, z1, z2, z3, z4⟩
    exact Args.all Ev.kstr (key _ (by decide +kernel) (by decide +kernel) (by decide +kernel) (by decide +kernel)) (Args.all Ev.kstr (key _ (by decide +kernel) (by decide +kernel) (by decide +kernel) (by decide +kernel)) (Args.all Ev.kstr (key _ (by decide +kernel) (by decide +kernel) (by decide +kernel) (by decide +kernel))
      (Args.all Ev.kstr (key _ (by decide +kernel) (by decide +kernel) (by decide +kernel) (by decide +kernel)) (Args.all Ev.kstr (key _ (by decide +kernel) (by decide +kernel) (by decide +kernel) (by decide +kernel))
        (Args.all (Ev.locS hm rfl rfl (by decide)) (key W (by omega) (whole_ne hW (l' := []) (c := 115) (by decide +kernel) (by decide)) (whole_ne hW (l' := []) (c := 114) (by decide +kernel) (by decide)) (whole_ne hW (l' := []) (c := 97) (by decide +kernel) (by decide))) Args.noneA rfl) rfl) rfl) rfl) rfl) rfl
  · exact fun vs t h => by rw [h.1]; decide
  · rintro vs t0 hvs i v m1 n1 own hi hadr hoff ⟨rfl, em⟩
    obtain ⟨y, t, rfl, hy, e1, e2, e3⟩ := hvs.2 v (List.mem_of_getElem? hi)
    have l2 := l.up (n' := n ++ own) fun q hq => List.mem_append_left _ hq
    have l3 := l2
    obtain ⟨DF, DT, oF, oT, tT, hcf, hct, mf, mt, ef, et, g1, g2⟩ := l3
    refine Bl.iff (B := fun b => b = false) (Te.mono (Te.not (Te.boolN (b₀ := true) (Ev.dcall (f := 148) G.X (by k_is) rfl (Ev.globG G (by k_is) rfl (by decide)) (Args.three (Ev.fmt l2) (Ev.txt l2) (Ev.loc rfl rfl rfl (by decide)) rfl rfl rfl) (fun vs t hv => ?_) rfl rfl) rfl)) (fun b hb => by cases b <;> simp_all)) (fun hb => nomatch hb) (fun _ => Bl.nil fun _ => ⟨rfl, n, fun p hp => List.mem_append_left _ hp, fun p hp => List.mem_append_right _ hp, rfl, rfl, fun z hz => ?_⟩)
    · obtain ⟨x1, x2, x3, u1, u2, u3, rfl, rfl, ⟨u4, rfl⟩, rfl⟩ := hv
      exact Op.claimT G (refused_claimT w T y fm dx (by omega) hy e1 e2 e3 _ _) (k := 5) (by decide) g1 g2
    · rw [← em z hz]
      exact if_neg hz
  · rintro _ m' n' tk ⟨rfl, rfl, em⟩
    exact h m' em
theorem st11 (G : Gd w dp un h₀) (l : Lw T fm dx cl n) (hT : ∀ c ∈ cp T, c ∈ menu) (hl : T.length ≤ 6)
    (h : ∀ t u, Bl (lawCx w dp un gd cn L a ccd cl h₀) (fset (fset m (Str.ofString "wide") (.str (WR T false) t)) (Str.ofString "narrow") (.str (WR T true) u)) n ss R) : Bl (lawCx w dp un gd cn L a ccd cl h₀) m n (lawSt 11 :: lawSt 12 :: lawSt 13 :: ss) R := by
  refine Bl.asg (Ev.conv G l (Ev.txt l) Ev.kstr (Post := fun v => ∃ t, v = .str (WR T false) t) ?_ rfl rfl rfl rfl) rfl rfl rfl ?_
  · rintro x y t u ⟨t1, rfl⟩ ⟨t2, rfl⟩
    exact (conv_r w fm T hT (by omega) t1 t2).mono fun r ⟨t, e, _⟩ => ⟨t, e⟩
  rintro _ _ ⟨t1, rfl⟩
  refine Bl.asg (Ev.conv G l (Ev.txt l) Ev.kstr (Post := fun v => ∃ t, v = .str (WR T true) t) ?_ rfl rfl rfl rfl) rfl rfl rfl ?_
  · rintro x y t u ⟨t1, rfl⟩ ⟨t2, rfl⟩
    exact (conv_a w fm T hT (by omega) t1 t2).mono fun r ⟨t, e, _⟩ => ⟨t, e⟩
  rintro _ _ ⟨t2, rfl⟩
  refine Bl.iff (Te.ne2 (d1 := .str (WR T false)) (d2 := .str (WR T true)) (Args.sc2 (Args.two (Ev.locS rfl rfl rfl (by decide)) (Ev.locS rfl rfl rfl (by decide)) rfl rfl) (fun _ _ => sc_s) (fun _ _ => sc_s))
    (fun n' hn => Args.sc2 (Args.two (Ev.written G (Ev.txt (l.up hn)) hT (by omega) rfl) (Ev.written G (Ev.txt (l.up hn)) hT (by omega) rfl) rfl rfl) (fun _ _ => sc_s) (fun _ _ => sc_s)) (ok_WR hT) (ok_WR hT) G.room rfl) (fun hb => nomatch hb) (fun _ => h t1 t2)
theorem st14 {fl sa : Nat} {room : Int} {t1 t2 t3 t4 : Tok} (G : Gd w dp un h₀) (l : Lw T fm dx cl n) (hT : ∀ c ∈ cp T, c ∈ menu) (hl : T.length ≤ 6) (hh : ∃ l, cp T = 233 :: l) (hf : fl ∈ [42, 120, 48, 32]) (ha : sa ∈ [60, 62, 94]) (h0 : 0 ≤ room) (h3 : room ≤ 3)
    (mr : m (Str.ofString "room") = some (.int room t1)) (ms : m (Str.ofString "side") = some (.str ⟨#[sa]⟩ t2)) (mf : m (Str.ofString "filler") = some (.str ⟨#[fl]⟩ t3)) (mn : m (Str.ofString "narrow") = some (.str (WR T true) t4))
    (h : ∀ t, Bl (lawCx w dp un gd cn L a ccd cl h₀) (fset m (Str.ofString "cell") (.str (cellS (WR T true) fl sa room) t)) n ss R) : Bl (lawCx w dp un gd cn L a ccd cl h₀) m n (lawSt 14 :: lawSt 15 :: ss) R := by
  have hl38 : (WR T true).length ≤ 36 := Nat.le_trans (WR_less hT hl hh true) (by omega)
  have hp := WR_pos T true
  have l2 := l
  obtain ⟨DF, DT, oF, oT, tT, hcf, hct, mff, mt, ef, et, g1, g2⟩ := l2
  have one : ∀ x : Nat, (⟨#[x]⟩ : Str).length = 1 := fun _ => rfl
  have hts : (Str.ofString (toString (((WR T true).length : Int) + room))).length ≤ 3 := by
    have e : ((WR T true).length : Int) + room = (((WR T true).length + room.toNat : Nat) : Int) := by omega
    rw [← cp_len, e, tot_cp _ (by omega)]
    unfold wtxt
    split <;> simp
  refine Bl.asg (Ev.mcall (C := 102) (f := 78) (P := Vs (cellS (WR T true) fl sa room)) G.X (Ev.fmt l) g1 g2 (by k_is) (by k_is) (by k_is) (by k_get) (by k_is) (Args.two (Ev.locS mn rfl rfl (by decide)) (Ev.cat (Ev.cat (Ev.locS mf rfl rfl (by decide)) (Ev.locS ms rfl rfl (by decide)) (by rw [one, one]; decide))
    (Ev.strI (Ev.builtG G (by k_is) (by boot_by_name) (by decide) rfl (by decide)) (Ev.vi (Ev.add (Ev.vi (Ev.len (Ev.builtG G (by k_is) (by boot_by_name) (by decide) rfl (by decide)) (Ev.locS mn rfl rfl (by decide)) (by omega) rfl rfl)) (Ev.locI mr rfl rfl (by decide)))) (by omega) (by omega) rfl rfl) (by rw [Str.length_append, one, one]; omega)) rfl rfl) (fun vs t hv => ?_) rfl rfl rfl) rfl rfl rfl ?_
  · obtain ⟨x1, x2, u1, u2, rfl, ⟨u3, rfl⟩, ⟨u4, rfl⟩⟩ := hv
    exact Op.claim G (fmt_claim w fm _ _ fun A E s Q k => call_format_m hf ha h0 h3 (by omega) (by omega) rfl fun t' k' _ => k t' k') (k := 1) (by decide)
  rintro _ _ ⟨t5, rfl⟩
  refine Bl.iff (B := fun b => b = false) (Te.mono (Te.neS (Ev.locS rfl rfl rfl (by decide)) (Ev.dcall (f := 141) (P := Vs (cellS (WR T true) fl sa room)) G.X (by k_is) rfl (Ev.globG G (by k_is) rfl (by decide)) (Args.four (Ev.locS mn rfl rfl (by decide)) (Ev.locS mf rfl rfl (by decide)) (Ev.locS ms rfl rfl (by decide)) (Ev.locI mr rfl rfl (by decide)) rfl rfl rfl rfl) (fun vs t hv => ?_) rfl rfl) rfl) (fun b hb => by rw [hb]; simp)) (fun hb => nomatch hb) (fun _ => h t5)
  obtain ⟨_, _, _, _, _, _, _, _, rfl, ⟨t1, rfl⟩, ⟨t2, rfl⟩, ⟨t3, rfl⟩, ⟨t4, rfl⟩⟩ := hv
  exact Op.claim G (cell_claim_m w (WR T true) fl sa room (by omega) ha h0 h3 _ _ _ _) (k := 1) (by decide)
end
end Mine
end
section
local macro_rules | `(tactic| omega) => `(tactic| lia)
open PySem PySem.W PyProof PyProof.Rows PySem.Calls
set_option Elab.async false
set_option maxRecDepth 100000
set_option maxHeartbeats 100000000
namespace Mine
section
variable {c : Cx} {m : Fm} {n : Lg}
/-- len([x for x in text if x in 'lit']) -/
theorem Ev.cnt {fe ve : Expr} {x : Str} {scope : Scope} {lit : Str} {n1 : Nat} {pc pl px p1 p2 p3 p4 : Pos} {T : Str} {cl2 : List (Str × Addr)} (hf : Ev c m n fe (fun r _ => r = .builtin "len")) (hv : Ev c m n ve (Vs T)) (hT : T.length ≤ 64) (hh : c.A.handled = none)
    (hclos : closureFor scope c.env = pure cl2) (hcell : ∀ y ∈ scope.names, y.2 ≠ .cell) (hkind : scope.kind = .function) (hnames : ∀ y ∈ scope.names, y.2 = .local → scope.names.lookup y.1 = some .local) (hx : scope.names.lookup x = some .local) (hd : (x == Str.ofString "__debug__") = false) (hko : ∀ C, (compEnvC scope cl2 C c.env).kindOf x = some .local)
    (hs : ∀ v, foldedSetIterable ve c.env v = pure v)
    (hc : eval (fe.Call [.ListComp (.Name x p1) [⟨.Name x px, ve, [.Compare (.Name x p2) [.In] [.Constant (.str lit) n1 p3] p4], 0⟩] scope pl] [] pc) c.env = (do let f ← eval fe c.env; callWith pc f [] (backTo pc (starEach [.ListComp (.Name x p1) [⟨.Name x px, ve, [.Compare (.Name x p2) [.In] [.Constant (.str lit) n1 p3] p4], 0⟩] scope pl] c.env)) (backToKw pc (keywordEach [] c.env))))
    (hx1 : starEach [.ListComp (.Name x p1) [⟨.Name x px, ve, [.Compare (.Name x p2) [.In] [.Constant (.str lit) n1 p3] p4], 0⟩] scope pl] c.env = (false, eval (.ListComp (.Name x p1) [⟨.Name x px, ve, [.Compare (.Name x p2) [.In] [.Constant (.str lit) n1 p3] p4], 0⟩] scope pl) c.env) :: starEach [] c.env) :
    Ev c m n (.Call fe [.ListComp (.Name x p1) [⟨.Name x px, ve, [.Compare (.Name x p2) [.In] [.Constant (.str lit) n1 p3] p4], 0⟩] scope pl] [] pc) (Vi (((cp T).countP (inLit lit) : Nat) : Int)) :=
  fun s Q F N k => Call_ (hf s _ F N fun f h tk hf F N => by
    subst hf
    refine PyProof.Rows.callWith_builtin1 (args_cons ?_ hx1) hx1
    refine ListComp_str F hclos hcell hkind hnames hx ?_ hs
    refine hv _ _ F N fun v h tk hv F N => ?_
    obtain ⟨t, rfl⟩ := hv
    refine SrcStr.lit hh F N hT ?_ ?_
    · intro g d t I oI C oC D m2 ys h tk E' hd' hC hx' F' N' off ne mk
      refine wpAny_isTrue_Compare1 ?_ rfl
      refine LCgL.ld_own N' (.tail _ (.head _)) hC hx' ?_ hkind (hko C) hd
      refine Constant_str ?_
      refine PyProof.Rows.in_str ?_
      refine wpAny_truthy_bool ?_
      cases hb : (Builtin.Str.occurrences lit ⟨#[d]⟩ 0 lit.length 1).isEmpty with
      | false =>
        refine Eq.mpr (if_pos rfl) ?_
        refine LCgL.ld_own N' (.tail _ (.head _)) hC hx' ?_ hkind (hko C) hd
        exact cnt_el_end F' N' off (cnt_t hb)
      | true =>
        refine Eq.mpr (if_neg (by decide)) ?_
        exact cnt_no_end F' N' off (cnt_f hb)
    · intro g ys hys
      refine fin_intro fun D h tk F N off => args_nil (len_cnt N hys ?_ fun t tk => k _ h tk ⟨t, rfl⟩ F (news_sub N fun q hq => .tail _ hq))
      have := List.countP_le_length (p := inLit lit) (l := cp T)
      rw [cp_len] at this
      omega) hc
end
section
variable {w : World} {dp un : Nat} {gd : Option (List Code)} {cn : Str} {L a : Addr} {ccd : Value} {cl : List (Str × Addr)} {h₀ : Heap} {m : Fm} {n : Lg} {T : Str} {fm dx : Addr} {R : Flow → Fm → Lg → Nat → Prop} {ss : List Stmt}
theorem st16 (G : Gd w dp un h₀) (l : Lw T fm dx cl n) (hT : ∀ c ∈ cp T, c ∈ menu) (hl : T.length ≤ 6)
    (h : ∀ t u, Bl (lawCx w dp un gd cn L a ccd cl h₀) (fset (fset m (Str.ofString "lost") (.int ((cp T).countP lostp : Nat) t)) (Str.ofString "beyond") (.int ((cp T).countP byp : Nat) u)) n ss R) : Bl (lawCx w dp un gd cn L a ccd cl h₀) m n (lawSt 16 :: lawSt 17 :: ss) R := by
  refine Bl.asg (Ev.cnt (Ev.builtG G (by k_is) (by boot_by_name) (by decide) rfl (by decide)) (Ev.txt l) (by omega) rfl rfl (by decide) rfl (by decide) rfl (by decide) (fun _ => rfl) (fun _ => rfl) rfl rfl) rfl rfl rfl ?_
  rintro _ _ ⟨t1, rfl⟩
  refine Bl.asg (Ev.cnt (Ev.builtG G (by k_is) (by boot_by_name) (by decide) rfl (by decide)) (Ev.txt l) (by omega) rfl rfl (by decide) rfl (by decide) rfl (by decide) (fun _ => rfl) (fun _ => rfl) rfl rfl) rfl rfl rfl ?_
  rintro _ _ ⟨t2, rfl⟩
  rw [lost_eq hT, by_eq hT]
  exact h t1 t2
theorem st26 (G : Gd w dp un h₀) (l : Lw T fm dx cl n) (hT : ∀ c ∈ cp T, c ∈ menu) (hl : T.length ≤ 6)
    (h : ∀ t, Bl (lawCx w dp un gd cn L a ccd cl h₀) (fset m (Str.ofString "letters") (.int ((cp T).countP letp : Nat) t)) n ss R) : Bl (lawCx w dp un gd cn L a ccd cl h₀) m n (lawSt 26 :: ss) R := by
  refine Bl.asg (Ev.cnt (Ev.builtG G (by k_is) (by boot_by_name) (by decide) rfl (by decide)) (Ev.txt l) (by omega) rfl rfl (by decide) rfl (by decide) rfl (by decide) (fun _ => rfl) (fun _ => rfl) rfl rfl) rfl rfl rfl ?_
  rintro _ _ ⟨t1, rfl⟩
  rw [let_eq hT]
  exact h t1
end
end Mine
end
section
local macro_rules | `(tactic| omega) => `(tactic| lia)
open PySem PySem.W PyProof PyProof.Rows PySem.Calls
set_option Elab.async false
set_option maxRecDepth 100000
set_option maxHeartbeats 100000000
namespace Mine
noncomputable def one1 (T : Str) : Int := 2 * (((WR T false).length : Int) - ((T.length : Int) - ((cp T).countP lostp : Nat)))
noncomputable def two2 (T : Str) : Int := 2 * (((WR T true).length : Int) - (((WR T false).length : Int) - ((cp T).countP byp : Nat)))
/-- the points on the road -/
noncomputable def pnt (T : Str) (fl sa : Nat) (room : Int) : Nat → Str
  | 0 => T
  | 1 => WR T false
  | 2 => WR T true
  | _ => cellS (WR T true) fl sa room
theorem lev_all {T : Str} {fl sa : Nat} {room mc v : Int} (hm : ∀ c ∈ cp T, c ∈ menu) (hl : T.length ≤ 6) (hf : fl ∈ [42, 120, 48, 32]) (h0 : 0 ≤ room) (h3 : room ≤ 3) (hh : ∃ l, cp T = 233 :: l) :
    ∀ i j : Nat, i < j → j < 4 → LevOk (cp (pnt T fl sa room i)) (cp (pnt T fl sa room j)) mc v → mc = (([one1 T, two2 T, 2 * room].drop i).take (j - i)).sum → v = mc := by
  intro i j hij hj h e
  rcases (by omega : (i = 0 ∧ j = 1) ∨ (i = 0 ∧ j = 2) ∨ (i = 0 ∧ j = 3) ∨ (i = 1 ∧ j = 2) ∨ (i = 1 ∧ j = 3) ∨ (i = 2 ∧ j = 3)) with ⟨rfl, rfl⟩ | ⟨rfl, rfl⟩ | ⟨rfl, rfl⟩ | ⟨rfl, rfl⟩ | ⟨rfl, rfl⟩ | ⟨rfl, rfl⟩
  · exact lev01 hm hl h (by rw [e]; simp [one1])
  · exact lev02 hm hl h (by rw [e]; simp [one1, two2]; omega)
  · exact lev03 (a := sa) hm hl hf h0 h3 hh h mc (by rw [e]; simp [one1, two2]; omega) (by omega)
  · exact lev12 hm hl h (by rw [e]; simp [two2])
  · exact lev13 (a := sa) hm hl hf h0 h3 hh h (by rw [e]; simp [two2]; omega)
  · exact lev23 (a := sa) hm hl hf h0 h3 hh h (by rw [e]; simp)
theorem sum_all {T : Str} {room : Int} (hm : ∀ c ∈ cp T, c ∈ menu) (hl : T.length ≤ 6) (h0 : 0 ≤ room) (h3 : room ≤ 3) (hh : ∃ l, cp T = 233 :: l) : 0 ≤ one1 T ∧ one1 T ≤ 100 ∧ 0 ≤ two2 T ∧ two2 T ≤ 100 := by
  obtain ⟨h1, h2, h3, h4, h5, h6, h7, h8⟩ := facts hm hl hh
  unfold one1 two2
  omega
theorem sum_ij {x y z : Int} (hx : 0 ≤ x ∧ x ≤ 100) (hy : 0 ≤ y ∧ y ≤ 100) (hz : 0 ≤ z ∧ z ≤ 100) : ∀ i j : Nat, 0 ≤ (([x, y, z].drop i).take j).sum ∧ (([x, y, z].drop i).take j).sum ≤ 300 := by
  intro i j
  rcases i with _ | _ | _ | i <;> rcases j with _ | _ | _ | j <;> simp <;> omega
theorem pnt_len {T : Str} {fl sa : Nat} {room : Int} (hl : T.length ≤ 6) (h0 : 0 ≤ room) (h3 : room ≤ 3) : ∀ i, (pnt T fl sa room i).length ≤ 1000
  | 0 => by show T.length ≤ 1000; omega
  | 1 => by have := WR_len T false; show (WR T false).length ≤ 1000; omega
  | 2 => by have := WR_len T true; show (WR T true).length ≤ 1000; omega
  | _ + 3 => by have := WR_len T true; have := cellS_len (x := WR T true) (f := fl) (a := sa) h0; show (cellS (WR T true) fl sa room).length ≤ 1000; omega
section
variable {w : World} {dp un : Nat} {gd : Option (List Code)} {cn : Str} {L a : Addr} {ccd : Value} {cl : List (Str × Addr)} {h₀ : Heap} {m : Fm} {n : Lg} {T : Str} {fm dx : Addr} {R : Flow → Fm → Lg → Nat → Prop} {ss : List Stmt}
/-- _levenshtein_distance, called -/
theorem Ev.lev {e1 e2 e3 : Expr} {p1 p : Pos} {x y : Str} {mc : Int} (G : Gd w dp un h₀) (h1 : Ev (lawCx w dp un gd cn L a ccd cl h₀) m n e1 (Vs x)) (h2 : Ev (lawCx w dp un gd cn L a ccd cl h₀) m n e2 (Vs y)) (h3 : Ev (lawCx w dp un gd cn L a ccd cl h₀) m n e3 (Vi mc))
    (hx : x.length ≤ 1000) (hy : y.length ≤ 1000) (hm0 : 0 ≤ mc) (hm : mc ≤ 1000000)
    (hx1 : starEach [e1, e2, e3] (lawCx w dp un gd cn L a ccd cl h₀).env = (false, eval e1 (lawCx w dp un gd cn L a ccd cl h₀).env) :: starEach [e2, e3] (lawCx w dp un gd cn L a ccd cl h₀).env)
    (hx2 : starEach [e2, e3] (lawCx w dp un gd cn L a ccd cl h₀).env = (false, eval e2 (lawCx w dp un gd cn L a ccd cl h₀).env) :: starEach [e3] (lawCx w dp un gd cn L a ccd cl h₀).env)
    (hx3 : starEach [e3] (lawCx w dp un gd cn L a ccd cl h₀).env = (false, eval e3 (lawCx w dp un gd cn L a ccd cl h₀).env) :: starEach [] (lawCx w dp un gd cn L a ccd cl h₀).env) :
    Ev (lawCx w dp un gd cn L a ccd cl h₀) m n (.Call (.Name (Str.ofString "_levenshtein_distance") p1) [e1, e2, e3] [] p) (fun r tk => ∃ t v, r = .int v t ∧ (LevOk (cp x) (cp y) mc v ∧ (tk ≠ 0 ∨ 2 * ((y.length : Int) - x.length) ≤ mc))) := by
  refine Ev.dcall (f := 120) G.X (by k_is) rfl (Ev.globG G (by k_is) rfl (by decide)) (Args.three h1 h2 h3 hx1 hx2 hx3) (fun vs t hv => ?_) rfl hx1
  obtain ⟨y1, y2, y3, u1, u2, u3, rfl, ⟨t1, rfl⟩, ⟨t2, rfl⟩, ⟨t3, rfl⟩⟩ := hv
  exact Op.claimK G (lev_claim2 w x y mc hx hy hm0 hm t1 t2 t3) (k := 3) (by decide)
/-- it tells v -/
theorem Ev.levV {e1 e2 e3 : Expr} {p1 p : Pos} {x y : Str} {mc v : Int} (G : Gd w dp un h₀) (h1 : Ev (lawCx w dp un gd cn L a ccd cl h₀) m n e1 (Vs x)) (h2 : Ev (lawCx w dp un gd cn L a ccd cl h₀) m n e2 (Vs y)) (h3 : Ev (lawCx w dp un gd cn L a ccd cl h₀) m n e3 (Vi mc))
    (hx : x.length ≤ 1000) (hy : y.length ≤ 1000) (hm0 : 0 ≤ mc) (hm : mc ≤ 1000000) (hv : ∀ u, LevOk (cp x) (cp y) mc u → u = v)
    (hx1 : starEach [e1, e2, e3] (lawCx w dp un gd cn L a ccd cl h₀).env = (false, eval e1 (lawCx w dp un gd cn L a ccd cl h₀).env) :: starEach [e2, e3] (lawCx w dp un gd cn L a ccd cl h₀).env)
    (hx2 : starEach [e2, e3] (lawCx w dp un gd cn L a ccd cl h₀).env = (false, eval e2 (lawCx w dp un gd cn L a ccd cl h₀).env) :: starEach [e3] (lawCx w dp un gd cn L a ccd cl h₀).env)
    (hx3 : starEach [e3] (lawCx w dp un gd cn L a ccd cl h₀).env = (false, eval e3 (lawCx w dp un gd cn L a ccd cl h₀).env) :: starEach [] (lawCx w dp un gd cn L a ccd cl h₀).env) :
    Ev (lawCx w dp un gd cn L a ccd cl h₀) m n (.Call (.Name (Str.ofString "_levenshtein_distance") p1) [e1, e2, e3] [] p) (Vi v) :=
  (Ev.lev G h1 h2 h3 hx hy hm0 hm hx1 hx2 hx3).mono fun r tk ⟨t, u, e, h, _⟩ => ⟨t, by rw [e, hv u h]⟩
/-- int != the same int -/
theorem Te.same {c : Cx} {m : Fm} {n : Lg} {l r : Expr} {p : Pos} {i : Int} (ha : Ev c m n l (Vi i)) (hb : Ev c m n r (Vi i)) (hm : behindInMarks .NotEq r = false) : Te c m n (.Compare l [.NotEq] [r] p) (fun b => b = false) :=
  Te.mono (Te.cmpI ha hb (.inr (.inl rfl)) hm) fun b hb => by rw [hb]; simp [Lt]
inductive Rl (m₀ : Fm) (n₀ : Lg) (m : Fm) (n : Lg) : Prop
  | mk (en : n₀ = n) (em : ∀ y, y ≠ Str.ofString "i" → y ≠ Str.ofString "j" → m y = m₀ y) : Rl m₀ n₀ m n
theorem pnt_at {T : Str} {fl sa : Nat} {room : Int} {t0 t1 t2 t3 : Tok} : ∀ i : Nat, i < 4 → ∃ t, (List.toArray [Value.str T t0, .str (WR T false) t1, .str (WR T true) t2, .str (cellS (WR T true) fl sa room) t3])[i]? = some (.str (pnt T fl sa room i) t)
  | 0, _ => ⟨t0, rfl⟩
  | 1, _ => ⟨t1, rfl⟩
  | 2, _ => ⟨t2, rfl⟩
  | 3, _ => ⟨t3, rfl⟩
  | _ + 4, h => absurd h (by omega)
theorem st22 {fl sa : Nat} {room : Int} {Dp Ds : Addr} {op os : Obj} {us : List Value} {t0 t1 t2 t3 : Tok} (G : Gd w dp un h₀) (hT : ∀ c ∈ cp T, c ∈ menu) (hl : T.length ≤ 6) (hh : ∃ l, cp T = 233 :: l) (hf : fl ∈ [42, 120, 48, 32]) (h0 : 0 ≤ room) (h3 : room ≤ 3)
    (mp : m (Str.ofString "points") = some (.ref Dp)) (ms : m (Str.ofString "steps") = some (.ref Ds)) (np : (Dp, op) ∈ n) (ns : (Ds, os) ∈ n) (ip : IsL op [Value.str T t0, .str (WR T false) t1, .str (WR T true) t2, .str (cellS (WR T true) fl sa room) t3].toArray) (is : IsL os us.toArray) (hI : IntsAre us [one1 T, two2 T, 2 * room])
    (h : ∀ m', (∀ y, y ≠ Str.ofString "i" → y ≠ Str.ofString "j" → m' y = m y) → Bl (lawCx w dp un gd cn L a ccd cl h₀) m' n ss R) : Bl (lawCx w dp un gd cn L a ccd cl h₀) m n (lawSt 22 :: ss) R := by
  have hs := sum_all hT hl h0 h3 hh
  have hij := sum_ij ⟨hs.1, hs.2.1⟩ hs.2.2 (z := 2 * room) ⟨by omega, by omega⟩
  refine Bl.cut (R1 := fun f m' n' _ => f = .next ∧ Rl m n m' n')
    (St.range (k := 4) (fun _ => Rl m n) (Ev.builtG G (by k_is) (by boot_by_name) (by decide) rfl (by decide)) (Ev.vi Ev.kint) (by decide) rfl rfl rfl rfl rfl (fun _ => rfl) ⟨rfl, fun _ _ _ => rfl⟩ ?_ (fun m1 n1 tk h => ⟨rfl, h⟩)) ?_
  · rintro i ti m1 n1 own hi hadr hoff ⟨rfl, em⟩
    have mp1 : m1 (Str.ofString "points") = some (.ref Dp) := (em _ (by decide) (by decide)).trans mp
    have ms1 : m1 (Str.ofString "steps") = some (.ref Ds) := (em _ (by decide) (by decide)).trans ms
    refine Bl.last (fun _ _ _ _ h => h) ?_
    refine Run.mono (R := fun f m' n' _ => f = .next ∧ Rl m (n ++ own) m' n') (St.range2 (a := (i : Int) + 1) (b := 4) (k := 3 - i) (fun _ m2 n2 => Rl m (n ++ own) m2 n2 ∧ m2 (Str.ofString "i") = some (.int i ti)) (Ev.builtG G (by k_is) (by boot_by_name) (by decide) rfl (by decide)) (Ev.vi (Ev.add (Ev.locI rfl rfl rfl (by decide)) (Ev.vi Ev.kint))) (Ev.vi Ev.kint) (by omega) (by omega) (by omega) (by omega) rfl rfl rfl rfl rfl rfl rfl (fun _ => rfl) ⟨⟨rfl, fun y y1 y2 => (if_neg y1).trans (em y y1 y2)⟩, rfl⟩ ?_ (fun m1 n1 tk h => ⟨rfl, h.1⟩)) ?_
    · rintro k tj m2 n2 own2 hk hadr2 hoff2 ⟨⟨rfl, em2⟩, ei⟩
      have ej : ((i : Int) + 1 + (k : Int)) = ((i + 1 + k : Nat) : Int) := by omega
      rw [ej]
      have mp2 : m2 (Str.ofString "points") = some (.ref Dp) := (em2 _ (by decide) (by decide)).trans mp
      have ms2 : m2 (Str.ofString "steps") = some (.ref Ds) := (em2 _ (by decide) (by decide)).trans ms
      have np2 : (Dp, op) ∈ n ++ own ++ own2 := List.mem_append_left _ (List.mem_append_left _ np)
      have ns2 : (Ds, os) ∈ n ++ own ++ own2 := List.mem_append_left _ (List.mem_append_left _ ns)
      obtain ⟨u1, a1⟩ := pnt_at (T := T) (fl := fl) (sa := sa) (room := room) (t0 := t0) (t1 := t1) (t2 := t2) (t3 := t3) i hi
      obtain ⟨u2, a2⟩ := pnt_at (T := T) (fl := fl) (sa := sa) (room := room) (t0 := t0) (t1 := t1) (t2 := t2) (t3 := t3) (i + 1 + k) (by omega)
      have hsum := hij i (i + 1 + k - i)
      have se : ∀ {m3 : Fm} {p1 p2 p3 p4 p5 p6 p7 : Pos}, m3 (Str.ofString "steps") = some (.ref Ds) → m3 (Str.ofString "i") = some (.int i ti) → m3 (Str.ofString "j") = some (.int ((i + 1 + k : Nat) : Int) tj) → Ev (lawCx w dp un gd cn L a ccd cl h₀) m3 (n ++ own ++ own2) (.Call (.Name (Str.ofString "sum") p1) [.Subscript (.Name (Str.ofString "steps") p2) (.Slice (some (.Name (Str.ofString "i") p3)) (some (.Name (Str.ofString "j") p4)) Option.none p5) p6] [] p7) (Vi ((([one1 T, two2 T, 2 * room].drop i).take (i + 1 + k - i)).sum)) := by
        intro m3 p1 p2 p3 p4 p5 p6 p7 q1 q2 q3
        have hq := Ev.sumSl (c := lawCx w dp un gd cn L a ccd cl h₀) (p := p7) (p1 := p6) (p2 := p5) (Ev.builtG (m := m3) (n := n ++ own ++ own2) (x := Str.ofString "sum") (p := p1) G (by k_is) (by boot_by_name) (by decide) rfl (by decide)) (Ev.loc (x := Str.ofString "steps") (p := p2) q1 rfl rfl (by decide)) ns2 is hI (Ev.locI (x := Str.ofString "i") (p := p3) q2 rfl rfl (by decide)) (Ev.locI (x := Str.ofString "j") (p := p4) q3 rfl rfl (by decide)) (by omega) (by omega) (by show ((i + 1 + k : Nat) : Int) ≤ (3 : Nat); omega) (by show 3 ≤ 1000; decide) rfl rfl rfl (fun _ _ => rfl) (fun _ _ => rfl)
        have e1 : (i : Int).toNat = i := Int.toNat_natCast i
        have e2 : (((i + 1 + k : Nat) : Int) - (i : Int)).toNat = i + 1 + k - i := by omega
        rw [e1, e2] at hq
        exact hq
      have pe : ∀ {m3 : Fm} {z : Str} {p1 p2 p3 : Pos} {x : Nat} {tx u : Tok} , m3 (Str.ofString "points") = some (.ref Dp) → m3 z = some (.int (x : Int) tx) → x < 4 → (List.toArray [Value.str T t0, .str (WR T false) t1, .str (WR T true) t2, .str (cellS (WR T true) fl sa room) t3])[x]? = some (.str (pnt T fl sa room x) u) → (lawCx w dp un gd cn L a ccd cl h₀).env.kindOf z = some .local → (z == Str.ofString "__debug__") = false →
          Ev (lawCx w dp un gd cn L a ccd cl h₀) m3 (n ++ own ++ own2) (.Subscript (.Name (Str.ofString "points") p1) (.Name z p2) p3) (Vs (pnt T fl sa room x)) := by
        intro m3 z p1 p2 p3 x tx u q1 q2 q3 q4 q5 q6
        exact (Ev.at (c := lawCx w dp un gd cn L a ccd cl h₀) (v := .str (pnt T fl sa room x) u) q1 q2 np2 ip (by omega) (by omega) (by rw [Int.toNat_natCast]; exact q4) rfl rfl q5 (by decide) q6).mono fun _ _ e => ⟨u, e⟩
      refine Bl.iff (Te.same (Ev.levV G (pe (x := i) (z := Str.ofString "i") mp2 ei hi a1 rfl (by decide)) (pe (x := i + 1 + k) (z := Str.ofString "j") mp2 rfl (by omega) a2 rfl (by decide)) (se ms2 ei rfl) (pnt_len hl h0 h3 _) (pnt_len hl h0 h3 _) hsum.1 (by omega) (fun u hu => lev_all hT hl hf h0 h3 hh i (i + 1 + k) (by omega) (by omega) hu rfl) rfl rfl rfl) (se ms2 ei rfl) rfl) (fun hb => nomatch hb)
        (fun _ => Bl.nil fun _ => .inl ⟨rfl, n ++ own, fun p hp => List.mem_append_left _ hp, fun p hp => List.mem_append_right _ hp, rfl, ⟨rfl, fun y y1 y2 => (if_neg y2).trans (em2 y y1 y2)⟩, ei⟩)
    · rintro f m' n' tk ⟨rfl, rfl, em'⟩
      exact .inl ⟨rfl, n, fun p hp => List.mem_append_left _ hp, fun p hp => List.mem_append_right _ hp, rfl, rfl, em'⟩
  · rintro _ m' n' tk ⟨rfl, rfl, em⟩
    exact h m' em
end
end Mine
end
section
local macro_rules | `(tactic| omega) => `(tactic| lia)
open PySem PySem.W PyProof PyProof.Rows PySem.Calls
set_option Elab.async false
set_option maxRecDepth 100000
set_option maxHeartbeats 100000000
namespace Mine
section
variable {w : World} {dp un : Nat} {gd : Option (List Code)} {cn : Str} {L a : Addr} {ccd : Value} {cl : List (Str × Addr)} {h₀ : Heap} {m : Fm} {n : Lg} {T : Str} {fm dx : Addr} {R : Flow → Fm → Lg → Nat → Prop} {ss : List Stmt}
/-- the list of the steps -/
noncomputable def Stp (T : Str) (room : Int) (m : Fm) (n : Lg) : Prop := ∃ D o us, m (Str.ofString "steps") = some (.ref D) ∧ (D, o) ∈ n ∧ IsL o (List.toArray us) ∧ IntsAre us [one1 T, two2 T, 2 * room]
theorem st18 {fl sa : Nat} {room : Int} {t1 t2 t3 t4 t5 t6 : Tok} (G : Gd w dp un h₀) (l : Lw T fm dx cl n) (hT : ∀ c ∈ cp T, c ∈ menu) (hl : T.length ≤ 6) (hh : ∃ l, cp T = 233 :: l) (hf : fl ∈ [42, 120, 48, 32]) (h0 : 0 ≤ room) (h3 : room ≤ 3)
    (mr : m (Str.ofString "room") = some (.int room t1)) (mw : m (Str.ofString "wide") = some (.str (WR T false) t2)) (mn : m (Str.ofString "narrow") = some (.str (WR T true) t3)) (mc : m (Str.ofString "cell") = some (.str (cellS (WR T true) fl sa room) t4))
    (ml : m (Str.ofString "lost") = some (.int ((cp T).countP lostp : Nat) t5)) (mb : m (Str.ofString "beyond") = some (.int ((cp T).countP byp : Nat) t6))
    (h : ∀ m' n', (∀ y, y ∉ [Str.ofString "first", Str.ofString "second", Str.ofString "steps", Str.ofString "points", Str.ofString "i", Str.ofString "j"] → m' y = m y) → (∀ q ∈ n, q ∈ n') → Stp T room m' n' → Bl (lawCx w dp un gd cn L a ccd cl h₀) m' n' ss R) :
    Bl (lawCx w dp un gd cn L a ccd cl h₀) m n (lawSt 18 :: lawSt 19 :: lawSt 20 :: lawSt 21 :: lawSt 22 :: ss) R := by
  have w1 := WR_len T false
  have w2 := WR_len T true
  refine Bl.asg (Ev.mul (Ev.vi Ev.kint) (Ev.vi (Ev.sub (Ev.vi (Ev.len (Ev.builtG G (by k_is) (by boot_by_name) (by decide) rfl (by decide)) (Ev.locS mw rfl rfl (by decide)) (by omega) rfl rfl)) (Ev.vi (Ev.sub (Ev.vi (Ev.len (Ev.builtG G (by k_is) (by boot_by_name) (by decide) rfl (by decide)) (Ev.txt l) (by omega) rfl rfl)) (Ev.locI ml rfl rfl (by decide)))))) (by mul_fits)) rfl rfl rfl ?_
  rintro _ _ ⟨⟨u1, rfl⟩, _⟩
  refine Bl.asg (Ev.mul (Ev.vi Ev.kint) (Ev.vi (Ev.sub (Ev.vi (Ev.len (Ev.builtG G (by k_is) (by boot_by_name) (by decide) rfl (by decide)) (Ev.locS mn rfl rfl (by decide)) (by omega) rfl rfl)) (Ev.vi (Ev.sub (Ev.vi (Ev.len (Ev.builtG G (by k_is) (by boot_by_name) (by decide) rfl (by decide)) (Ev.locS mw rfl rfl (by decide)) (by omega) rfl rfl)) (Ev.locI mb rfl rfl (by decide)))))) (by mul_fits)) rfl rfl rfl ?_
  rintro _ _ ⟨⟨u2, rfl⟩, _⟩
  refine Bl.asgL (EvL.list (Args.three (Ev.locI (i := one1 T) (t := u1) rfl rfl rfl (by decide)) (Ev.locI (i := two2 T) (t := u2) rfl rfl rfl (by decide)) (Ev.vi (Ev.mul (Ev.vi Ev.kint) (Ev.locI mr rfl rfl (by decide)) (by mul_fits))) rfl rfl rfl) ?_) rfl rfl rfl ?_
  · rintro vs t ⟨x, y, z, _, _, _, rfl, -⟩
    exact (by decide : 3 ≤ 1000)
  rintro _ _ ⟨Ds, _, _, rfl, rfl, ⟨_, _, _, _, _, _, rfl, ⟨v1, rfl⟩, ⟨v2, rfl⟩, ⟨v3, rfl⟩⟩, hD⟩
  have l2 := l.up (n' := (Ds, listOf (List.toArray [.int (one1 T) v1, .int (two2 T) v2, .int (2 * room) v3]) 0) :: n) fun q hq => .tail _ hq
  refine Bl.asgL (EvL.list (Args.four (Ev.txt l2) (Ev.locS mw rfl rfl (by decide)) (Ev.locS mn rfl rfl (by decide)) (Ev.locS mc rfl rfl (by decide)) rfl rfl rfl rfl) ?_) rfl rfl rfl ?_
  · rintro vs t ⟨_, _, _, _, _, _, _, _, rfl, -⟩
    exact (by decide : 4 ≤ 1000)
  rintro _ _ ⟨Dp, _, _, rfl, rfl, ⟨_, _, _, _, _, _, _, _, rfl, ⟨x1, rfl⟩, ⟨x2, rfl⟩, ⟨x3, rfl⟩, ⟨x4, rfl⟩⟩, hD2⟩
  refine st22 (Dp := Dp) (Ds := Ds) G hT hl hh hf h0 h3 rfl rfl (.head _) (.tail _ (.head _)) ⟨rfl, 0, rfl⟩ ⟨rfl, 0, rfl⟩ (IntsAre.cons _ _ (IntsAre.cons _ _ (IntsAre.cons _ _ IntsAre.nil))) fun m' em => ?_
  refine h m' _ (fun y hy => ?_) (fun q hq => .tail _ (.tail _ hq)) ⟨Ds, _, _, (em _ (by decide) (by decide)).trans rfl, .tail _ (.head _), ⟨rfl, 0, rfl⟩, IntsAre.cons _ _ (IntsAre.cons _ _ (IntsAre.cons _ _ IntsAre.nil))⟩
  simp only [List.mem_cons, List.not_mem_nil, or_false, not_or] at hy
  obtain ⟨y1, y2, y3, y4, y5, y6⟩ := hy
  rw [em y y5 y6]
  simp only [fset, if_neg y1, if_neg y2, if_neg y3, if_neg y4]
end
end Mine
end
section
local macro_rules | `(tactic| omega) => `(tactic| lia)
open PySem PySem.W PyProof PyProof.Rows PySem.Calls
set_option Elab.async false
set_option maxRecDepth 100000
set_option maxHeartbeats 100000000
namespace Mine
theorem Op.use {α : Type} {c : Cx} {m : Fm} {n : Lg} {t : Sem α} {P : α → Nat → Prop} {s : Shared} {Q : α → Shared → Prop} (h : Op c m n t P) (F : Fr c.h₀ c.L s.heap m) (N : News c.h₀ c.L s.heap n)
    (k : ∀ v h tk, P v tk → Fr c.h₀ c.L h m → News c.h₀ c.L h n → Q v { s with heap := h, toks := tk }) : wpAny c.M c.A t Q Nv s := h s Q F N k
theorem repl1 {prog : Program} {w : World} {A : Around} {E : Value → Shared → Prop} {env : Env} {s : Shared} {ob : Expr} {ap p p1 p2 : Pos} {n1 n2 c d : Nat} {y z : Str} {Q : Value → Shared → Prop} (hy : y = ⟨#[c]⟩) (hz : z = ⟨#[d]⟩) (hcd : c ≠ d)
    (ho : wpAny (model prog w) A (eval ob env) (fun v s1 => ∃ x t, v = .str x t ∧ x.length ≤ 1000 ∧ s1.toks ≠ 0 ∧ ∀ R t' tk, tk ≠ 0 → cp R = (cp x).map (rep1 c d) → R.length = x.length → Q (.str R t') { s1 with toks := tk }) E s)
    {pl : Sem Bool} (he : eval (.Call (.Attribute ob (Str.ofString "replace") ap) [.Constant (.str y) n1 p1, .Constant (.str z) n2 p2] [] p) env = (do
      let ov ← eval ob env
      standAt ap.atName
      let (f, first) ← holding [ov] (getMethod ov (Str.ofString "replace") pl)
      callWith p f first (backTo p (starEach [.Constant (.str y) n1 p1, .Constant (.str z) n2 p2] env)) [])) :
    wpAny (model prog w) A (eval (.Call (.Attribute ob (Str.ofString "replace") ap) [.Constant (.str y) n1 p1, .Constant (.str z) n2 p2] [] p) env) Q E s := by
  refine MethodCall_ (wpAny_mono ho (fun v s1 h => ?_) fun _ _ e => e) he
  obtain ⟨x, t, rfl, hx, ht, k⟩ := h
  refine GM.replace ?_
  refine callWith_method1 (args_cons (Constant_str (args_cons (Constant_str (args_nil ?_)) rfl)) rfl) rfl rfl
  refine replaceM hy hz hcd ?_ ?_ ?_ hx fun R t' tk hk hR hl => k R t' tk ?_ hR hl
  · exact ht
  · exact Nat.succ_ne_zero _
  · exact Nat.ne_of_lt (Nat.lt_succ_self _)
  · have : s1.toks + 1 + 1 ≤ tk := hk
    omega
section
variable {w : World} {dp un : Nat} {gd : Option (List Code)} {cn : Str} {L a : Addr} {ccd : Value} {cl : List (Str × Addr)} {h₀ : Heap} {m : Fm} {n : Lg} {T : Str} {fm dx : Addr} {R : Flow → Fm → Lg → Nat → Prop} {ss : List Stmt}
theorem st23 {C : Str} {t1 : Tok} (G : Gd w dp un h₀) (l : Lw T fm dx cl n) (hl : T.length ≤ 6) (hC : T.length + 1 ≤ C.length) (hC2 : C.length ≤ 100) (mc : m (Str.ofString "cell") = some (.str C t1))
    (h : ∀ t u S, cp S = (cp T).map swp → S.length = T.length → Bl (lawCx w dp un gd cn L a ccd cl h₀) (fset (fset m (Str.ofString "beside") (.int (2 * ((C.length : Int) - T.length)) t)) (Str.ofString "swapped") (.str S u)) n ss R) : Bl (lawCx w dp un gd cn L a ccd cl h₀) m n (lawSt 23 :: lawSt 24 :: lawSt 25 :: ss) R := by
  refine Bl.asg (Ev.mul (Ev.vi Ev.kint) (Ev.vi (Ev.sub (Ev.vi (Ev.len (Ev.builtG G (by k_is) (by boot_by_name) (by decide) rfl (by decide)) (Ev.locS mc rfl rfl (by decide)) (by omega) rfl rfl)) (Ev.vi (Ev.len (Ev.builtG G (by k_is) (by boot_by_name) (by decide) rfl (by decide)) (Ev.txt l) (by omega) rfl rfl)))) (by mul_fits)) rfl rfl rfl ?_
  rintro _ _ ⟨⟨u1, rfl⟩, _⟩
  intro s Q F N kk
  refine wpAny_execs_cons ?_
  refine wpAny_If (wpAny_isTrue_Compare1 ?_ rfl)
  refine Op.use (c := lawCx w dp un gd cn L a ccd cl h₀) (m := fset m (Str.ofString "beside") (.int (2 * ((C.length : Int) - T.length)) u1)) (n := n) (Ev.lev (mc := 2 * ((C.length : Int) - T.length) - 1) (y := C) G (Ev.txt l) (Ev.locS mc rfl rfl (by decide)) (Ev.vi (Ev.sub (Ev.locI rfl rfl rfl (by decide)) (Ev.vi Ev.kint))) (by omega) (by omega) (by omega) (by omega) rfl rfl rfl) F N fun v h' tk hv F N => ?_
  obtain ⟨t, u, rfl, hL, hk⟩ := hv
  have eu := lev_beside hL (by omega)
  have htk := hk.resolve_right (by omega)
  subst eu
  refine nameX_L F rfl ?_ rfl rfl (by decide)
  refine PyProof.Rows.ne_int ?_
  have e : (2 * ((C.length : Int) - T.length) - 1 + 1 != 2 * ((C.length : Int) - T.length)) = false := by simp
  rw [e]
  refine wpAny_truthy_bool ?_
  refine wpAny_execs_nil ?_
  refine wpAny_execs_cons ?_
  refine wpAny_Assign_Name ?_ rfl
  refine repl1 (c := 233) (d := 201) (by decide +kernel) (by decide +kernel) (by decide) (repl1 (c := 66) (d := 98) (by decide +kernel) (by decide +kernel) (by decide) (repl1 (c := 97) (d := 65) (by decide +kernel) (by decide +kernel) (by decide) ?_ rfl) rfl) rfl
  obtain ⟨DF, DT, oF, oT, tT, hcf, hct, mf, mt, ef, et, m1, m2⟩ := l
  refine nameX_C N hct mt et ?_ rfl rfl (by decide)
  refine ⟨T, tT, rfl, by omega, htk, fun R1 t2 k2 hk2 e2 l2 => ⟨R1, t2, rfl, by omega, hk2, fun R2 t3 k3 hk3 e3 l3 => ⟨R2, t3, rfl, by omega, hk3, fun R3 t4 k4 hk4 e4 l4 => ?_⟩⟩⟩
  exact storeX_L F N (fun h5 F5 N5 => h u1 t4 R3 (swap3 e4 e3 e2) (by omega) _ Q F5 N5 kk) rfl rfl
theorem st27 {S : Str} {t1 t2 : Tok} (G : Gd w dp un h₀) (l : Lw T fm dx cl n) (hT : ∀ c ∈ cp T, c ∈ menu) (hl : T.length ≤ 6) (hS : cp S = (cp T).map swp) (hSl : S.length = T.length) (ms : m (Str.ofString "swapped") = some (.str S t1)) (ml : m (Str.ofString "letters") = some (.int ((cp T).countP letp : Nat) t2))
    (h : Bl (lawCx w dp un gd cn L a ccd cl h₀) m n ss R) : Bl (lawCx w dp un gd cn L a ccd cl h₀) m n (lawSt 27 :: ss) R := by
  have hc := List.countP_le_length (p := letp) (l := cp T)
  rw [cp_len] at hc
  exact Bl.iff (Te.same (Ev.levV G (Ev.txt l) (Ev.locS ms rfl rfl (by decide)) (Ev.locI ml rfl rfl (by decide)) (by omega) (by omega) (by omega) (by omega) (fun u hu => lev_swap hT hl hS hu rfl) rfl rfl rfl) (Ev.locI ml rfl rfl (by decide)) rfl) (fun hb => nomatch hb) (fun _ => h)
theorem st28 (G : Gd w dp un h₀) (l : Lw T fm dx cl n) (hT : ∀ c ∈ cp T, c ∈ menu) (hl : T.length ≤ 6) (hh : ∃ l, cp T = 233 :: l)
    (h : ∀ v, Bl (lawCx w dp un gd cn L a ccd cl h₀) (fset m (Str.ofString "turned") v) n ss R) : Bl (lawCx w dp un gd cn L a ccd cl h₀) m n (lawSt 28 :: lawSt 29 :: ss) R := by
  obtain ⟨q, eq⟩ := hh
  have hl1 : 1 ≤ T.length := by rw [← cp_len, eq, List.length_cons]; omega
  have hh : ∃ l, cp T = 233 :: l := ⟨q, eq⟩
  have s1 : (Txt.slice T (some 1) none).length ≤ 1000 := by have := from_len (X := T) (k := 1) (by omega) (by omega); omega
  have s2 : (Txt.slice T none (some 1)).length ≤ 1000 := by rw [← cp_len, sl_to (by omega) (by omega), List.length_take, cp_len]; omega
  refine Bl.asg (Ev.cat (Ev.sliceFrom (Ev.txt l) (Ev.vi Ev.kint) (by omega) (fun _ _ => rfl)) (Ev.sliceTo (Ev.txt l) (Ev.vi Ev.kint) (by omega) (fun _ _ => rfl)) (by omega)) rfl rfl rfl ?_
  rintro _ _ ⟨t1, rfl⟩
  have tl := turned_len hl hh
  have tc := turned_cp hh
  generalize Txt.slice T (some 1) none ++ Txt.slice T none (some 1) = U at tl tc ⊢
  refine Bl.iff (Te.same (i := if U == T then 0 else 4) (Ev.levV G (Ev.txt l) (Ev.locS rfl rfl rfl (by decide)) (Ev.vi Ev.kint) (by omega) tl (by decide) (by decide) (fun u hu => lev_turn hT hl hh tc hu) rfl rfl rfl) (Ev.ifexp (Te.eqS (Ev.locS rfl rfl rfl (by decide)) (Ev.txt l) rfl) (fun hb => (Ev.vi Ev.kint).mono fun v tk q => ?_) (fun hb => (Ev.vi Ev.kint).mono fun v tk q => ?_)) rfl) (fun hb => nomatch hb) (fun _ => h _)
  · rw [← hb]; exact q
  · rw [← hb]; exact q
end
end Mine
end
section
local macro_rules | `(tactic| omega) => `(tactic| lia)
open PySem PySem.W PyProof PyProof.Rows PySem.Calls
set_option Elab.async false
set_option maxRecDepth 100000
set_option maxHeartbeats 100000000
namespace Mine
section
variable {c : Cx} {m : Fm} {n : Lg} {R : Flow → Fm → Lg → Nat → Prop} {ss : List Stmt}
/-- the values in the list's order -/
noncomputable def Rows (Py : Nat → Value → Prop) (k : Nat) (ys : List Value) : Prop := ys.length = k ∧ ∀ i y, ys[i]? = some y → Py i y
theorem Rows.snoc {Py : Nat → Value → Prop} {k : Nat} {ys : List Value} {y : Value} (h : Rows Py k ys) (hy : Py k y) : Rows Py (k + 1) (ys ++ [y]) := by
  refine ⟨by rw [List.length_append, h.1]; rfl, fun i z hz => ?_⟩
  by_cases e : i < ys.length
  · rw [List.getElem?_append_left e] at hz
    exact h.2 i z hz
  · rw [List.getElem?_append_right (by omega)] at hz
    have e2 : i = k := by
      have := (List.getElem?_eq_some_iff.mp hz).1
      rw [List.length_singleton] at this
      have := h.1
      omega
    subst e2
    have e3 : i - ys.length = 0 := by rw [h.1]; omega
    rw [e3] at hz
    cases hz
    exact hy
/-- what the comprehension's row is -/
noncomputable def Elm (c : Cx) (m : Fm) (n : Lg) (elt : Expr) (x : Str) (scope : Scope) (cl2 : List (Str × Addr)) (vs : List Value) (Py : Nat → Value → Prop) : Prop :=
  ∀ n', (∀ q ∈ n, q ∈ n') → ∀ C oC m₂ i v, (C, oC) ∈ n' → LCg.NsObj oC m₂ → m₂ x = some v → vs[i]? = some v → Op c m n' (eval elt (compEnvC scope cl2 C c.env)) (fun y _ => Py i y)
theorem comp_rest {elt : Expr} {x : Str} {scope : Scope} {cl2 : List (Str × Addr)} {vs : List Value} {Py : Nat → Value → Prop} {ax : Addr} {kx : Nat} {n1 : Lg} {s : Shared} {Fin : List Value → Lg → Prop} (hm : (ax, ({ cls := .type "list", data := .seq vs.toArray kx } : Obj)) ∈ n1) (hn : ∀ q ∈ n, q ∈ n1) (hE : Elm c m n elt x scope cl2 vs Py)
    (fin : ∀ ys, Rows Py vs.length ys → Fin ys n1) : LCg.CompRest c.prog c.w c.A c.h₀ c.L m c.env elt x scope cl2 s (LCg.SrcAt c.h₀ ax vs.toArray) (fun i v => vs.toArray[i]? = some v) Fin vs.toArray.size 0 [] n1 := by
  have key : ∀ (j i : Nat) (ys : List Value), i + j = vs.length → Rows Py i ys → LCg.CompRest c.prog c.w c.A c.h₀ c.L m c.env elt x scope cl2 s (LCg.SrcAt c.h₀ ax vs.toArray) (fun i v => vs.toArray[i]? = some v) Fin j i ys n1 := by
    intro j
    induction j with
    | zero =>
      intro i ys hi hy
      have e : i = vs.length := hi
      subst e
      exact LCg.CompRest.zero (fin ys hy)
    | succ j ih =>
      intro i ys hi hy
      refine LCg.CompRest.succ fun v I oI C oC D m₂ h tk E' hv hC hx F N off ne => ?_
      refine wpAny_mono (Op.use (hE ((I, oI) :: (C, oC) :: (D, LCg.lst ys) :: n1) (fun q hq => .tail _ (.tail _ (.tail _ (hn q hq)))) C oC m₂ i v (.tail _ (.head _)) hC hx (by simpa using hv)) F N (Q := LCg.CompEnd c.h₀ c.L m { s with heap := h, toks := tk } I oI C oC D (LCg.lst ys) (LCg.SrcAt c.h₀ ax vs.toArray) _) fun y h' tk' hy' F' N' => ?_) (fun _ _ q => q) (fun _ _ e => e.elim)
      exact ⟨h', tk', n1, rfl, F', N', off, .inr ⟨_, hm, rfl, _, rfl⟩, ih (i + 1) _ (by omega) (hy.snoc hy')⟩
  rw [List.size_toArray]
  exact key _ 0 [] (Nat.zero_add _) ⟨rfl, fun i y h => by simp at h⟩
/-- where the comprehension's list comes from -/
noncomputable def Src (vs : List Value) (n : Lg) : Value → Lg → Prop := fun v n1 => ∃ ax k, v = .ref ax ∧ (ax, ({ cls := .type "list", data := .seq vs.toArray k } : Obj)) ∈ n1 ∧ ∀ q ∈ n, q ∈ n1
theorem Bl.asgComp {elt iter : Expr} {x y : Str} {px py pl q : Pos} {scope : Scope} {cl2 : List (Str × Addr)} {k₀ : Nat} {Ps : List Value → Prop} {Py : Nat → Value → Prop} (hs : EvL c m n iter (fun v n1 => ∃ vs, Ps vs ∧ Src vs n v n1)) (hz : ∀ vs, Ps vs → vs.length = k₀) (hk₀ : k₀ ≤ 1000) (hE : ∀ vs, Ps vs → Elm c m n elt x scope cl2 vs Py) (hh : c.A.handled = none)
    (hsw : swapsWith (.ListComp elt [⟨.Name x px, iter, [], 0⟩] scope pl) (some (.Name y py)) q.line c.env = pure true)
    (hclos : closureFor scope c.env = pure cl2) (hcell : ∀ z ∈ scope.names, z.2 ≠ .cell) (hkind : scope.kind = .function) (hnames : ∀ z ∈ scope.names, z.2 = .local → scope.names.lookup z.1 = some .local) (hx : scope.names.lookup x = some .local)
    (hy : c.env.kindOf y = some .local) (hp : (c.env.scope.kind == .class || (c.env.scope.kind == .module && c.env.locals != c.env.globals)) = false) (hf : ∀ v, foldedSetIterable iter c.env v = pure v)
    (h : ∀ D ys, Rows Py k₀ ys → Bl c (fset m y (.ref D)) ((D, LCg.lst ys) :: n) ss R) : Bl c m n (.Assign [.Name y py] (.ListComp elt [⟨.Name x px, iter, [], 0⟩] scope pl) q :: ss) R :=
  Bl.cons fun s Q F N k => by
    refine LCg.Assign_ListComp_U F rfl hsw hclos hcell hkind hnames hx hy hp ?_ hf
    refine hs _ _ F N fun v n1 g tk hv F N => ?_
    obtain ⟨vs, hP, ax, kx, rfl, hm, hn⟩ := hv
    have hl := hz vs hP
    refine LCg.CompSrc.ledger hh F N hm (by rw [List.size_toArray, PySem.sizeLine_eq]; omega) fun g' => comp_rest hm hn (hE vs hP) fun ys hys => ?_
    rw [hl] at hys
    intro D h' tk' F' N' o1
    refine k .next (fset m y (.ref D)) ((D, LCg.lst ys) :: n) h' tk' (h D ys hys) F' (news_sub N' fun q hq => ?_)
    rcases List.mem_cons.mp hq with e | hq
    · exact e ▸ .head _
    · exact .tail _ (hn q hq)
theorem EvL.comp {elt iter : Expr} {x : Str} {px pl : Pos} {scope : Scope} {cl2 : List (Str × Addr)} {k₀ : Nat} {Ps : List Value → Prop} {Py : Nat → Value → Prop} (hs : EvL c m n iter (fun v n1 => ∃ vs, Ps vs ∧ Src vs n v n1)) (hz : ∀ vs, Ps vs → vs.length = k₀) (hk₀ : k₀ ≤ 1000) (hE : ∀ vs, Ps vs → Elm c m n elt x scope cl2 vs Py) (hh : c.A.handled = none)
    (hclos : closureFor scope c.env = pure cl2) (hcell : ∀ z ∈ scope.names, z.2 ≠ .cell) (hkind : scope.kind = .function) (hnames : ∀ z ∈ scope.names, z.2 = .local → scope.names.lookup z.1 = some .local) (hx : scope.names.lookup x = some .local)
    (hf : ∀ v, foldedSetIterable iter c.env v = pure v) : EvL c m n (.ListComp elt [⟨.Name x px, iter, [], 0⟩] scope pl) (fun v n' => ∃ D ys, v = .ref D ∧ n' = (D, LCg.lst ys) :: n ∧ Rows Py k₀ ys) :=
  fun s Q F N k => by
    refine LCg.ListComp_U F hclos hcell hkind hnames hx ?_ hf
    refine hs _ _ F N fun v n1 g tk hv F N => ?_
    obtain ⟨vs, hP, ax, kx, rfl, hm, hn⟩ := hv
    have hl := hz vs hP
    refine LCg.CompSrc.ledger hh F N hm (by rw [List.size_toArray, PySem.sizeLine_eq]; omega) fun g' => comp_rest hm hn (hE vs hP) fun ys hys => ?_
    rw [hl] at hys
    intro D h' tk' F' N' o1
    refine k (.ref D) ((D, LCg.lst ys) :: n) h' tk' ⟨D, ys, rfl, rfl, hys⟩ F' (news_sub N' fun q hq => ?_)
    rcases List.mem_cons.mp hq with e | hq
    · exact e ▸ .head _
    · exact .tail _ (hn q hq)
end
end Mine
end
section
local macro_rules | `(tactic| omega) => `(tactic| lia)
open PySem PySem.W PyProof PyProof.Rows PySem.Calls
set_option Elab.async false
set_option maxRecDepth 100000
set_option maxHeartbeats 100000000
namespace Mine
section
variable {w : World} {dp un : Nat} {gd : Option (List Code)} {cn : Str} {L a : Addr} {ccd : Value} {DF DT : Addr} {h₀ : Heap} {m : Fm} {n : Lg} {T : Str} {fm dx : Addr} {R : Flow → Fm → Lg → Nat → Prop} {ss : List Stmt}
/-- a list display of two, as a comprehension's list -/
theorem EvL.src2 {c : Cx} {m : Fm} {n : Lg} {e1 e2 : Expr} {p : Pos} {i j : Int} (h1 : Ev c m n e1 (Vi i)) (h2 : Ev c m n e2 (Vi j)) (hx1 : starEach [e1, e2] c.env = (false, eval e1 c.env) :: starEach [e2] c.env) (hx2 : starEach [e2] c.env = (false, eval e2 c.env) :: starEach [] c.env) :
    EvL c m n (.List [e1, e2] p) (fun v n1 => ∃ vs, (∃ t u, vs = [.int i t, .int j u]) ∧ Src vs n v n1) :=
  fun s Q F N k => EvL.list (Args.two h1 h2 hx1 hx2) (fun vs t hv => by obtain ⟨_, _, _, _, rfl, -⟩ := hv; exact (by decide : 2 ≤ 1000)) s Q F N fun v n' g tk hv F N => by
    obtain ⟨D, vs, t0, rfl, rfl, ⟨x, y, t, u, rfl, ⟨t3, rfl⟩, ⟨t4, rfl⟩⟩, -⟩ := hv
    exact k _ _ g tk ⟨_, ⟨t3, t4, rfl⟩, D, 0, rfl, .head _, fun q hq => .tail _ hq⟩ F N
theorem rows_two {P : Nat → Value → Prop} {ys : List Value} (h : Rows P 2 ys) : ∃ x y, ys = [x, y] ∧ P 0 x ∧ P 1 y := by
  obtain ⟨hl, hp⟩ := h
  cases ys with
  | nil => cases hl
  | cons x r =>
    cases r with
    | nil => cases hl
    | cons y r =>
      cases r with
      | nil => exact ⟨x, y, rfl, hp 0 x rfl, hp 1 y rfl⟩
      | cons z r => cases hl
theorem st30 (G : Gd w dp un h₀) (l : Lw T fm dx [(Str.ofString "formatter", DF), (Str.ofString "text", DT)] n)
    (h : ∀ D t u, Bl (lawCx w dp un gd cn L a ccd [(Str.ofString "formatter", DF), (Str.ofString "text", DT)] h₀) (fset m (Str.ofString "bars") (.ref D)) ((D, LCg.lst [.str (barS 40) t, .str (barS 41) u]) :: n) ss R) : Bl (lawCx w dp un gd cn L a ccd [(Str.ofString "formatter", DF), (Str.ofString "text", DT)] h₀) m n (lawSt 30 :: ss) R := by
  have l2 := l
  obtain ⟨DF', DT', oF, oT, tT, hcf, hct, mf, mt, ef, et, g1, g2⟩ := l2
  cases hcf
  cases hct
  refine Bl.asgComp (k₀ := 2) (Py := fun i y => ∃ t, y = .str (barS (40 + i)) t) (EvL.src2 (Ev.vi Ev.kint) (Ev.vi Ev.kint) rfl rfl) ?_ (by decide) ?_ rfl rfl rfl (by decide) rfl (by decide) rfl rfl rfl (fun _ => rfl) ?_
  · rintro _ ⟨t, u, rfl⟩
    rfl
  · rintro _ ⟨t, u, rfl⟩ n' hn C oC m₂ i v hC hN hx hv s Q F N k
    have hi : ∃ k : Int, ∃ t, v = .int k t ∧ k = ((40 + i : Nat) : Int) ∧ i < 2 := by
      match i, hv with
      | 0, hv => exact ⟨40, t, (Option.some.inj hv).symm, rfl, by decide⟩
      | 1, hv => exact ⟨41, u, (Option.some.inj hv).symm, rfl, by decide⟩
    obtain ⟨kk, tk, rfl, rfl, hi2⟩ := hi
    obtain ⟨p, loose, mean, mg, mb, A₀, base, B, XB, TB, X, T, hdp, hun⟩ := G
    refine MethodCall_ ?_ rfl
    refine lcf_cell N rfl (hn _ mf) ef ?_ rfl rfl (by decide)
    refine method_inst F X (InstAt.of_news N (hn _ g1) (hn _ g2)) (by k_is) (by k_is) (by k_is) (by k_get) ?_
    refine callWith_K X (by k_is) (args_cons (Constant_str (args_cons ?_ rfl)) rfl) rfl rfl
    refine wpAny_BinOp (Constant_str ?_)
    refine Call_ (LCgL.ld_built F X T (by k_is) (by boot_by_name) (by decide) ?_ rfl rfl rfl rfl (by decide)) rfl
    refine PyProof.Rows.callWith_type1 (args_cons (LCgL.ld_own N hC hN hx ?_ rfl rfl (by decide)) rfl) rfl
    refine args_nil ?_
    refine P.str_of_int (shown (N := 1000) (by omega) (by omega) (by decide +kernel)) ?_
    have e2 : cp (Str.ofString (toString ((40 + i : Nat) : Int))) = wtxt (40 + i) := tot_cp _ (by omega)
    have e3 : (Str.ofString (toString ((40 + i : Nat) : Int))).length ≤ 2 := by
      rw [← cp_len, e2]
      unfold wtxt
      split <;> simp
    refine KOpn.add (by have : (Str.ofString "*<").length = 2 := by decide +kernel
                        have e4 := e3
                        show (Str.ofString "*<").length + (Str.ofString (toString ((40 + i : Nat) : Int))).length ≤ 16777216
                        omega) fun _ _ _ => ?_
    refine args_nil ⟨X.keeps F.keep, ?_⟩
    refine (fmt_claim (S := barS (40 + i)) w fm _ _ fun A E s Q k => call_bar (40 + i) rfl ?_ (by omega) (by omega) fun t' k' _ => k t' k').use B F X N T rfl (by omega) (by omega) fun r h tk hp F N => k r h tk hp F N
    rw [cp_app]
    have e5 : cp (Str.ofString "*<") = [42, 60] := by decide +kernel
    rw [e5]
    exact congrArg (fun z => [42, 60] ++ z) e2
  · intro D ys hys
    obtain ⟨x, y, rfl, ⟨t, rfl⟩, ⟨u, rfl⟩⟩ := rows_two hys
    exact h D t u
/-- [..] != [a, b], the left one made by a comprehension -/
theorem Te.ne2L {c : Cx} {m : Fm} {n : Lg} {l : Expr} {l2 : List Expr} {p2 p : Pos} {d1 d2 : PyData} (h1 : EvL c m n l (fun v n' => ∃ D a b k, v = .ref D ∧ n' = (D, ({ cls := .type "list", data := .seq #[a, b] k } : Obj)) :: n ∧ Sc a d1 ∧ Sc b d2)) (h2 : ∀ n', (∀ q ∈ n, q ∈ n') → Args c m n' p2 l2 (fun vs _ => ∃ a b, vs = [a, b] ∧ Sc a d1 ∧ Sc b d2))
    (k1 : d1.canLay0 = true) (k2 : d2.canLay0 = true) (hu : c.A.units + 64 < cLine) (hm : behindInMarks .NotEq (.List l2 p2) = false) : Te c m n (.Compare l [.NotEq] [.List l2 p2] p) (fun b => b = false) := by
  intro s Q F N kk
  refine wpAny_isTrue_Compare1 (h1 s _ F N fun v n1 h tk hv F N => ?_) hm
  obtain ⟨D, a, b, kx, rfl, rfl, sa, sb⟩ := hv
  refine List_ (h2 _ (fun q hq => List.mem_cons_of_mem _ hq) _ _ F N fun ws g tk2 hw F2 N2 => newList_K F2 N2 (fun D2 g' F3 N3 hl2 => ?_) (hsz := ?_))
  · obtain ⟨a', b', rfl, sa', sb'⟩ := hw
    refine ne_dataH (Reads.list (N3 _ (.tail _ (.head _))).1 rfl rfl (ReadsAll.cons sa.reads (ReadsAll.cons sb.reads ReadsAll.nil))) (reads_two (N3 _ (.head _)).1 sa' sb') (shp2 k1 k2 sa.flat.1 sb.flat.1) (shp2 k1 k2 sa.flat.1 sb.flat.1) hu ?_
    have e : PyData.eqv (.list [d1, d2]) (.list [d1, d2]) = true := by
      simp only [PyData.eqv, PyData.eqvAll, sa.flat.2, sb.flat.2, Bool.and_true]
    rw [e]
    exact fun _ _ _ => kk false g' tk2 rfl F3 (news_sub N3 fun q hq => .tail _ (.tail _ hq))
  · obtain ⟨a', b', rfl, sa', sb'⟩ := hw
    show 2 ≤ sizeLine
    rw [PySem.sizeLine_eq]; omega
theorem st31 {D : Addr} {t u : Tok} (G : Gd w dp un h₀) (l : Lw T fm dx [(Str.ofString "formatter", DF), (Str.ofString "text", DT)] n) (hT : ∀ c ∈ cp T, c ∈ menu) (hl6 : T.length ≤ 6) (hl1 : 1 ≤ T.length) (mb : m (Str.ofString "bars") = some (.ref D)) (nb : (D, LCg.lst [.str (barS 40) t, .str (barS 41) u]) ∈ n)
    (h : Bl (lawCx w dp un gd cn L a ccd [(Str.ofString "formatter", DF), (Str.ofString "text", DT)] h₀) m n ss R) : Bl (lawCx w dp un gd cn L a ccd [(Str.ofString "formatter", DF), (Str.ofString "text", DT)] h₀) m n (lawSt 31 :: ss) R := by
  have l2 := l
  obtain ⟨DF', DT', oF, oT, tT, hcf, hct, mf, mt, ef, et, g1, g2⟩ := l2
  cases hcf
  cases hct
  refine Bl.iff (Te.ne2L (d1 := .int 80) (d2 := .int 91) ?_ (fun n' hn => Args.sc2 (Args.two (Ev.vi Ev.kint) (Ev.vi Ev.kint) rfl rfl) (fun _ _ => sc_i) (fun _ _ => sc_i)) rfl rfl G.room rfl) (fun hb => nomatch hb) (fun _ => h)
  refine fun s Q F N k => EvL.comp (k₀ := 2) (Ps := fun vs => vs = [.str (barS 40) t, .str (barS 41) u]) (Py := fun i y => ∃ t, y = .int (if i = 0 then 80 else 91) t) (fun s Q F N k => Ev.loc mb rfl rfl (by decide) s Q F N fun v g tk e F N => k v n g tk ⟨_, rfl, D, _, e, nb, fun q hq => hq⟩ F N) (fun vs e => by rw [e]; rfl) (by decide) ?_ rfl rfl (by decide) rfl (by decide) rfl (fun _ => rfl) s Q F N ?_
  · rintro _ rfl n' hn C oC m₂ i v hC hN hx hv s Q F N k
    have hi : ∃ tb, v = .str (barS (40 + i)) tb ∧ i < 2 := by
      match i, hv with
      | 0, hv => exact ⟨t, (Option.some.inj hv).symm, by decide⟩
      | 1, hv => exact ⟨u, (Option.some.inj hv).symm, by decide⟩
    obtain ⟨tb, rfl, hi2⟩ := hi
    obtain ⟨p, loose, mean, mg, mb, A₀, base, B, XB, TB, X, T2, hdp, hun⟩ := G
    refine Call_ (LCgL.ld_global F X T2 (by k_is) ?_ rfl rfl rfl (by decide)) rfl
    refine callWith_K (f := .ref 120) (first := []) X (by k_is) ?_ rfl rfl
    refine args_cons ?_ rfl
    refine Subscript_ (lcf_cell N rfl (hn _ mt) et ?_ rfl rfl (by decide))
    refine wpAny_Slice (evalPart_some_step ?_)
    refine UnaryOp_ (wpAny_Constant_int (neg_int ?_))
    refine evalPart_none_step (evalPart_none_step ?_)
    refine slice_strN_sn F N (fun h' t' tk F N => ?_) (hsz := by rw [PySem.sizeLine_eq]; omega)
    refine args_cons (LCgL.ld_own N hC hN hx ?_ rfl rfl (by decide)) rfl
    refine args_cons (wpAny_Constant_int ?_) rfl
    refine args_nil ⟨X.keeps F.keep, ?_⟩
    refine (lev_claim2 w (Txt.slice T (some (-1)) none) (barS (40 + i)) 90 (last_len hT hl1) (by rw [barS_len]; omega) (by decide) (by decide) _ _ _).use B F X N T2 rfl (by omega) (by omega) fun r h tk hp F N => ?_
    obtain ⟨tr, v, rfl, hL, _⟩ := hp
    refine k _ h tk ⟨tr, ?_⟩ F N
    obtain ⟨c9, hc9, hx9⟩ := last_cp hT hl1
    match i, hi2 with
    | 0, _ => exact congrArg (fun z => Value.int z tr) (lev_bar40 hx9 hc9 hL)
    | 1, _ => exact congrArg (fun z => Value.int z tr) (lev_bar41 hx9 hc9 hL)
  · rintro v n' g tk ⟨E, ys, rfl, rfl, hys⟩ F N
    obtain ⟨x, y, rfl, ⟨t1, rfl⟩, ⟨t2, rfl⟩⟩ := rows_two hys
    exact k _ _ g tk ⟨E, _, _, _, rfl, rfl, sc_i ⟨t1, rfl⟩, sc_i ⟨t2, rfl⟩⟩ F N
theorem st32 {cl : List (Str × Addr)} {fl sa : Nat} {room : Int} {t : Tok} (G : Gd w dp un h₀) (l : Lw T fm dx cl n) (hT : ∀ c ∈ cp T, c ∈ menu) (hl : T.length ≤ 6) (hh : ∃ l, cp T = 233 :: l) (hf : fl ∈ [42, 120, 48, 32]) (h0 : 0 ≤ room) (h3 : room ≤ 3)
    (mc : m (Str.ofString "cell") = some (.str (cellS (WR T true) fl sa room) t)) (hs : Stp T room m n) (h : ∀ tk, R (.ret (.bool true)) m n tk) : Bl (lawCx w dp un gd cn L a ccd cl h₀) m n (lawSt 32 :: ss) R := by
  obtain ⟨D, o, us, ms, no, io, hI⟩ := hs
  have hq := sum_all hT hl h0 h3 hh
  obtain ⟨f1, f2, f3, f4, f5, f6, f7, f8⟩ := facts hT hl hh
  have e : [one1 T, two2 T, 2 * room].sum = one1 T + (two2 T + (2 * room + 0)) := rfl
  have hn : 0 < one1 T + (two2 T + (2 * room + 0)) := by unfold one1 two2; omega
  refine Bl.ret (Ev.cmpI (i := [one1 T, two2 T, 2 * room].sum) (j := [one1 T, two2 T, 2 * room].sum) (Ev.levV G (Ev.locS mc rfl rfl (by decide)) (Ev.txt l) (Ev.vi (Ev.sub (Ev.sum (Ev.builtG G (by k_is) (by boot_by_name) (by decide) rfl (by decide)) (Ev.loc ms rfl rfl (by decide)) no io hI rfl rfl rfl) (Ev.vi Ev.kint))) (pnt_len (fl := fl) (sa := sa) hl h0 h3 3) (by omega) (by rw [e]; omega) (by rw [e]; omega) (fun u hu => lev30 (a := sa) hT hl hf h0 h3 hh hu _ ?_ (by omega)) rfl rfl rfl) (Ev.sum (Ev.builtG G (by k_is) (by boot_by_name) (by decide) rfl (by decide)) (Ev.loc ms rfl rfl (by decide)) no io hI rfl rfl rfl) (.inl rfl) rfl) ?_
  · rw [e]
    unfold one1 two2
    omega
  · rintro v tk hv
    have hv : v = .bool (Lt .Eq _ _) := hv
    rw [hv]
    simp only [Lt, beq_self_eq_true]
    exact h tk
end
end Mine
end
section
local macro_rules | `(tactic| omega) => `(tactic| lia)
open PySem PySem.W PyProof PyProof.Rows PySem.Calls
set_option Elab.async false
set_option maxRecDepth 100000
set_option maxHeartbeats 100000000
set_option rowWalk.seconds 0
namespace Mine
section
variable {w : World} {dp un : Nat} {gd : Option (List Code)} {cn : Str} {L a : Addr} {ccd : Value} {cl : List (Str × Addr)} {h₀ : Heap} {m : Fm} {n : Lg} {T : Str} {fm dx : Addr} {R : Flow → Fm → Lg → Nat → Prop} {ss : List Stmt}
theorem EvL.made {p1 p : Pos} (G : Gd w dp un h₀) : EvL (lawCx w dp un gd cn L a ccd cl h₀) m n (.Call (.Name (Str.ofString "Formatter") p1) [] [] p) (fun v n' => ∃ fm dx, v = .ref fm ∧ n' = (fm, instObj 102 dx) :: (dx, dictOf [] 0) :: n ∧ ∀ q ∈ n, q.1 < dx ∧ dx < fm) := by
  k_with_none
  intro s Q F N k
  obtain ⟨p, loose, mean, mg, mb, A₀, base, B, XB, TB, X, T2, hdp, hun⟩ := G
  dsimp only [lawCx, Cx.M, Cx.A, Cx.env] at *
  k_steps
  exact k _ _ _ _ ⟨_, _, rfl, rfl, fun q hq => ⟨(by assumption : ∀ p ∈ n, p.1 < _) q hq, by assumption⟩⟩ (by assumption) (by assumption)
theorem Bl.asgCL {c : Cx} {m : Fm} {n : Lg} {x : Str} {e : Expr} {p q : Pos} {P : Value → Lg → Prop} {D : Addr} (he : EvL c m n e P) (hc : c.cl.lookup x = some D) (hk : c.cs.kind = .function) (hl : c.env.kindOf x = some .cell) (hs : swapsWith e (some (.Name x p)) q.line c.env = pure false)
    (h : ∀ v n', P v n' → ∃ (o : Obj) (g : Obj → Lg) (v₀ : Option Value), UpdF D o n' g ∧ o.data = .cell v₀ ∧ ∀ o', o'.data = .cell (some v) → Bl c m (g o') ss R) : Bl c m n (.Assign [.Name x p] e q :: ss) R :=
  Bl.cons fun s Q F N k => wpAny_Assign_Name (he s _ F N fun v n' hh tk hv F N => by
    obtain ⟨o, g, v₀, U, hd, hB⟩ := h v n' hv
    exact storeX_C F N hc U hd (fun h' o' F' N' hd' => k .next m (g o') h' _ (hB o' hd') F' N') hk hl) hs
theorem st6 {DF DT : Addr} {oF oT : Obj} {tT : Tok} (G : Gd w dp un h₀) (eF : oF.data = .cell none) (eT : oT.data = .cell (some (.str T tT))) (hne : DT ≠ DF)
    (h : ∀ fm dx n', Lw T fm dx [(Str.ofString "formatter", DF), (Str.ofString "text", DT)] n' → Bl (lawCx w dp un gd cn L a ccd [(Str.ofString "formatter", DF), (Str.ofString "text", DT)] h₀) m n' ss R) :
    Bl (lawCx w dp un gd cn L a ccd [(Str.ofString "formatter", DF), (Str.ofString "text", DT)] h₀) m [(DF, oF), (DT, oT)] (lawSt 6 :: ss) R := by
  refine Bl.asgCL (EvL.made G) rfl rfl rfl rfl ?_
  rintro v n' ⟨fm, dx, rfl, rfl, hlt⟩
  obtain ⟨q1, q2⟩ := hlt (DF, oF) (.head _)
  refine ⟨oF, _, Option.none, UpdF.tail (Nat.ne_of_gt (Nat.lt_trans q1 q2)) (UpdF.tail (Nat.ne_of_gt q1) (UpdF.head (fun p hp => ?_))), eF, fun o' ho' => h fm dx _ ⟨DF, DT, o', oT, tT, rfl, rfl, ?_, ?_, ho', eT, ?_, ?_⟩⟩
  · rw [List.mem_singleton.mp hp]; exact hne
  · exact .tail _ (.tail _ (.head _))
  · exact .tail _ (.tail _ (.tail _ (.head _)))
  · exact .head _
  · exact .tail _ (.head _)
end
end Mine
end
section
local macro_rules | `(tactic| omega) => `(tactic| lia)
open PySem PySem.W PyProof PyProof.Rows PySem.Calls
set_option Elab.async false
set_option maxRecDepth 100000
set_option maxHeartbeats 100000000
namespace Mine
section
variable {w : World} {dp un : Nat} {gd : Option (List Code)} {cn : Str} {L a : Addr} {ccd : Value} {h₀ : Heap} {m : Fm} {T W : Str} {DF DT : Addr} {oF oT : Obj} {tT tW tt : Tok} {tot : Int}
theorem law_rest (G : Gd w dp un h₀) (eF : oF.data = .cell none) (eT : oT.data = .cell (some (.str T tT))) (hne : DT ≠ DF) (mW : m (Str.ofString "whole") = some (.str W tW)) (mt : m (Str.ofString "total") = some (.int tot tt)) (h0 : 0 ≤ tot) (h1 : tot < 48)
    (hWm : ∀ c ∈ cp W, c ∈ menu) (hWh : ∃ l, cp W = 233 :: l) (hW64 : W.length ≤ 64) (hTm : ∀ c ∈ cp T, c ∈ menu) (hTh : ∃ l, cp T = 233 :: l) (hl6 : T.length ≤ 6) (hl1 : 1 ≤ T.length) :
    Bl (lawCx w dp un gd cn L a ccd [(Str.ofString "formatter", DF), (Str.ofString "text", DT)] h₀) m [(DF, oF), (DT, oT)] (lawBody.drop 3) (fun f _ _ _ => f = .ret (.bool true)) := by
  refine seg1 mt h0 h1 fun room fl sa t1 t2 t3 r0 r3 hf ha => ?_
  refine st6 G eF eT hne fun fm dx n1 l => ?_
  refine st7 G l mW hWm hW64 ?_
  refine st8 G l mt hTm ?_
  refine st9 G l mt h0 h1 hTm hl6 ?_
  refine st10 G l mW hWh hW64 hl6 fun m1 em => ?_
  refine st11 G l hTm hl6 fun t4 t5 => ?_
  have mr : m1 (Str.ofString "room") = some (.int room t1) := (em _ (by decide)).trans rfl
  have ms : m1 (Str.ofString "side") = some (.str ⟨#[sa]⟩ t2) := (em _ (by decide)).trans rfl
  have mf : m1 (Str.ofString "filler") = some (.str ⟨#[fl]⟩ t3) := (em _ (by decide)).trans rfl
  refine st14 G l hTm hl6 hTh hf ha r0 r3 mr ms mf rfl fun t6 => ?_
  refine st16 G l hTm hl6 fun t7 t8 => ?_
  refine st18 (fl := fl) (sa := sa) G l hTm hl6 hTh hf r0 r3 mr rfl rfl rfl rfl rfl fun m2 n2 em2 hn2 hs => ?_
  have l2 := l.up hn2
  have mc : m2 (Str.ofString "cell") = some (.str (cellS (WR T true) fl sa room) t6) := (em2 _ (by decide)).trans rfl
  obtain ⟨f1, f2, f3, f4, f5, f6, f7, f8⟩ := facts hTm hl6 hTh
  have hc := cellS_len (x := WR T true) (f := fl) (a := sa) r0
  refine st23 G l2 hl6 (by omega) (by omega) mc fun t9 t10 S hS hSl => ?_
  refine st26 G l2 hTm hl6 fun t11 => ?_
  refine st27 G l2 hTm hl6 hS hSl rfl rfl ?_
  refine st28 G l2 hTm hl6 hTh fun v => ?_
  refine st30 G l2 fun D t u => ?_
  have l3 := l2.up (n' := (D, LCg.lst [.str (barS 40) t, .str (barS 41) u]) :: n2) fun q hq => .tail _ hq
  refine st31 G l3 hTm hl6 hl1 rfl (.head _) ?_
  obtain ⟨Ds, o, us, q1, q2, q3, q4⟩ := hs
  exact st32 (fl := fl) (sa := sa) G l3 hTm hl6 hTh hf r0 r3 mc ⟨Ds, o, us, q1, .tail _ q2, q3, q4⟩ fun _ => rfl
end
end Mine
end
section
local macro_rules | `(tactic| omega) => `(tactic| lia)
open PySem PySem.W PyProof PyProof.Rows PySem.Calls
set_option Elab.async false
set_option maxRecDepth 100000
set_option maxHeartbeats 100000000
namespace Mine
section
variable {w : World} {dp un : Nat} {gd : Option (List Code)} {cn : Str} {L a ax : Addr} {ccd : Value} {cl : List (Str × Addr)} {h₀ : Heap} {m : Fm} {n : Lg} {R : Flow → Fm → Lg → Nat → Prop} {ss : List Stmt} {vs : List Value} {ns : List Int}
theorem st0 (ms : m (Str.ofString "script") = some (.ref ax)) (hl : h₀.IsList ax vs.toArray) (hI : IntsAre vs ns) (h63 : ns.length ≤ 63)
    (h : ∀ W t, (∀ c ∈ cp W, c ∈ menu) → (∃ l, cp W = 233 :: l) → W.length ≤ 64 → Bl (lawCx w dp un gd cn L a ccd cl h₀) (fset m (Str.ofString "whole") (.str W t)) n ss R) : Bl (lawCx w dp un gd cn L a ccd cl h₀) m n (lawSt 0 :: ss) R := by
  have wo := whole_ok ns _ rfl
  have hj : (Txt.join (Str.ofString "") (ns.map fun a => Txt.item (Str.ofString "aB'\"\\\n\t\r\x00\x7fé\xa0€\u2028 7") (a.fmod 16))).length ≤ 64 := by
    have := wo.2.2
    rw [Str.length_append] at this
    omega
  have lit : (Str.ofString "aB'\"\\\n\t\r\x00\x7fé\xa0€\u2028 7").length = 16 := by decide +kernel
  have le1 : (Str.ofString "é").length = 1 := by decide +kernel
  have hn := hI.length
  refine Bl.asg (Ev.cat (x := Str.ofString "é") (y := Txt.join (Str.ofString "") (ns.map fun a => Txt.item (Str.ofString "aB'\"\\\n\t\r\x00\x7fé\xa0€\u2028 7") (a.fmod 16))) Ev.kstr ?_ (by rw [le1]; omega)) rfl rfl rfl ?_
  · intro s Q F N k
    refine MethodCall_ (Constant_str (GM.join (callWith_method1 (args_cons ?_ rfl) rfl rfl))) rfl
    refine LCg.ListComp_U F rfl (by decide) rfl (by decide) rfl ?_ (fun _ => rfl)
    refine nameX_L F ms ?_ rfl rfl (by decide)
    refine LCg.CompSrc.base rfl F N hl (by rw [List.size_toArray, hn, PySem.sizeLine_eq]; omega) fun g' => ?_
    refine kct_list (fun k => Txt.item (Str.ofString "aB'\"\\\n\t\r\x00\x7fé\xa0€\u2028 7") (k.fmod 16)) hI (fun k' t' I oI C oC D m2 ys h' tk' E' hk hC hx F N off ne mk => ?_) ?_
    · refine Subscript_ (Constant_str (wpAny_BinOp (LCgL.ld_own N (.tail _ (.head _)) hC hx (wpAny_Constant_int (PyProof.Rows.mod_int' (by decide) ?_)) rfl rfl (by decide))))
      have b0 : 0 ≤ k'.fmod 16 := Int.fmod_nonneg_of_pos k' (by decide)
      have b1 : k'.fmod 16 < 16 := Int.fmod_lt_of_pos k' (by decide)
      refine item_str (fitsSsize_of (N := 9223372036854775808) (by omega) (by omega) (Int.le_refl _)) (by rw [lit]; omega) (by rw [lit]; exact b1) (fun _ => ?_) rfl (fun _ => rfl)
      exact ⟨_, _, _, rfl, F, N, off, .inl hl, rfl, _, rfl⟩
    · intro ys hys _
      refine fin_intro fun D h' tk' F N o1 => args_nil ?_
      refine KT.join_1 (News.isList N (.head _)) hys (fun z hz => rfl) (by omega) fun t' k' _ => k _ h' k' ⟨t', rfl⟩ F (news_sub N fun q hq => .tail _ hq)
  · rintro _ _ ⟨t, rfl⟩
    exact h _ t wo.1 wo.2.1 (by have := wo.2.2; omega)
theorem st2 (G : Gd w dp un h₀) (ms : m (Str.ofString "script") = some (.ref ax)) (hl : h₀.IsList ax vs.toArray) (hI : IntsAre vs ns) (h63 : ns.length ≤ 63)
    (h : ∀ tot t, 0 ≤ tot → tot < 48 → Bl (lawCx w dp un gd cn L a ccd cl h₀) (fset m (Str.ofString "total") (.int tot t)) n ss R) : Bl (lawCx w dp un gd cn L a ccd cl h₀) m n (lawSt 2 :: ss) R := by
  have hn := hI.length
  refine Bl.asg (Ev.fmod (i := (ns.map fun k => k.fmod 48).sum) ?_ (Ev.vi Ev.kint) (by decide)) rfl rfl rfl ?_
  · intro s Q F N k
    refine Call_ (Ev.builtG G (by k_is) (by boot_by_name) (by decide) rfl (by decide) s _ F N fun f h tk hf F N => ?_) rfl
    subst hf
    refine PyProof.Rows.callWith_builtin1 (args_cons ?_ rfl) rfl rfl
    refine LCg.ListComp_U F rfl (by decide) rfl (by decide) rfl ?_ (fun _ => rfl)
    refine nameX_L F ms ?_ rfl rfl (by decide)
    refine LCg.CompSrc.base rfl F N hl (by rw [List.size_toArray, hn, PySem.sizeLine_eq]; omega) fun g' => ?_
    refine kcf_list (fun k => k.fmod 48) hI (fun k' t' I oI C oC D m2 ys h' tk' E' hk hC hx F N off ne mk => ?_) ?_
    · refine wpAny_BinOp (LCgL.ld_own N (.tail _ (.head _)) hC hx (wpAny_Constant_int (PyProof.Rows.mod_int' (by decide) ?_)) rfl rfl (by decide))
      exact ⟨_, _, _, rfl, F, N, off, .inl hl, rfl, _, rfl⟩
    · intro ys hys
      refine fin_intro fun D h' tk' F N o1 => args_nil ?_
      exact LSm.sum_ints F N rfl (News.isList N (.head _)) hys fun h2 tk2 t2 F2 N2 => k _ h2 tk2 ⟨t2, rfl⟩ F2 (news_sub N2 fun q hq => .tail _ hq)
  · rintro _ _ ⟨t, rfl⟩
    exact h _ t (Int.fmod_nonneg_of_pos _ (by decide)) (Int.fmod_lt_of_pos _ (by decide))
end
section
variable {w : World} {dp un : Nat} {gd : Option (List Code)} {cn : Str} {L a ax : Addr} {ccd : Value} {h₀ : Heap} {m : Fm} {DF DT : Addr} {oF oT : Obj} {vs : List Value} {ns : List Int}
/-- the law's body, from its head to its end -/
theorem law_all (G : Gd w dp un h₀) (eF : oF.data = .cell none) (eT : oT.data = .cell none) (h1 : DF ≠ DT) (h2 : DT ≠ DF) (ms : m (Str.ofString "script") = some (.ref ax)) (hl : h₀.IsList ax vs.toArray) (hI : IntsAre vs ns) (h63 : ns.length ≤ 63) :
    Bl (lawCx w dp un gd cn L a ccd [(Str.ofString "formatter", DF), (Str.ofString "text", DT)] h₀) m [(DF, oF), (DT, oT)] lawBody (fun f _ _ _ => f = .ret (.bool true)) := by
  refine st0 (n := [(DF, oF), (DT, oT)]) (ss := lawBody.drop 1) ms hl hI h63 fun W tW hWm hWh hW64 => ?_
  refine Bl.asgC (ss := lawBody.drop 2) (Ev.sliceTo (Ev.locS (x := Str.ofString "whole") rfl rfl rfl (by decide)) (Ev.vi Ev.kint) (by omega) (fun _ _ => rfl)) rfl (UpdF.tail h1 (UpdF.head (o := oT) (r := []) (fun _ h => nomatch h))) eT rfl rfl rfl ?_
  rintro _ _ oT1 ⟨tT, rfl⟩ eT1
  obtain ⟨hTm, hTh, hTl6, hTl1⟩ := text_facts W _ rfl hWm hWh
  refine st2 (ss := lawBody.drop 3) G ms hl hI h63 fun tot tt q0 q1 => ?_
  exact law_rest G eF eT1 h2 rfl rfl q0 q1 hWm hWh hW64 hTm hTh hTl6 hTl1
end
end Mine
end
open PySem PySem.W PyProof PyProof.Rows
set_option Elab.async false
set_option maxRecDepth 100000
set_option maxHeartbeats 100000000
set_option rowWalk.seconds 0
theorem PySem.Challenge.cw_ik0037_01_holds : PySem.Challenge.rw_ik0037_01.Holds := by
  exact Mine.hd (by
    k_with_none
    w_strict (k_go0; (all_goals try k_fold); (rename Fr _ _ _ _ => F1); (rename News _ _ _ _ => N1); (rename_i oF oT dF dT X0); clear X0; (rename IntsAre _ _ => IA); (rename Heap.IsList _ _ _ => IL);
              (have F2 : Fr _ _ _ (Mine.frl [(Str.ofString "script", Value.ref _)]) := F1); clear F1;
              (have eF : oF.data = Data.cell Option.none := dF); (have eT : oT.data = Data.cell Option.none := dT); clear dF dT;
              refine Mine.Bl.enter (cl := [(Str.ofString "formatter", _), (Str.ofString "text", _)]) (fun f _ _ _ => f = .ret (.bool true)) F2 N1 (Mine.law_all (Mine.Gd.mk _ _ _ _ _ _ _ (by k_asm) (by k_asm) (by k_asm) (by k_asm) (by k_asm) ?_ ?_) eF eT (Nat.ne_of_gt (Nat.lt_succ_self _)) (Nat.ne_of_lt (Nat.lt_succ_self _)) rfl IL IA (by omega)) ?_;
              focus (exact Nat.le_of_ble_eq_true rfl);
              focus (exact Nat.le_of_ble_eq_true rfl);
              rintro _ m' n' h tk rfl Fe Ne; k_steps; done))
