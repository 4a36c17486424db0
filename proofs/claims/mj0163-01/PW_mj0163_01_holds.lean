import PyProof.Rows.All
import Wide.All
import OpenK.AllK
import Wide.FinOn
import PySem.Challenge.RW_mj0163_01
open PySem PySem.W PyProof.Rows
set_option Elab.async false
set_option maxRecDepth 100000
set_option maxHeartbeats 8000000
namespace Mine
open_top hd for PySem.Challenge.rw_mj0163_01
end Mine

open PySem.Calls
namespace Mine

section
variable {prog : Program} {w : World} {A₀ A : Around} {s : Shared} {base h₀ : Heap} {outer : List Env} {L : Addr} {m : Str → Option Value} {env : Env} {news : List (Addr × Obj)} {K : Frag}
  {p : Program} {loose : List Str} {mg mb : Str → Option Value}
  {R : Result → Shared → Prop} {name qual : Str} {params : Arguments} {body : List Stmt} {scope : Scope} {dV kV doc pm cdv ct oc : Value} {an od : Option Addr} {osl : Array (Option Value)} {f : Addr} {args : Args} {binds : List (Str × Value)}

/-- what stays: every object of h that is not among the named ones -/
def Hid (h : Heap) (l : List (Addr × Obj)) (g : Heap) : Prop := ∀ b o, h.get? b = some o → b ∉ l.map (·.1) → g.get? b = some o

theorem enter (B : Below A₀ base outer h₀) (F : Fr h₀ L s.heap m) (X : K.In h₀) (N : News h₀ L s.heap news) (T : TopRead p loose mg mb h₀)
    (hA : A.frames = some (env :: outer)) (hf : env.frame = some L) (hke : env.scope.kind = .function)
    (ho : K.lookup f = some ⟨oc, od, .func (fnOf name qual params body scope dV kV doc pm an cdv ct), osl⟩) (hcd : codeIn K cdv qual = true) (hroom : A.depth < recursionLimit)
    (hbind : BindsTo s (fnOf name qual params body scope dV kV doc pm an cdv ct) args binds) (hloc : ∀ y ∈ binds, scope.names.lookup y.1 = some .local)
    (h : ∀ g L' h₁, Hid s.heap news g → Fr g L' h₁ (fun y => binds.reverse.lookup y) → News g L' h₁ news → Below A base (env :: outer) g → K.In g → TopRead p loose mg mb g → (∀ q ∈ news, q.1 < L') →
      wpAny (model prog w) (A.deeper (envOf qual scope L' f cdv)) (execs body (envOf qual scope L' f cdv))
        (fun fl s' => R (.ok (.ret (match fl with | .ret v => v | _ => .none))) s') (fun _ _ => False)
        { s with heap := h₁, toks := s.toks + binds.length })
    (hco : scope.isCoroutine = false) (hgen : scope.isGenerator = false) (hk : scope.kind = .function)
    (hcell : ∀ x ∈ scope.names, x.2 ≠ .cell) : codeAny (model prog w) A (.call (.ref f) args) R s := by
  obtain ⟨FG, BG, st, _⟩ := groundX (R := R) B F N hA hf hke
  refine codeAny_call_def (fd := fnOf name qual params body scope dV kV doc pm an cdv ct) (body := body) (binds := binds) hroom ((X.keeps F.keep) _ _ ho) rfl (T.nolimit.keeps F.keep) (codeRec_of (X.keeps F.keep) hcd) rfl hbind hcell hloc (fun h₁ hns hk₁ => ?_) hco hgen hk
  exact wpAny_mono (h _ s.heap.objs.size h₁ (fun b o e hb => hideAll_get _ e hb) ⟨hns, fun b o e => hk₁ b o (of_hideAll _ e), Nat.le_of_eq (hideAll_size _ _)⟩
    (fun p hp => ⟨hk₁ _ _ (N p hp).1, Nat.ne_of_lt (Heap.lt_size (N p hp).1), hideAll_none _ (List.mem_map_of_mem hp)⟩) BG (X.keeps st) (T.keeps st) (fun p hp => Heap.lt_size (N p hp).1)) (fun _ _ hl => hl) fun _ _ y => y.elim

theorem enterC (B : Below A₀ base outer h₀) (F : Fr h₀ L s.heap m) (X : K.In h₀) (N : News h₀ L s.heap news) (T : TopRead p loose mg mb h₀)
    (hA : A.frames = some (env :: outer)) (hf : env.frame = some L) (hke : env.scope.kind = .function)
    (ho : K.lookup f = some ⟨oc, od, .func (fnOf name qual params body scope dV kV doc pm an cdv ct), osl⟩) (hcd : codeIn K cdv qual = true) (hroom : A.depth < recursionLimit)
    (hbind : BindsTo s (fnOf name qual params body scope dV kV doc pm an cdv ct) args binds) (hkind : (binds.all fun y => scope.names.lookup y.1 == some .local || scope.names.lookup y.1 == some .cell) = true)
    (hnd : ((cellsFrom 0 scope.names []).map (·.1)).Nodup)
    (h : ∀ g L' h₁ tk cells, Hid s.heap news g → Fr g L' h₁ (bindL (envOfC qual scope L' f cdv).kindOf binds fun _ => none) → News g L' h₁ (cells ++ news) →
      CellsAre (bindC (envOfC qual scope L' f cdv).kindOf binds fun _ => none) (cellsFrom (L' + 1) scope.names []) cells → Below A base (env :: outer) g → K.In g → TopRead p loose mg mb g → (∀ q ∈ news, q.1 < L') →
      wpAny (model prog w) (A.deeper (envOfC qual scope L' f cdv)) (execs body (envOfC qual scope L' f cdv))
        (fun fl s' => R (.ok (.ret (match fl with | .ret v => v | _ => .none))) s') (fun _ _ => False)
        { s with heap := h₁, toks := tk })
    (hco : scope.isCoroutine = false) (hgen : scope.isGenerator = false) (hk : scope.kind = .function) : codeAny (model prog w) A (.call (.ref f) args) R s := by
  obtain ⟨_, BG, st, _⟩ := groundX (R := R) B F N hA hf hke
  have hlim := T.nolimit.keeps F.keep
  refine codeAny_call_function hroom ((X.keeps F.keep) _ _ ho) rfl hco hgen rfl (codeRec_of (X.keeps F.keep) hcd) (hbind _ _ _ _ ?_)
  refine wpAny_newFunctionEnv_cells hk (kindsX hkind _) fun env' he s' x => ?_
  subst he
  have keep := x.toInCall.keep
  refine ⟨hlim.keeps keep, codeAny_func ?_⟩
  obtain ⟨h₁, tk, rfl, _⟩ := x.done
  have nd := cellsFrom_names scope.names 0 (s.heap.objs.size + 1) [] [] rfl ▸ hnd
  obtain ⟨cells, NC, Y⟩ := Cl.news (h₀ := s.heap) (Nat.le_refl _) fun n c hm => ⟨x.cell n c (lookup_of_mem_nodup nd hm), x.above n c hm⟩
  have NN : News (hideAll s.heap (news.map (·.1))) s.heap.objs.size h₁ (cells ++ news) := by
    intro q hq
    rcases List.mem_append.mp hq with hq | hq
    · obtain ⟨a1, a2, a3⟩ := NC q hq
      refine ⟨a1, a2, ?_⟩
      cases e : (hideAll s.heap (news.map (·.1))).get? q.1 with
      | none => rfl
      | some o => rw [of_hideAll _ e] at a3; cases a3
    · exact ⟨keep _ _ (N q hq).1, Nat.ne_of_lt (Heap.lt_size (N q hq).1), hideAll_none _ (List.mem_map_of_mem hq)⟩
  exact wpAny_mono (h _ s.heap.objs.size h₁ tk cells (fun b o e hb => hideAll_get _ e hb) ⟨x.toInCall.ns, fun b o e => keep b o (of_hideAll _ e), Nat.le_of_eq (hideAll_size _ _)⟩ NN Y BG (X.keeps st) (T.keeps st)
    (fun q hq => Heap.lt_size (N q hq).1)) (fun _ _ hl => hl) fun _ _ y => y.elim

theorem enterV {vs : List Value} {bv : Value → List (Str × Value)} (B : Below A₀ base outer h₀) (F : Fr h₀ L s.heap m) (X : K.In h₀) (N : News h₀ L s.heap news) (T : TopRead p loose mg mb h₀)
    (hA : A.frames = some (env :: outer)) (hf : env.frame = some L) (hke : env.scope.kind = .function)
    (ho : K.lookup f = some ⟨oc, od, .func (fnOf name qual params body scope dV kV doc pm an cdv ct), osl⟩) (hcd : codeIn K cdv qual = true) (hroom : A.depth < recursionLimit)
    (hb : bindArgs (fnOf name qual params body scope dV kV doc pm an cdv ct) args = (newTuple vs >>= fun t => pure (bv t))) (hz : vs.length ≤ sizeLine)
    (hloc : ∀ t, ∀ y ∈ bv t, scope.names.lookup y.1 = some .local)
    (h : ∀ D g L' h₁ tk, Hid s.heap news g → s.heap.get? D = none → Fr g L' h₁ (fun y => (bv (.ref D)).reverse.lookup y) → News g L' h₁ ((D, { cls := .type "tuple", data := .seq vs.toArray }) :: news) → Below A base (env :: outer) g → K.In g → TopRead p loose mg mb g →
      wpAny (model prog w) (A.deeper (envOf qual scope L' f cdv)) (execs body (envOf qual scope L' f cdv))
        (fun fl s' => R (.ok (.ret (match fl with | .ret v => v | _ => .none))) s') (fun _ _ => False)
        { s with heap := h₁, toks := tk })
    (hco : scope.isCoroutine = false) (hgen : scope.isGenerator = false) (hk : scope.kind = .function)
    (hcell : ∀ x ∈ scope.names, x.2 ≠ .cell) : codeAny (model prog w) A (.call (.ref f) args) R s := by
  have hlim := T.nolimit.keeps F.keep
  refine codeAny_call_function (fd := fnOf name qual params body scope dV kV doc pm an cdv ct) (body := body) hroom ((X.keeps F.keep) _ _ ho) rfl hco hgen rfl (codeRec_of (X.keeps F.keep) hcd) ?_
  rw [hb]
  have fresh : s.heap.get? s.heap.objs.size = none := by
    cases e : s.heap.get? s.heap.objs.size with
    | none => rfl
    | some o => exact absurd (Heap.lt_size e) (Nat.lt_irrefl _)
  refine wpAny_bind (wpAny_newObj_type (wpAny_pure ?_) (by show vs.toArray.size ≤ sizeLine; rw [List.size_toArray]; exact hz))
  let o : Obj := { cls := .type "tuple", data := .seq vs.toArray }
  have F₁ : Fr h₀ L (s.heap.push o) m := F.push o
  have N₁ : News h₀ L (s.heap.push o) ((s.heap.objs.size, o) :: news) := N.push F o
  have up : ∀ b ob, s.heap.get? b = some ob → (s.heap.push o).get? b = some ob := fun b ob e => Heap.get?_push_of_some _ e
  obtain ⟨_, BG, st, _⟩ := groundX (s := { s with heap := s.heap.push o }) (R := R) B F₁ N₁ hA hf hke
  refine wpAny_newFunctionEnv hcell (hloc _) (fun h₁ hns hsb => ⟨(hlim.keeps up).fresh _ hsb, codeAny_func ?_⟩) hk
  have keep : ∀ b ob, (s.heap.push o).get? b = some ob → h₁.get? b = some ob := fun b ob e => hsb.extBut b ob (Nat.ne_of_lt (Heap.lt_size e)) (Heap.get?_push_of_some _ e)
  refine wpAny_mono (h s.heap.objs.size _ (s.heap.push o).objs.size h₁ _ (fun b ob e hb => hideAll_get _ (up b ob e) ?_) fresh ⟨hns, fun b ob e => keep b ob (of_hideAll _ e), Nat.le_of_eq (hideAll_size _ _)⟩
    (fun q hq => ⟨keep _ _ (N₁ q hq).1, Nat.ne_of_lt (Heap.lt_size (N₁ q hq).1), hideAll_none _ (List.mem_map_of_mem hq)⟩) BG (X.keeps st) (T.keeps st)) (fun _ _ hl => hl) fun _ _ y => y.elim
  intro hm
  rcases List.mem_cons.mp hm with e' | hm
  · have e'' : b = s.heap.objs.size := e'
    subst e''
    rw [fresh] at e
    cases e
  · exact hb hm
theorem back {g h' : Heap} {L' : Addr} {m' : Str → Option Value} {news' : List (Addr × Obj)} (hg : Hid s.heap news g) (N : News h₀ L s.heap news) (F' : Fr g L' h' m') (N' : News g L' h' news') (hs : ∀ q ∈ news, q ∈ news') : s.heap.StaysIn h' := by
  intro b o e
  by_cases hb : b ∈ news.map (·.1)
  · obtain ⟨q, hq, rfl⟩ := List.mem_map.mp hb
    have h1 := (N q hq).1
    rw [e] at h1
    rw [(N' q (hs q hq)).1, h1]
  · exact F'.keep b o (hg b o e hb)

theorem fresh_of {g h' : Heap} {L' : Addr} {news' : List (Addr × Obj)} {q : Addr × Obj} (hg : Hid s.heap news g) (N' : News g L' h' news') (hq : q ∈ news') (hn : ∀ r ∈ news, r.1 ≠ q.1) : s.heap.get? q.1 = none := by
  cases e : s.heap.get? q.1 with
  | none => rfl
  | some o =>
    have hb : q.1 ∉ news.map (·.1) := fun hm => by
      obtain ⟨r, hr, e'⟩ := List.mem_map.mp hm
      exact hn r hr e'
    have := hg _ _ e hb
    rw [(N' q hq).2.2] at this
    cases this
end

section
variable {h₀ h h' : Heap} {L : Addr} {m : Str → Option Value} {news : List (Addr × Obj)}
theorem fr_stays (F : Fr h₀ L h m) (st : h.StaysIn h') : Fr h₀ L h' m := ⟨F.ns.keeps st, fun b o e => st b o (F.keep b o e), F.above⟩
theorem news_stays (N : News h₀ L h news) (st : h.StaysIn h') : News h₀ L h' news := fun q hq => ⟨st _ _ (N q hq).1, (N q hq).2⟩
theorem news_more {D : Addr} {o : Obj} (F : Fr h₀ L h m) (N : News h₀ L h news) (st : h.StaysIn h') (hD : h.get? D = none) (ho : h'.get? D = some o) : News h₀ L h' ((D, o) :: news) := by
  intro q hq
  rcases List.mem_cons.mp hq with rfl | hq
  · refine ⟨ho, fun e => ?_, ?_⟩
    · obtain ⟨oL, _, _, hL, _⟩ := F.ns
      subst e
      rw [hL] at hD; cases hD
    · cases e : h₀.get? D with
      | none => rfl
      | some o' =>
        have := F.keep _ _ e
        rw [hD] at this; cases this
  · exact ⟨st _ _ (N q hq).1, (N q hq).2⟩
theorem ne_new {D : Addr} (N : News h₀ L h news) (hD : h.get? D = none) : ∀ q ∈ news, q.1 ≠ D := fun q hq e => by
  have := (N q hq).1
  rw [e, hD] at this; cases this
end
end Mine
namespace Mine
abbrev pr : Program := PySem.Challenge.rw_mj0163_01.prog
abbrev tupOf (vs : List Value) : Obj := { cls := .type "tuple", data := .seq vs.toArray }
abbrev Spec (w : World) (p : Program) (loose : List Str) (mg mb : Str → Option Value) (f : Addr) (args : List Value) (need : List (Addr × Obj)) (d u : Nat) (Post : Value → Heap → Heap → Prop) : Prop :=
  ∀ (dp un : Nat) (gd : Option (List Code)) (cn : Str) (cs : Scope) (a : Addr) (ccd : Value) (cl : List (Str × Addr)) (outer : List Env) (A₀ : Around) (base h₀ : Heap) (L : Addr) (m : Str → Option Value) (s : Shared) (Q E : Value → Shared → Prop),
    Below A₀ base outer h₀ → Fr h₀ L s.heap m → (hd.heap_39 w.params).In h₀ → News h₀ L s.heap need → TopRead p loose mg mb h₀ → cs.kind = .function → dp + d < recursionLimit → un + u < cLine →
    (∀ r h' tk', s.heap.StaysIn h' → Post r s.heap h' → Q r { s with heap := h', toks := tk' }) →
    wpAny (model PySem.Challenge.rw_mj0163_01.prog w) (ktrTop dp un gd cn cs L a ccd cl outer) (call (.ref f) args) Q E s
end Mine

namespace Mine
section
variable {prog : Program} {w : World} {A : Around} {E : Value → Shared → Prop} {s : Shared} {h₀ : Heap} {L : Addr} {m : Str → Option Value} {news : List (Addr × Obj)} {Q : Value → Shared → Prop}

theorem len_L {D : Addr} {vs : List Value} {n : Nat} {k : Int} (N : News h₀ L s.heap news) (hm : (D, listOf vs.toArray n) ∈ news) (hk : (vs.length : Int) = k) (hf : k < 2 ^ 62) (h : ∀ t k', Q (.int k t) { s with toks := k' }) :
    wpAny (model prog w) A (call (.builtin "len") [.ref D]) Q E s := by
  refine Calls.call_len_list (News.isList N hm) (by rw [List.size_toArray, hk]; omega) ?_
  rw [List.size_toArray, hk]
  exact h _ _
theorem len_T {D : Addr} {vs : List Value} {n : Nat} {k : Int} (N : News h₀ L s.heap news) (hm : (D, ({ cls := .type "tuple", data := .seq vs.toArray n } : Obj)) ∈ news) (hk : (vs.length : Int) = k) (hf : k < 2 ^ 62) (h : ∀ t k', Q (.int k t) { s with toks := k' }) :
    wpAny (model prog w) A (call (.builtin "len") [.ref D]) Q E s := by
  refine len_tuple (News.isTup N hm) (by rw [List.size_toArray, hk]; omega) ?_
  rw [List.size_toArray, hk]
  exact h _ _
theorem item_L {value slice : PySem.Expr} {D : Addr} {vs : List Value} {n : Nat} {k : Int} {u : Tok} {v : Value} (N : News h₀ L s.heap news) (hm : (D, listOf vs.toArray n) ∈ news) (h0 : 0 ≤ k) (hhi : k < 2 ^ 62) (hx : vs[k.toNat]? = some v) (h : Q v s)
    (hs : subscripted slice false (.ref D) (.int k u) = operate [.ref D, .int k u] (getItem (.ref D) (.int k u)) := by with_unfolding_all rfl) :
    wpAny (model prog w) A (subscriptTail value slice (.ref D) (.int k u)) Q E s :=
  tail_any (News.isList N hm).typeIs slot_list_getitem.lookup (wpAny_getItem_list (News.isList N hm) h0 (by omega) (by simpa using hx) h) hs
theorem join_L {D : Addr} {x : Str} {t : Tok} {l : List (Str × Tok)} {n : Nat} {texts : List Str} (N : News h₀ L s.heap news) (hm : (D, listOf (strValues l).toArray n) ∈ news) (ht : l.map (·.1) = texts) (hok : (texts.map (·.length)).sum + texts.length * x.length ≤ 16777216)
    (h : ∀ t' k, Q (.str (Txt.join x texts) t') { s with toks := k }) : wpAny (model prog w) A (call (.builtin "str.join") [.str x t, .ref D]) Q E s :=
  SC.join (News.isList N hm) ht (joinOk_of hok) h
end
end Mine
namespace Mine
theorem split_facts {l : List (Str × Tok)} {x y : Str} (e : l.map (·.1) = Txt.split x y) (hy : 1 ≤ y.length) : ((l.map (·.1)).map (·.length)).sum + l.length ≤ x.length + 1 ∧ 1 ≤ l.length := by
  have h1 := split_weight x y hy
  have h2 := split_pos x y
  rw [← e] at h1 h2
  rw [List.length_map] at h1 h2
  exact ⟨h1, h2⟩
section
variable {prog : Program} {w : World} {A : Around} {E : Value → Shared → Prop} {s : Shared} {h₀ : Heap} {L : Addr} {m : Str → Option Value} {news : List (Addr × Obj)} {Q : Value → Shared → Prop}
theorem slicePick_from (vs : List Value) (k : Nat) : slicePick vs.toArray (some (k : Int)) none none = (vs.drop k).toArray := by
  have e : sliceBounds (some (k : Int)) none none vs.toArray.size = (((min k vs.toArray.size : Nat) : Int), ((vs.toArray.size : Nat) : Int), 1) := by
    simp only [sliceBounds, Option.getD_none, show (1 : Int) > 0 by decide, if_true, if_neg (show ¬ ((k : Int) < 0) by omega)]
    congr 1
    omega
  rw [kmk_pick_nat _ e]
  show ((vs.drop (min k vs.toArray.size)).take (vs.toArray.size - min k vs.toArray.size)).toArray = _
  rw [List.size_toArray, kmk_drop_min, List.take_of_length_le (by rw [List.length_drop]; omega)]
theorem slice_L {value slice : PySem.Expr} {D : Addr} {vs zs : List Value} {n k : Nat} {t : Tok} (F : Fr h₀ L s.heap m) (N : News h₀ L s.heap news) (hm : (D, listOf vs.toArray n) ∈ news) (hz : vs.length ≤ 1000000) (e : vs.drop k = zs)
    (h : ∀ D' h', Fr h₀ L h' m → News h₀ L h' ((D', listOf zs.toArray 0) :: news) → (∀ p ∈ news, p.1 < D') → Q (.ref D') { s with heap := h' })
    (hs : subscripted slice false (.ref D) (.ref s.heap.objs.size) = operate [.ref s.heap.objs.size, .ref D] (getItem (.ref D) (.ref s.heap.objs.size))) (ht : ∀ r, letTemporaryGo value (.ref D) r = pure ()) :
    wpAny (model prog w) A (subscriptTail value slice (.ref D) (.ref s.heap.objs.size)) Q E { s with heap := s.heap.push { cls := .type "slice", data := .fields #[.int k t, .none, .none] } } := by
  subst e
  refine kmk_slice F N (News.isList N hm) (.int _ _) .none (fun D' h' F' N' l => h D' h' F' ?_ l) hs ht (by rw [List.size_toArray, sizeLine_eq]; omega)
  rw [← slicePick_from]
  exact N'
end
end Mine
namespace Mine
section
variable {prog : Program} {w : World} {A : Around} {E : Value → Shared → Prop} {s : Shared} {h₀ : Heap} {L : Addr} {m : Str → Option Value} {news : List (Addr × Obj)} {Q : Value → Shared → Prop}
theorem slice_T {value slice : PySem.Expr} {D : Addr} {vs zs : List Value} {n k : Nat} {t : Tok} (F : Fr h₀ L s.heap m) (N : News h₀ L s.heap news) (hm : (D, ({ cls := .type "tuple", data := .seq vs.toArray n } : Obj)) ∈ news) (h1 : 1 ≤ k) (hk : k ≤ vs.length) (hz : vs.length ≤ 1000000) (e : vs.drop k = zs)
    (h : ∀ D' h', Fr h₀ L h' m → News h₀ L h' ((D', tupOf zs) :: news) → (∀ p ∈ news, p.1 < D') → Q (.ref D') { s with heap := h' })
    (hs : subscripted slice false (.ref D) (.ref s.heap.objs.size) = operate [.ref s.heap.objs.size, .ref D] (getItem (.ref D) (.ref s.heap.objs.size))) (ht : ∀ r, letTemporaryGo value (.ref D) r = pure ()) :
    wpAny (model prog w) A (subscriptTail value slice (.ref D) (.ref s.heap.objs.size)) Q E { s with heap := s.heap.push { cls := .type "slice", data := .fields #[.int k t, .none, .none] } } := by
  subst e
  refine slice_tuple_from F N (News.isTup N hm) h1 (by rw [List.size_toArray]; exact hk) (fun h' F' N' => h _ h' F' N' fun q hq => Nat.lt_succ_of_lt (Heap.lt_size (N q hq).1)) hs ht (by rw [List.size_toArray, sizeLine_eq]; omega)
theorem join_len (x : Str) (l : List Str) : (Txt.join x l).length ≤ (l.map (·.length)).sum + l.length * x.length := by
  show (Builtin.Str.glued x l).length ≤ _
  rw [StrLaws.glued_eq_join]
  exact StrLaws.join_length_le x l
theorem join_split_len (x y q : Str) (hy : (y.length == 0) = false) {b : Nat} (hq : q.length ≤ b) : (Txt.join q (Txt.split x y)).length ≤ (x.length + 1) * (b + 1) ∧ ((Txt.split x y).map (·.length)).sum + (Txt.split x y).length * q.length ≤ (x.length + 1) * (b + 1) := by
  have h1 := split_weight x y (by have := beq_eq_false_iff_ne.mp hy; omega)
  have h2 := join_len q (Txt.split x y)
  have h3 : (Txt.split x y).length * q.length ≤ (x.length + 1) * b := Nat.mul_le_mul (by omega) hq
  rw [Nat.mul_add, Nat.mul_one]
  omega
end
end Mine
namespace Mine
section
variable {prog : Program} {w : World} {A : Around} {E : Value → Shared → Prop} {s : Shared} {h₀ : Heap} {L C : Addr} {m : Str → Option Value} {news : List (Addr × Obj)} {Q : Value → Shared → Prop} {K : Frag}
theorem make_W {pos : List Value} {fI : Addr} (F : Fr h₀ L s.heap m) (X : K.In h₀) (N : News h₀ L s.heap news) (hm : makesIn K C = true) (hi : findIn K (.ref C) "__init__" = some (some (.ref fI))) (hf : typeIn K (.ref fI) = some (.type "function"))
    (h : ∀ x dx h', s.heap.StaysIn h' → s.heap.get? x = none → s.heap.get? dx = none → dx < x → Fr h₀ L h' m → News h₀ L h' ((x, instObj C dx) :: (dx, dictOf [] 0) :: news) →
      codeAny (model prog w) (A.under (.builtin "type.__call__" ⟨.ref C :: pos, []⟩)) (.call (.ref fI) ⟨.ref x :: pos, []⟩) (InitBack x fun r s' => match r with | .ok (.ret v) => Q v s' | .ok _ => False | .error e => E e s') { s with heap := h' }) :
    wpAny (model prog w) A (call (.ref C) pos []) Q E s := by
  refine wpAny_call ?_
  have X' : K.In s.heap := X.keeps F.keep
  have fresh : ∀ k, s.heap.get? (s.heap.objs.size + k) = none := fun k => by
    cases e : s.heap.get? (s.heap.objs.size + k) with
    | none => rfl
    | some o => exact absurd (Heap.lt_size e) (Nat.not_lt.mpr (Nat.le_add_right _ _))
  have N' := (N.push F (dictOf [] 0)).push (F.push _) (instObj C s.heap.objs.size)
  rw [Heap.size_push] at N'
  obtain ⟨hh, g, d, t, os⟩ := s
  exact make_core (makes_of X' hm) (looks_findIn X' hi) (fun self => bind_fn X' self hf) (.inl rfl)
    (h _ hh.objs.size _ (fun b o e => Heap.get?_push_of_some _ (Heap.get?_push_of_some _ e)) (fresh 1) (fresh 0) (Nat.lt_succ_self _) ((F.push _).push _) N')
end
def Has (m : Str → Option Value) : List (Str × Value) → Prop
  | [] => True
  | q :: l => m q.1 = some q.2 ∧ Has m l
def ovr (l : List (Str × Value)) (m : Str → Option Value) : Str → Option Value := fun y => match l.lookup y with
  | some v => some v
  | none => m y
theorem ovr_eq {m : Str → Option Value} : ∀ {l : List (Str × Value)}, Has m l → ovr l m = m := by
  intro l h
  funext y
  unfold ovr
  induction l with
  | nil => rfl
  | cons q l ih =>
    rw [List.lookup_cons]
    by_cases e : (y == q.1) = true
    · rw [e]
      rw [eq_of_beq e]
      exact h.1.symm
    · have e' : (y == q.1) = false := by simpa using e
      rw [e']
      exact ih h.2
end Mine
namespace Mine
section
variable {prog : Program} {w : World} {A : Around} {E : Value → Shared → Prop} {s : Shared} {env : Env} {h₀ : Heap} {x : Str} {body : List Stmt} {Q : Flow → Shared → Prop}
theorem loop_str {xt : Str} {tx : Tok} {m₀ : Str → Option Value} {news : List (Addr × Obj)} (J : Nat → (Str → Option Value) → List (Addr × Obj) → Prop)
    (hh : A.handled = none) (F : Fr h₀ env.locals s.heap m₀) (N : News h₀ env.locals s.heap news) (hj : J 0 m₀ news)
    (turn : ∀ i c t m₁ nx h tk own, xt.cps[i]? = some c → OwnOff own (nx.map (·.1)) → J i m₁ nx → Fr h₀ env.locals h (fun y => if y = x then some (.str ⟨#[c]⟩ t) else m₁ y) → News h₀ env.locals h (nx ++ own) →
      wpAny (model prog w) A (execs body env) (InvPostG h₀ env.locals (J (i + 1)) own { s with heap := h, toks := tk } Q) E { s with heap := h, toks := tk })
    (done : ∀ m₁ nx h tk, J xt.cps.size m₁ nx → Fr h₀ env.locals h m₁ → News h₀ env.locals h nx → Q .next { s with heap := h, toks := tk }) :
    wpAny (model prog w) A (pyIter (.str xt tx)) (fun it s₂ => LoopAtV prog w A h₀ env x body Q E it s₂) E s := by
  cases ha : xt.cps.all (· < 128)
  · refine wpAny_pyIter_wide ha ?_
    refine kdr_loop J (Walks.strWide hh _ xt tx) (fun _ h => h) (fun _ h => h) ?_ ?_ ?_ ?_ ⟨_, Heap.get?_push_size _ rfl, rfl, rfl⟩ (F.push _) (fun p hp => ⟨Heap.get?_push_of_some _ (N p hp).1, (N p hp).2⟩) hj ?_ done
    · rintro i h ⟨o, ho, _⟩ b hb
      rw [List.mem_singleton.mp hb]
      exact ⟨o, ho⟩
    · intro hm
      exact absurd F.ns.lt ((List.mem_singleton.mp hm) ▸ Nat.lt_irrefl _)
    · intro b hb
      rw [List.mem_singleton.mp hb]
      exact next_is_new F
    · intro p hp hI
      exact absurd (Heap.lt_size (N p hp).1) ((List.mem_singleton.mp hI) ▸ Nat.lt_irrefl _)
    · rintro i v m₁ nx h tk own _ ⟨c, t, hc, rfl⟩ ho hJ F₁ N₁
      exact turn i c t m₁ nx h tk own hc ho hJ F₁ N₁
  · refine wpAny_pyIter_ascii ha ?_
    refine kdr_loop J (Walks.strAscii hh _ xt tx) (fun _ h => h) (fun _ h => h) ?_ ?_ ?_ ?_ ⟨_, Heap.get?_push_size _ rfl, rfl, rfl⟩ (F.push _) (fun p hp => ⟨Heap.get?_push_of_some _ (N p hp).1, (N p hp).2⟩) hj ?_ done
    · rintro i h ⟨o, ho, _⟩ b hb
      rw [List.mem_singleton.mp hb]
      exact ⟨o, ho⟩
    · intro hm
      exact absurd F.ns.lt ((List.mem_singleton.mp hm) ▸ Nat.lt_irrefl _)
    · intro b hb
      rw [List.mem_singleton.mp hb]
      exact next_is_new F
    · intro p hp hI
      exact absurd (Heap.lt_size (N p hp).1) ((List.mem_singleton.mp hI) ▸ Nat.lt_irrefl _)
    · rintro i v m₁ nx h tk own _ ⟨c, t, hc, rfl⟩ ho hJ F₁ N₁
      exact turn i c t m₁ nx h tk own hc ho hJ F₁ N₁
end
/-- the same state but for the heap and the tokens, with a frame and a ledger of which J holds -/
def After (h₀ : Heap) (L : Addr) (s : Shared) (J : (Str → Option Value) → List (Addr × Obj) → Prop) (s' : Shared) : Prop :=
  ∃ h tk m nx, s' = { s with heap := h, toks := tk } ∧ Fr h₀ L h m ∧ News h₀ L h nx ∧ J m nx
theorem cut {M : Model} {A : Around} {E : Value → Shared → Prop} {s : Shared} {t : Sem Flow} {Q : Flow → Shared → Prop} {h₀ : Heap} {L : Addr} (J : (Str → Option Value) → List (Addr × Obj) → Prop)
    (h1 : wpAny M A t (fun f s' => f = .next ∧ After h₀ L s J s') E s)
    (h2 : ∀ h tk m nx, Fr h₀ L h m → News h₀ L h nx → J m nx → Q .next { s with heap := h, toks := tk }) : wpAny M A t Q E s := by
  refine wpAny_mono h1 (fun f s' q => ?_) fun _ _ e => e
  obtain ⟨rfl, h, tk, m, nx, rfl, F, N, hJ⟩ := q
  exact h2 h tk m nx F N hJ
end Mine

namespace Mine
theorem news_drop2 {h₀ h : Heap} {L : Addr} {a b : Addr × Obj} {l : List (Addr × Obj)} (N : News h₀ L h (a :: b :: l)) : News h₀ L h (a :: l) := fun q hq => by
  rcases List.mem_cons.mp hq with rfl | hq
  · exact N _ (.head _)
  · exact N _ (.tail _ (.tail _ hq))
end Mine

namespace Mine
theorem allLt_ne {d : Nat} : ∀ {l : List (Addr × Obj)}, AllLt d l → ∀ q ∈ l, q.1 ≠ d
  | [], _ => fun _ h => nomatch h
  | p :: l, h => fun q hq => by
    rcases List.mem_cons.mp hq with rfl | hq
    · exact Nat.ne_of_lt h.1
    · exact allLt_ne h.2 q hq
theorem news_sub {h₀ h : Heap} {L : Addr} {l l' : List (Addr × Obj)} (N : News h₀ L h l') (hs : ∀ q ∈ l, q ∈ l') : News h₀ L h l := fun q hq => N q (hs q hq)
end Mine

namespace Mine
def New (h h' : Heap) (objs : List (Addr × Obj)) : Prop := ∀ q ∈ objs, h.get? q.1 = none ∧ h'.get? q.1 = some q.2
theorem news_new {h₀ h h' : Heap} {L : Addr} {m : Str → Option Value} {news objs : List (Addr × Obj)} (F : Fr h₀ L h m) (N : News h₀ L h news) (st : h.StaysIn h') (O : New h h' objs) : News h₀ L h' (objs ++ news) := by
  intro q hq
  rcases List.mem_append.mp hq with hq | hq
  · obtain ⟨a1, a2⟩ := O q hq
    exact news_more F N st a1 a2 _ (.head _)
  · exact news_stays N st q hq
section
variable {prog : Program} {w : World} {A : Around} {E : Value → Shared → Prop} {s : Shared} {h₀ : Heap} {L : Addr} {m : Str → Option Value} {news : List (Addr × Obj)} {Q : Value → Shared → Prop}
theorem tuple_L {D : Addr} {vs : List Value} {n : Nat} (F : Fr h₀ L s.heap m) (N : News h₀ L s.heap news) (hm : (D, listOf vs.toArray n) ∈ news) (hz : vs.length ≤ 16384)
    (h : ∀ D' h', Fr h₀ L h' m → News h₀ L h' ((D', tupOf vs) :: news) → (∀ p ∈ news, p.1 < D') → Q (.ref D') { s with heap := h' }) : wpAny (model prog w) A (call (.type "tuple") [.ref D]) Q E s :=
  kde_tupleOf F N (News.isList N hm) (by rw [List.size_toArray]; exact hz) rfl h
end
end Mine

namespace Mine
section
variable {h0 h1 g h' : Heap} {L' : Addr} {m' : Str → Option Value} {news news' objs : List (Addr × Obj)}
theorem back2 (hg : Hid h1 news g) (F' : Fr g L' h' m') (st : h0.StaysIn h1) (hn : ∀ q ∈ news, h0.get? q.1 = none) : h0.StaysIn h' := fun b o e => by
  refine F'.keep b o (hg b o (st b o e) fun hm => ?_)
  obtain ⟨q, hq, rfl⟩ := List.mem_map.mp hm
  rw [hn q hq] at e; cases e
theorem new2 (hg : Hid h1 news g) (N' : News g L' h' news') (st : h0.StaysIn h1) (hn : ∀ q ∈ news, h0.get? q.1 = none) (hs : ∀ q ∈ objs, q ∈ news') : New h0 h' objs := fun q hq => by
  refine ⟨?_, (N' q (hs q hq)).1⟩
  cases e : h0.get? q.1 with
  | none => rfl
  | some o =>
    have := hg _ _ (st _ _ e) fun hm => by
      obtain ⟨r, hr, e'⟩ := List.mem_map.mp hm
      rw [← e', hn r hr] at e; cases e
    rw [(N' q (hs q hq)).2.2] at this; cases this
end
end Mine

namespace Mine
section
variable {prog : Program} {w : World} {A : Around} {E : Value → Shared → Prop} {s : Shared} {env : Env} {h₀ : Heap} {x : Str} {body : List Stmt} {Q : Flow → Shared → Prop}
theorem loop_range {r : Addr} {a₀ b₀ : Int} {t₀ u₀ v₀ : Tok} {n : Nat} {m₀ : Str → Option Value} {news : List (Addr × Obj)} (J : Nat → (Str → Option Value) → List (Addr × Obj) → Prop)
    (hh : A.handled = none) (hr : IsRange s.heap r a₀ b₀ 1 t₀ u₀ v₀) (hsmall : Builtin.Range.small a₀ b₀ 1 = true) (hsz : Builtin.Range.rangeSize a₀ b₀ 1 = (n : Int)) (F : Fr h₀ env.locals s.heap m₀) (N : News h₀ env.locals s.heap news) (hj : J 0 m₀ news)
    (turn : ∀ i (k : Int) t m₁ nx h tk own, i < n → k = a₀ + (i : Int) → OwnOff own (nx.map (·.1)) → J i m₁ nx → Fr h₀ env.locals h (fun y => if y = x then some (.int k t) else m₁ y) → News h₀ env.locals h (nx ++ own) →
      wpAny (model prog w) A (execs body env) (InvPostG h₀ env.locals (J (i + 1)) own { s with heap := h, toks := tk } Q) E { s with heap := h, toks := tk })
    (done : ∀ m₁ nx h tk, J n m₁ nx → Fr h₀ env.locals h m₁ → News h₀ env.locals h nx → Q .next { s with heap := h, toks := tk }) :
    wpAny (model prog w) A (pyIter (.ref r)) (fun it s₂ => LoopAtV prog w A h₀ env x body Q E it s₂) E s := by
  refine wpAny_pyIter_range hr hsmall ?_
  have W : Walks prog w A s.heap.objs.size [s.heap.objs.size] [s.heap.objs.size] n (fun i v => i < n ∧ ∃ t, v = .int (a₀ + i * 1) t)
      (fun i h => IsRangeIter h s.heap.objs.size (a₀ + (i : Nat) * 1) ((n : Int) - (i : Nat)) 1) := (Walks.range hh _ a₀ 1 n).bound
  refine kdr_loop J W (fun _ h => h) (fun _ h => h) ?_ ?_ ?_ ?_ (by show IsRangeIter _ _ _ _ _; rw [hsz]; simpa using Heap.get?_push_size _ rfl) (F.push _) (fun p hp => ⟨Heap.get?_push_of_some _ (N p hp).1, (N p hp).2⟩) hj ?_ done
  · intro i h hi b hb
    rw [List.mem_singleton.mp hb]
    exact ⟨_, hi⟩
  · intro hm
    exact absurd F.ns.lt ((List.mem_singleton.mp hm) ▸ Nat.lt_irrefl _)
  · intro b hb
    rw [List.mem_singleton.mp hb]
    exact next_is_new F
  · intro p hp hI
    exact absurd (Heap.lt_size (N p hp).1) ((List.mem_singleton.mp hI) ▸ Nat.lt_irrefl _)
  · rintro i v m₁ nx h tk own hi ⟨_, t, rfl⟩ ho hJ F₁ N₁
    refine turn i _ t m₁ nx h tk own hi ?_ ho hJ F₁ N₁
    omega
end
end Mine
namespace Mine
theorem use {w : World} {p : Program} {loose : List Str} {mg mb : Str → Option Value} {f : Addr} {args : List Value} {need news : List (Addr × Obj)} {d u : Nat} {Post : Value → Heap → Heap → Prop} (S : Spec w p loose mg mb f args need d u Post)
    {dp un : Nat} {gd : Option (List Code)} {cn : Str} {cs : Scope} {a : Addr} {ccd : Value} {cl : List (Str × Addr)} {outer : List Env} {A₀ : Around} {base h₀ : Heap} {L : Addr} {m : Str → Option Value} {s : Shared} {Q E : Value → Shared → Prop}
    (B : Below A₀ base outer h₀) (F : Fr h₀ L s.heap m) (X : (hd.heap_39 w.params).In h₀) (N : News h₀ L s.heap news) (hs : ∀ q ∈ need, q ∈ news) (T : TopRead p loose mg mb h₀) (hk : cs.kind = .function) (hd : dp + d < recursionLimit) (hu : un + u < cLine)
    (h : ∀ r h' tk', Fr h₀ L h' m → News h₀ L h' news → s.heap.StaysIn h' → Post r s.heap h' → Q r { s with heap := h', toks := tk' }) :
    wpAny (model PySem.Challenge.rw_mj0163_01.prog w) (ktrTop dp un gd cn cs L a ccd cl outer) (call (.ref f) args) Q E s :=
  S dp un gd cn cs a ccd cl outer A₀ base h₀ L m s Q E B F X (news_sub N hs) T hk hd hu fun r h' tk' st po => h r h' tk' (fr_stays F st) (news_stays N st) st po
structure Row where
  a : Addr
  i : Int
  j : Int
  k : Int
  ti : Tok
  tj : Tok
  tk : Tok
def Row.obj (r : Row) : Addr × Obj := (r.a, tupOf [.int r.i r.ti, .int r.j r.tj, .int r.k r.tk])
def Row.ref (r : Row) : Value := .ref r.a
def Row.val (r : Row) : Int × Int × Int := (r.i, r.j, r.k)
end Mine
namespace Mine
theorem allLt_all {d : Nat} : ∀ {l : List (Addr × Obj)}, AllLt d l → ∀ q ∈ l, q.1 < d
  | [], _ => fun _ h => nomatch h
  | p :: l, h => fun q hq => by
    rcases List.mem_cons.mp hq with rfl | hq
    · exact h.1
    · exact allLt_all h.2 q hq
theorem new1 {h0 g h' : Heap} {L' : Addr} {need news' objs : List (Addr × Obj)} (hg : Hid h0 need g) (N' : News g L' h' news') (hs : ∀ q ∈ objs, q ∈ news') (hn : ∀ q ∈ objs, ∀ r ∈ need, r.1 ≠ q.1) : New h0 h' objs := fun q hq => by
  refine ⟨?_, (N' q (hs q hq)).1⟩
  cases e : h0.get? q.1 with
  | none => rfl
  | some o =>
    have := hg _ _ e fun hm => by
      obtain ⟨r, hr, e'⟩ := List.mem_map.mp hm
      exact hn q hq r hr e'
    rw [(N' q (hs q hq)).2.2] at this; cases this
end Mine

namespace Mine
def splitdocL (doc : Str) : Str × Str :=
  match Txt.split (Txt.strip doc) (Str.ofString "\n") with
  | [] => (Str.ofString "", Str.ofString "")
  | [a] => (a, Str.ofString "")
  | a :: b :: r => if (Txt.rstrip b).length = 0 then (a, Txt.join (Str.ofString "\n") r) else (Str.ofString "", Txt.join (Str.ofString "\n") (a :: b :: r))

section

theorem splitdoc_e1 {doc x : Str} (e : [x] = Txt.split (Txt.strip doc) (Str.ofString "\n")) : splitdocL doc = (x, Str.ofString "") := by
  unfold splitdocL; rw [← e]
theorem splitdoc_e2 {doc x y : Str} {r : List Str} (e : x :: y :: r = Txt.split (Txt.strip doc) (Str.ofString "\n")) (h : ((Txt.rstrip y).length : Int) = 0) : splitdocL doc = (x, Txt.join (Str.ofString "\n") r) := by
  unfold splitdocL; rw [← e]; exact if_pos (by omega)
theorem splitdoc_e3 {doc x y : Str} {r : List Str} (e : x :: y :: r = Txt.split (Txt.strip doc) (Str.ofString "\n")) (h : ((Txt.rstrip y).length : Int) ≠ 0) : splitdocL doc = (Str.ofString "", Txt.join (Str.ofString "\n") (x :: y :: r)) := by
  unfold splitdocL; rw [← e]; exact if_neg (by omega)
theorem splitdoc_end {doc a b : Str} {t1 t2 : Tok} {s : Shared} {g h' : Heap} {L L' : Addr} {h₀ : Heap} {m' : Str → Option Value} {D : Addr} {rest : List (Addr × Obj)} (e : splitdocL doc = (a, b)) (hg : Hid s.heap [] g) (N : News h₀ L s.heap []) (F' : Fr g L' h' m')
    (N' : News g L' h' ((D, { cls := .type "tuple", data := .seq #[.str a t1, .str b t2] }) :: rest)) : s.heap.StaysIn h' ∧ ∃ D' t1 t2, Value.ref D = .ref D' ∧ s.heap.get? D' = none ∧ h'.get? D' = some (tupOf [.str (splitdocL doc).1 t1, .str (splitdocL doc).2 t2]) := by
  refine ⟨back hg N F' N' (fun _ h => nomatch h), D, t1, t2, rfl, fresh_of hg N' (.head _) (fun _ h => nomatch h), ?_⟩
  rw [e]
  exact (N' _ (.head _)).1

theorem splitdoc_spec {w : World} {p : Program} {loose : List Str} {mg mb : Str → Option Value} (doc : Str) (tk : Tok) (hlen : doc.length ≤ 100000) :
    Spec w p loose mg mb 28 [.str doc tk] [] 1 8 (fun r h h' => ∃ D t1 t2, r = .ref D ∧ h.get? D = none ∧ h'.get? D = some (tupOf [.str (splitdocL doc).1 t1, .str (splitdocL doc).2 t2])) := by
  unfold Spec; k_fill
  intro dp un gd cn cs a ccd cl outer A₀ base h₀ L m s Q E B F X N T hk hdp hun hret
  refine wpAny_call ?_
  k_dflt (refine' enter (binds := [(Str.ofString "doc", .str doc tk)]) ?k1 ?k2 ?k3 ?k4 ?k5 ?kA ?kF ?kK ?k6 ?k7 ?k8 ?k9 ?kB ?_ ?c2 ?c3 ?c4 ?c5; (case kA => exact rfl); (case kF => exact rfl); (case kK => assumption); (case k1 => k_asm); (case k2 => k_asm); (case k3 => k_asm); (case k4 => k_asm); (case k5 => k_asm); (case k6 => k_is); (case k7 => k_is); (case k8 => ktr_room); (case k9 => exact BindsTo.of_eq rfl); (case c5 => decide); (case kB => exact locs rfl); (case c2 => exact rfl); (case c3 => exact rfl); (case c4 => exact rfl); k_whole)
  intro g' L' h' hg' F' N' B' X' T' l0'
  dsimp only
  repeat' (first | ((with_reducible show wpAny _ _ (call (Value.builtin "str.split") _) _ _ _); (with_reducible show wpAny _ _ (call (Value.builtin "str.split") [Value.str _ _, Value.str _ _]) _ _ _); (refine KSpl.split1 (by k_asm) (by k_asm) (by decide) ?_ (by rw [sizeLine_eq]; omega)); intro D' l' h' k' e' a' F' N' l1; clear l1 a'; (have hw' := split_facts e' (by decide)); (rcases l' with _ | ⟨⟨x1', t1'⟩, _ | ⟨⟨x2', t2'⟩, l2'⟩⟩) <;> (simp only [strValues, List.map_cons, List.map_nil, List.sum_cons, List.sum_nil, List.length_cons, List.length_nil] at N' e' hw') <;> (try (exfalso; omega))) | ((with_reducible show wpAny _ _ (call (Value.builtin "len") _) _ _ _); (with_reducible show wpAny _ _ (call (Value.builtin "len") [Value.ref _]) _ _ _); (refine len_L (by k_asm) (by k_mem) (by (simp only [List.length_cons, List.length_nil, List.length_map]); exact rfl) (by omega) ?_); intro t' k') | ((with_reducible show wpAny _ _ (subscriptTail _ _ (Value.ref _) (Value.int _ _)) _ _ _); (with_reducible show wpAny _ _ (subscriptTail _ _ (Value.ref _) (Value.int _ _)) _ _ _); (refine item_L (by k_asm) (by k_mem) (by decide) (by decide) (by rfl) ?_ (by with_unfolding_all rfl)); k_whole) | ((with_reducible show wpAny _ _ (call (Value.builtin "str.rstrip") _) _ _ _); (refine SC.rstrip ?_ (by rw [sizeLine_eq]; omega)); intro t' k') | ((with_reducible show wpAny _ _ (subscriptTail _ _ (Value.ref _) (Value.ref _)) _ _ _); (refine slice_L (k := 2) (by k_asm) (by k_asm) (by k_mem) (by (simp only [List.length_cons, List.length_nil, List.length_map]); omega) rfl ?_ (by with_unfolding_all rfl) (by intro _; with_unfolding_all rfl)); (intro D' h' F' N' l1); clear l1) | ((with_reducible show wpAny _ _ (call (Value.builtin "str.join") _) _ _ _); k_dflt (first | (refine join_L (l := (_, _) :: (_, _) :: _) (by k_asm) (by k_mem) rfl ?_ ?_) | (refine join_L (l := _) (by k_asm) (by k_mem) rfl ?_ ?_)) <;> first | (intro t' k') | ((simp only [List.map_cons, List.sum_cons, List.length_cons, List.length_map, show (Str.ofString "\n").length = 1 from by decide]); omega)) | (k_unfold; (try dsimp only)) | walk1 | (dsimp only; walk1))
  all_goals first | (exfalso; omega) | skip
  · obtain ⟨z1, z2⟩ := splitdoc_end (splitdoc_e1 (by assumption)) hg' N (by assumption) (by assumption)
    exact hret _ _ _ z1 z2
  · obtain ⟨z1, z2⟩ := splitdoc_end (splitdoc_e3 (by assumption) (by assumption)) hg' N (by assumption) (by assumption)
    exact hret _ _ _ z1 z2
  · obtain ⟨z1, z2⟩ := splitdoc_end (splitdoc_e2 (by assumption) (by assumption)) hg' N (by assumption) (by assumption)
    exact hret _ _ _ z1 z2
end
end Mine

namespace Mine
def replL (text p1 q1 p2 q2 : Str) : Str := Txt.join q2 (Txt.split (Txt.join q1 (Txt.split text p1)) p2)

section

theorem replace_spec {w : World} {p : Program} {loose : List Str} {mg mb : Str → Option Value} (text p1 q1 p2 q2 : Str) (t t1 t2 t3 t4 : Tok) (hlen : text.length ≤ 10000) (h1 : (p1.length == 0) = false) (h2 : (p2.length == 0) = false) (h3 : q1.length ≤ 10) (h4 : q2.length ≤ 10) :
    Spec w p loose mg mb 35 [.str text t, .str p1 t1, .str q1 t2, .str p2 t3, .str q2 t4] [] 1 8 (fun r h h' => ∃ t', r = .str (replL text p1 q1 p2 q2) t') := by
  unfold Spec; k_fill
  intro dp un gd cn cs a ccd cl outer A₀ base h₀ L m s Q E B F X N T hk hdp hun hret
  refine wpAny_call ?_
  k_dflt (refine' enterV (vs := [.str p1 t1, .str q1 t2, .str p2 t3, .str q2 t4]) (bv := fun x => [(Str.ofString "text", .str text t), (Str.ofString "pairs", x)]) ?k1 ?k2 ?k3 ?k4 ?k5 ?kA ?kF ?kK ?k6 ?k7 ?k8 ?k9 ?kZ ?kB ?_ ?c2 ?c3 ?c4 ?c5; (case kA => exact rfl); (case kF => exact rfl); (case kK => assumption); (case k1 => k_asm); (case k2 => k_asm); (case k3 => k_asm); (case k4 => k_asm); (case k5 => k_asm); (case k6 => k_is); (case k7 => k_is); (case k8 => ktr_room); (case k9 => exact rfl); (case c5 => decide); (case kZ => exact Nat.le_of_ble_eq_true rfl); (case kB => exact fun _ => locs rfl); (case c2 => exact rfl); (case c3 => exact rfl); (case c4 => exact rfl); k_whole)
  intro D g' L' h' tk' hg' hD' F' N' B' X' T'
  dsimp only
  have z1 := join_split_len text p1 q1 h1 h3
  have z2 := join_split_len (Txt.join q1 (Txt.split text p1)) p2 q2 h2 h4
  repeat' (first | ((with_reducible show wpAny _ _ (call (Value.builtin "str.split") _) _ _ _); (with_reducible show wpAny _ _ (call (Value.builtin "str.split") [Value.str _ _, Value.str _ _]) _ _ _); (refine KSpl.split1 (by k_asm) (by k_asm) (by assumption) ?_ (by rw [sizeLine_eq]; omega)); intro D' l' h' k' e' a' F' N' l1; clear a'; (try k_lt l1)) | ((with_reducible show wpAny _ _ (call (Value.builtin "str.join") _) _ _ _); k_dflt (refine join_L (by k_asm) (by k_mem) (by assumption) ?_ ?_) <;> first | (intro t' k') | omega) | ((with_reducible show wpAny _ _ (subscriptTail _ _ (Value.ref _) (Value.ref _)) _ _ _); (refine slice_T (k := 2) (by k_asm) (by k_asm) (by k_mem) (by decide) (by (simp only [List.length_cons, List.length_nil]); decide) (by (simp only [List.length_cons, List.length_nil]); decide) (by (simp only [List.drop_succ_cons, List.drop_zero]); exact rfl) ?_ (by with_unfolding_all rfl) (by intro _; with_unfolding_all rfl)); (intro D' h' F' N' l1); (try k_lt l1)) | (k_unfold; (try dsimp only)) | walk1 | (dsimp only; walk1))
  exact hret _ _ _ (back hg' N (by assumption) (by assumption) (fun _ h => nomatch h)) ⟨_, rfl⟩
end
end Mine

namespace Mine
structure WS where
  b : Nat
  n : Nat
  nt : Nat
  count : List Int
def wsPad (count : List Int) (b : Nat) : List Int := if count.length ≤ b then count ++ List.replicate (b - count.length + 1) 0 else count
def wsTab (st : WS) : WS := ⟨0, st.n + 1, st.nt + 1, (wsPad st.count st.b).set st.b ((wsPad st.count st.b).getD st.b 0 + 1)⟩
def wsBlank (st : WS) : WS := ⟨st.b + 1, st.n + 1, st.nt, st.count⟩
def wsGo : List Nat → WS → WS
  | [], st => st
  | c :: r, st => if c = 32 then wsGo r (wsBlank st) else if c = 9 then wsGo r (wsTab st) else st
def wsOf (ws : Str) : WS := wsGo ws.cps.toList ⟨0, 0, 0, []⟩
def WsOk (i : Nat) (st : WS) : Prop := st.b ≤ i ∧ st.n ≤ i ∧ st.nt ≤ i ∧ st.count.length ≤ i + 1 ∧ ∀ c ∈ st.count, 0 ≤ c ∧ c ≤ (i : Int)
theorem wsOk_blank {i : Nat} {st : WS} (h : WsOk i st) : WsOk (i + 1) (wsBlank st) := by
  obtain ⟨h1, h2, h3, h4, h5⟩ := h
  refine ⟨by show st.b + 1 ≤ _; omega, by show st.n + 1 ≤ _; omega, by show st.nt ≤ _; omega, by show st.count.length ≤ _; omega, fun c hc => ?_⟩
  have := h5 c hc
  omega
theorem wsPad_mem {count : List Int} {b : Nat} {i : Nat} (h : ∀ c ∈ count, 0 ≤ c ∧ c ≤ (i : Int)) : ∀ c ∈ wsPad count b, 0 ≤ c ∧ c ≤ (i : Int) := by
  intro c hc
  unfold wsPad at hc
  split at hc
  · rcases List.mem_append.mp hc with hc | hc
    · exact h c hc
    · have := (List.mem_replicate.mp hc).2
      omega
  · exact h c hc
theorem wsPad_len {count : List Int} {b i : Nat} (h1 : b ≤ i) (h2 : count.length ≤ i + 1) : (wsPad count b).length ≤ i + 1 ∧ b < (wsPad count b).length := by
  unfold wsPad
  split
  · rw [List.length_append, List.length_replicate]; omega
  · omega
theorem wsOk_tab {i : Nat} {st : WS} (h : WsOk i st) : WsOk (i + 1) (wsTab st) := by
  obtain ⟨h1, h2, h3, h4, h5⟩ := h
  have hl := wsPad_len h1 h4
  have hm := wsPad_mem (b := st.b) h5
  refine ⟨by show 0 ≤ _; omega, by show st.n + 1 ≤ _; omega, by show st.nt + 1 ≤ _; omega, ?_, fun c hc => ?_⟩
  · show ((wsPad st.count st.b).set st.b _).length ≤ _
    rw [List.length_set]; omega
  · have hc' : c ∈ (wsPad st.count st.b).set st.b ((wsPad st.count st.b).getD st.b 0 + 1) := hc
    rcases List.mem_or_eq_of_mem_set hc' with hc | hc
    · have := hm c hc; omega
    · have e : (wsPad st.count st.b).getD st.b 0 ∈ wsPad st.count st.b := by
        rw [List.getD_eq_getElem?_getD, List.getElem?_eq_getElem hl.2]; exact List.getElem_mem _
      have := hm _ e; omega

def rawEs (w : World) (ws : Str) (tw tr : Tok) : List DictEntry := [{ hash := PyData.keyHash w.params (Str.ofString "raw"), key := Value.str (Str.ofString "raw") tr, val := Value.str ws tw }]
def WsJ (w : World) (ws : Str) (tw : Tok) (x dx : Addr) (i : Nat) (m : Str → Option Value) (nx : List (Addr × Obj)) : Prop :=
  ∃ (st : WS) (lc : Addr) (vs : List Value) (ep : Nat) (tb tn tt ts tT tr : Tok),
    Has m [(Str.ofString "self", .ref x), (Str.ofString "S", .str (Str.ofString " ") ts), (Str.ofString "T", .str (Str.ofString "\t") tT), (Str.ofString "count", .ref lc), (Str.ofString "b", .int st.b tb), (Str.ofString "n", .int st.n tn), (Str.ofString "nt", .int st.nt tt)] ∧
    nx = [(lc, listOf vs.toArray ep), (x, instObj 97 dx), (dx, dictOf (rawEs w ws tw tr) 1)] ∧ IntsAre vs st.count ∧ lc ≠ x ∧ lc ≠ dx ∧ wsGo (ws.cps.toList.drop i) st = wsOf ws ∧ WsOk i st
def WsE (w : World) (ws : Str) (tw : Tok) (x dx : Addr) (m : Str → Option Value) (nx : List (Addr × Obj)) : Prop :=
  ∃ (lc : Addr) (vs : List Value) (ep : Nat) (tb tn tt tr : Tok),
    Has m [(Str.ofString "self", .ref x), (Str.ofString "count", .ref lc), (Str.ofString "b", .int (wsOf ws).b tb), (Str.ofString "n", .int (wsOf ws).n tn), (Str.ofString "nt", .int (wsOf ws).nt tt)] ∧
    nx = [(lc, listOf vs.toArray ep), (x, instObj 97 dx), (dx, dictOf (rawEs w ws tw tr) 1)] ∧ IntsAre vs (wsOf ws).count ∧ lc ≠ x ∧ lc ≠ dx

theorem rep_flat (k : Nat) (a : Int) : (List.replicate k [a]).flatten = List.replicate k a := by
  induction k with
  | zero => rfl
  | succ k ih => rw [List.replicate_succ, List.flatten_cons, ih]; rfl
theorem wsTab_pad {st : WS} (h : (st.count.length : Int) ≤ (st.b : Int)) : (st.count ++ (List.replicate ((st.b : Int) - (st.count.length : Int) + 1).toNat [(0 : Int)]).flatten).set (st.b : Int).toNat
    ((st.count ++ (List.replicate ((st.b : Int) - (st.count.length : Int) + 1).toNat [(0 : Int)]).flatten).getD (st.b : Int).toNat 0 + 1) = (wsTab st).count := by
  have e1 : ((st.b : Int) - (st.count.length : Int) + 1).toNat = st.b - st.count.length + 1 := by omega
  rw [rep_flat, e1, Int.toNat_natCast]
  show _ = (wsPad st.count st.b).set st.b ((wsPad st.count st.b).getD st.b 0 + 1)
  unfold wsPad
  rw [if_pos (by omega)]
theorem wsTab_in {st : WS} (h : ¬ (st.count.length : Int) ≤ (st.b : Int)) : st.count.set (st.b : Int).toNat (st.count.getD (st.b : Int).toNat 0 + 1) = (wsTab st).count := by
  rw [Int.toNat_natCast]
  show _ = (wsPad st.count st.b).set st.b ((wsPad st.count st.b).getD st.b 0 + 1)
  unfold wsPad
  rw [if_neg (by omega)]
theorem ws_end {w : World} {ws : Str} {tw : Tok} {x dx : Addr} {i : Nat} {g h' : Heap} {L : Addr} {m' : Str → Option Value} {news' own : List (Addr × Obj)} {s₁ : Shared} {tk : Nat} (st : WS) {lc : Addr} {vs : List Value} {ns : List Int} {ep : Nat} {tb tn tt ts tT tr : Tok} {B N₀ T₀ : Int}
    (F : Fr g L h' m') (N : News g L h' news')
    (hm : Has m' [(Str.ofString "self", .ref x), (Str.ofString "S", .str (Str.ofString " ") ts), (Str.ofString "T", .str (Str.ofString "\t") tT), (Str.ofString "count", .ref lc), (Str.ofString "b", .int B tb), (Str.ofString "n", .int N₀ tn), (Str.ofString "nt", .int T₀ tt)])
    (hB : B = st.b) (hN : N₀ = st.n) (hT : T₀ = st.nt) (hi : IntsAre vs ns) (hc : ns = st.count)
    (q1 : (lc, listOf vs.toArray ep) ∈ news') (q2 : (x, instObj 97 dx) ∈ news') (q3 : (dx, dictOf (rawEs w ws tw tr) 1) ∈ news') (qo : ∀ q ∈ own, q ∈ news') (n1 : lc ≠ x) (n2 : lc ≠ dx) (o1 : ∀ q ∈ own, q.1 ≠ lc) (o2 : ∀ q ∈ own, q.1 ≠ x) (o3 : ∀ q ∈ own, q.1 ≠ dx)
    (hgo : wsGo (ws.cps.toList.drop i) st = wsOf ws) (hok : WsOk i st) : InvEndG g L (WsJ w ws tw x dx i) own s₁ { s₁ with heap := h', toks := tk } := by
  subst hB hN hT hc
  refine InvEndG.intro (nx := [(lc, listOf vs.toArray ep), (x, instObj 97 dx), (dx, dictOf (rawEs w ws tw tr) 1)]) F N ⟨st, lc, vs, ep, tb, tn, tt, ts, tT, tr, hm, rfl, hi, n1, n2, hgo, hok⟩ ?_ ?_ qo
  · intro q hq b hb
    rcases List.mem_cons.mp hb with rfl | hb
    · exact o1 q hq
    · rcases List.mem_cons.mp hb with rfl | hb
      · exact o2 q hq
      · rw [List.mem_singleton.mp hb]; exact o3 q hq
  · intro q hq
    rcases List.mem_cons.mp hq with rfl | hq
    · exact q1
    · rcases List.mem_cons.mp hq with rfl | hq
      · exact q2
      · rw [List.mem_singleton.mp hq]; exact q3
theorem sign_ne {c k : Nat} (h : ¬ c = k) : ((⟨#[c]⟩ : Str) == ⟨#[k]⟩) = false := by
  rw [beq_eq_false_iff_ne]
  intro e
  have e' := congrArg (fun z : Str => z.cps.toList) e
  exact h (List.cons.inj e').1

theorem wsGo_ok : ∀ (l : List Nat) (st : WS) (i : Nat), WsOk i st → WsOk (i + l.length) (wsGo l st)
  | [], st, i, h => h
  | c :: r, st, i, h => by
    have up : ∀ {j : Nat} {s : WS}, i ≤ j → WsOk i s → WsOk j s := fun hij hs => ⟨by have := hs.1; omega, by have := hs.2.1; omega, by have := hs.2.2.1; omega, by have := hs.2.2.2.1; omega, fun c hc => by have := hs.2.2.2.2 c hc; omega⟩
    unfold wsGo
    rw [List.length_cons, show i + (r.length + 1) = (i + 1) + r.length by omega]
    split
    · exact wsGo_ok r _ _ (wsOk_blank h)
    · split
      · exact wsGo_ok r _ _ (wsOk_tab h)
      · exact up (by omega) h
theorem wsOf_ok (ws : Str) : WsOk ws.length (wsOf ws) := by
  have h := wsGo_ok ws.cps.toList ⟨0, 0, 0, []⟩ 0 (by simp [WsOk])
  rw [Nat.zero_add] at h
  exact h
/-- the objects of a Whitespace -/
def wsEs (w : World) (ws : Str) (Nn : Addr) (b : Bool) (tw t1 t2 t3 t4 t5 t6 t7 : Tok) : List DictEntry := [
  { hash := PyData.keyHash w.params (Str.ofString "raw"), key := Value.str (Str.ofString "raw") t1, val := Value.str ws tw },
  { hash := PyData.keyHash w.params (Str.ofString "n"), key := Value.str (Str.ofString "n") t2, val := Value.int (wsOf ws).n t3 },
  { hash := PyData.keyHash w.params (Str.ofString "nt"), key := Value.str (Str.ofString "nt") t4, val := Value.int (wsOf ws).nt t5 },
  { hash := PyData.keyHash w.params (Str.ofString "norm"), key := Value.str (Str.ofString "norm") t6, val := Value.ref Nn },
  { hash := PyData.keyHash w.params (Str.ofString "is_simple"), key := Value.str (Str.ofString "is_simple") t7, val := Value.bool b }]
def WsObjs (w : World) (ws : Str) (x : Addr) (objs : List (Addr × Obj)) : Prop :=
  ∃ dx Nn Cn vs b tw t1 t2 t3 t4 t5 t6 t7 t8, objs = [(x, instObj 97 dx), (dx, dictOf (wsEs w ws Nn b tw t1 t2 t3 t4 t5 t6 t7) 5), (Nn, tupOf [.ref Cn, .int (wsOf ws).b t8]), (Cn, tupOf vs)] ∧ IntsAre vs (wsOf ws).count

theorem ws_close {w : World} {ws : Str} {x dx D1 D2 : Addr} {ob : Addr × Obj} {vs : List Value} {b : Bool} {tw t1 t2 t3 t4 t5 t6 t7 t8 : Tok} {h0 h1 g h' : Heap} {L' : Addr} {news : List (Addr × Obj)} (hg : Hid h1 news g)
    (Nz : News g L' h' [(D1, tupOf [.ref D2, .int (wsOf ws).b t8]), (D2, tupOf vs), ob, (x, instObj 97 dx), (dx, dictOf (wsEs w ws D1 b tw t1 t2 t3 t4 t5 t6 t7) 5)]) (st : h0.StaysIn h1) (hn : ∀ q ∈ news, h0.get? q.1 = none) (hi : IntsAre vs (wsOf ws).count) :
    ∃ x' objs, Value.ref x = .ref x' ∧ WsObjs w ws x' objs ∧ New h0 h' objs := by
  refine ⟨x, _, rfl, ⟨dx, D1, D2, vs, b, tw, t1, t2, t3, t4, t5, t6, t7, t8, rfl, hi⟩, new2 hg Nz st hn ?_⟩
  intro q hq
  rcases List.mem_cons.mp hq with rfl | hq
  · k_mem
  · rcases List.mem_cons.mp hq with rfl | hq
    · k_mem
    · rcases List.mem_cons.mp hq with rfl | hq
      · k_mem
      · rw [List.mem_singleton.mp hq]; k_mem

section
theorem ws_spec {w : World} {p : Program} {loose : List Str} {mg mb : Str → Option Value} (ws : Str) (tw : Tok) (hlen : ws.length ≤ 10000) :
    Spec w p loose mg mb 97 [.str ws tw] [] 2 12 (fun r h h' => ∃ x objs, r = .ref x ∧ WsObjs w ws x objs ∧ New h h' objs) := by
  unfold Spec; k_fill
  intro dp un gd cn cs a ccd cl outer A₀ base h₀ L m s Q E B F X N T hk hdp hun hret
  k_dflt (refine' make_W ?k1 ?k2 ?k3 ?k4 ?k5 ?k6 ?_; (case k1 => k_asm); (case k2 => k_asm); (case k3 => k_asm); (case k4 => k_is); (case k5 => k_is); (case k6 => k_is); k_whole)
  intro x dx h1 st1 hx hdx lt1 F1 N1; k_lt2 lt1
  k_dflt (refine' enter (binds := [(Str.ofString "self", .ref x), (Str.ofString "ws", .str ws tw)]) ?k1 ?k2 ?k3 ?k4 ?k5 ?kA ?kF ?kK ?k6 ?k7 ?k8 ?k9 ?kB ?_ ?c2 ?c3 ?c4 ?c5; (case kA => exact rfl); (case kF => exact rfl); (case kK => assumption); (case k1 => k_asm); (case k2 => k_asm); (case k3 => k_asm); (case k4 => k_asm); (case k5 => k_asm); (case k6 => k_is); (case k7 => k_is); (case k8 => ktr_room); (case k9 => exact BindsTo.of_eq rfl); (case c5 => decide); (case kB => exact locs rfl); (case c2 => exact rfl); (case c3 => exact rfl); (case c4 => exact rfl); k_whole)
  intro g' L' h' hg' F' N' B' X' T' l0'
  dsimp only
  repeat' (first | (fail_if_success (with_reducible show wpAny _ _ (exec (Stmt.For _ _ _ _ _) _) _ _ _)); (first | ((with_reducible show wpAny _ _ (call (Value.type "tuple") _) _ _ _); k_dflt (refine tuple_L (by k_asm) (by k_asm) (by k_mem) (by omega) ?_); (intro D' h' F' N' l1); (try k_lt l1)) | (k_unfold; (try dsimp only)) | walk1 | (dsimp only; walk1)))
  refine cut (h₀ := g') (L := L') (WsE w ws tw x dx) ?_ ?_
  · walk1
    walk1
    walk1
    walk1
    rename Fr _ _ _ _ => Fz
    rename News _ _ _ _ => Nz
    refine loop_str (WsJ w ws tw x dx) rfl Fz (news_drop2 Nz) ?_ ?_ ?_
    · exact ⟨⟨0, 0, 0, []⟩, _, [], 0, _, _, _, _, _, _, ⟨rfl, rfl, rfl, rfl, rfl, rfl, rfl, trivial⟩, rfl, .nil, by k_ne, by k_ne, rfl, by simp [WsOk]⟩
    · rintro i c t m₁ nx h tk own hc ho ⟨st, lc, vs, ep, tb, tn, tt, ts, tT, tr, hm, rfl, hi, n1, n2, hgo, hok⟩ F₁ N₁
      rw [← ovr_eq hm] at F₁
      change Fr g' L' h _ at F₁
      change News g' L' h ((lc, listOf vs.toArray ep) :: (x, instObj 97 dx) :: (dx, dictOf (rawEs w ws tw tr) 1) :: own) at N₁
      clear Fz Nz hm
      obtain ⟨k1, k2, k3, k4, k5⟩ := id hok
      have hil : i < ws.cps.size := by
        rcases Nat.lt_or_ge i ws.cps.size with q | q
        · exact q
        · rw [Array.getElem?_eq_none q] at hc; cases hc
      have hsz : ws.cps.size ≤ 10000 := hlen
      have hdrop : ws.cps.toList.drop i = c :: ws.cps.toList.drop (i + 1) := by
        have e := List.getElem?_eq_some_iff.mp (show ws.cps.toList[i]? = some c by simpa using hc)
        obtain ⟨e1, e2⟩ := e
        rw [← e2]; exact (List.drop_eq_getElem_cons e1)
      rw [hdrop] at hgo
      have hvl := hi.length
      have o1 := OwnOff.ne ho (.head _)
      have o2 := OwnOff.ne ho (.tail _ (.head _))
      have o3 := OwnOff.ne ho (.tail _ (.tail _ (.head _)))
      replace n1 := neN n1
      replace n2 := neN n2
      by_cases c1 : c = 32
      · subst c1
        rw [show wsGo (32 :: ws.cps.toList.drop (i + 1)) st = wsGo (ws.cps.toList.drop (i + 1)) (wsBlank st) from rfl] at hgo
        repeat' (first | ((with_reducible show wpAny _ _ (call (Value.type "tuple") _) _ _ _); k_dflt (refine tuple_L (by k_asm) (by k_asm) (by k_mem) (by omega) ?_); (intro D' h' F' N' l1); (try k_lt l1)) | (k_unfold; (try dsimp only)) | walk1 | (dsimp only; walk1))
        exact ws_end (wsBlank st) (by assumption) (by assumption) ⟨rfl, rfl, rfl, rfl, rfl, rfl, rfl, trivial⟩ rfl rfl rfl hi rfl (by k_mem) (by k_mem) (by k_mem) (by intro q hq; simp only [List.mem_cons]; simp only [hq, or_true]) n1 n2 o1 o2 o3 hgo (wsOk_blank hok)
      · by_cases c2 : c = 9
        · subst c2
          rw [show wsGo (9 :: ws.cps.toList.drop (i + 1)) st = wsGo (ws.cps.toList.drop (i + 1)) (wsTab st) from rfl] at hgo
          repeat' (first | ((with_reducible show wpAny _ _ (call (Value.type "tuple") _) _ _ _); k_dflt (refine tuple_L (by k_asm) (by k_asm) (by k_mem) (by omega) ?_); (intro D' h' F' N' l1); (try k_lt l1)) | (k_unfold; (try dsimp only)) | walk1 | (dsimp only; walk1))
          · exact ws_end (wsTab st) (by assumption) (by assumption) ⟨rfl, rfl, rfl, rfl, rfl, rfl, rfl, trivial⟩ rfl rfl rfl (by assumption) (wsTab_pad (by assumption)) (by k_mem) (by k_mem) (by k_mem) (by intro q hq; simp only [List.mem_cons]; simp only [hq, or_true]) (by k_ne) (by k_ne) (by rename _ ∧ _ ∧ _ ∧ _ ∧ _ ∧ AllLt _ _ => lz; exact allLt_ne lz.2.2.2.2.2) o2 o3 hgo (wsOk_tab hok)
          · exact ws_end (wsTab st) (by assumption) (by assumption) ⟨rfl, rfl, rfl, rfl, rfl, rfl, rfl, trivial⟩ rfl rfl rfl (by assumption) (wsTab_in (by assumption)) (by k_mem) (by k_mem) (by k_mem) (by intro q hq; simp only [List.mem_cons]; simp only [hq, or_true]) n1 n2 o1 o2 o3 hgo (wsOk_tab hok)
        · have z1 : ((⟨#[c]⟩ : Str) == Str.ofString " ") = false := sign_ne c1
          have z2 : ((⟨#[c]⟩ : Str) == Str.ofString "\t") = false := sign_ne c2
          rw [show wsGo (c :: ws.cps.toList.drop (i + 1)) st = st from (if_neg c1).trans (if_neg c2)] at hgo
          subst hgo
          repeat' (first | ((with_reducible show wpAny _ _ (call (Value.type "tuple") _) _ _ _); k_dflt (refine tuple_L (by k_asm) (by k_asm) (by k_mem) (by omega) ?_); (intro D' h' F' N' l1); (try k_lt l1)) | (k_unfold; (try dsimp only)) | walk1 | (dsimp only; walk1))
          refine ⟨h, _, _, [(lc, listOf vs.toArray ep), (x, instObj 97 dx), (dx, dictOf (rawEs w ws tw tr) 1)], rfl, by assumption, news_sub (by assumption) (by intro q hq; rcases List.mem_cons.mp hq with rfl | hq; exact .head _; rcases List.mem_cons.mp hq with rfl | hq; exact .tail _ (.head _); rw [List.mem_singleton.mp hq]; exact .tail _ (.tail _ (.head _))), lc, vs, ep, tb, tn, tt, tr, ⟨rfl, rfl, rfl, rfl, rfl, trivial⟩, rfl, hi, n1, n2⟩
    · rintro m₁ nx h tk ⟨st, lc, vs, ep, tb, tn, tt, ts, tT, tr, hm, rfl, hi, n1, n2, hgo, hok⟩ F₁ N₁
      refine ⟨rfl, h, tk, m₁, _, rfl, F₁, N₁, ?_⟩
      rw [List.drop_of_length_le (by simp)] at hgo
      have e : st = wsOf ws := hgo
      subst e
      exact ⟨lc, vs, ep, tb, tn, tt, tr, ⟨hm.1, hm.2.2.2.1, hm.2.2.2.2.1, hm.2.2.2.2.2.1, hm.2.2.2.2.2.2.1, trivial⟩, rfl, hi, n1, n2⟩
  · rintro h tk m₁ nx F₁ N₁ ⟨lc, vs, ep, tb, tn, tt, tr, hm, rfl, hi, n1, n2⟩
    rw [← ovr_eq hm] at F₁
    unfold rawEs at N₁
    replace n1 := neN n1
    replace n2 := neN n2
    have hvl := hi.length
    have hcl : (wsOf ws).count.length ≤ 10001 := by have := (wsOf_ok ws).2.2.2.1; omega
    dsimp only
    repeat' (first | ((with_reducible show wpAny _ _ (call (Value.type "tuple") _) _ _ _); k_dflt (refine tuple_L (by k_asm) (by k_asm) (by k_mem) (by omega) ?_); (intro D' h' F' N' l1); (try k_lt l1)) | (k_unfold; (try dsimp only)) | walk1 | (dsimp only; walk1))
    rename Fr _ _ _ _ => Fz
    rename News _ _ _ _ => Nz
    have hn : ∀ q ∈ [(x, instObj 97 dx), (dx, dictOf [] 0)], s.heap.get? q.1 = none := by
      intro q hq
      rcases List.mem_cons.mp hq with rfl | hq
      · exact hx
      · rw [List.mem_singleton.mp hq]; exact hdx
    exact ⟨rfl, hret _ _ _ (back2 hg' Fz st1 hn) (ws_close hg' Nz st1 hn hi)⟩
end
end Mine

namespace Mine
def lrsL (st : WS) : Int := if (st.b : Int) > (st.count.length : Int) - 1 then st.b else (st.count.length : Int) - 1
theorem cast_eq {a b : Nat} (h : a = b) : (a : Int) = (b : Int) := by rw [h]
section
theorem lrs_spec {w : World} {p : Program} {loose : List Str} {mg mb : Str → Option Value} {ws : Str} (hlen : ws.length ≤ 10000) {x dx Nn Cn : Addr} {vs : List Value} {b : Bool} {tw t1 t2 t3 t4 t5 t6 t7 t8 : Tok} (hi : IntsAre vs (wsOf ws).count) :
    Spec w p loose mg mb 59 [.ref x] [(x, instObj 97 dx), (dx, dictOf (wsEs w ws Nn b tw t1 t2 t3 t4 t5 t6 t7) 5), (Nn, tupOf [.ref Cn, .int (wsOf ws).b t8]), (Cn, tupOf vs)] 1 8 (fun r h h' => ∃ t, r = .int (lrsL (wsOf ws)) t) := by
  unfold Spec; k_fill
  intro dp un gd cn cs a ccd cl outer A₀ base h₀ L m s Q E B F X N T hk hdp hun hret
  refine wpAny_call ?_
  k_dflt (refine' enter (binds := [(Str.ofString "self", .ref x)]) ?k1 ?k2 ?k3 ?k4 ?k5 ?kA ?kF ?kK ?k6 ?k7 ?k8 ?k9 ?kB ?_ ?c2 ?c3 ?c4 ?c5; (case kA => exact rfl); (case kF => exact rfl); (case kK => assumption); (case k1 => k_asm); (case k2 => k_asm); (case k3 => k_asm); (case k4 => k_asm); (case k5 => k_asm); (case k6 => k_is); (case k7 => k_is); (case k8 => ktr_room); (case k9 => exact BindsTo.of_eq rfl); (case c5 => decide); (case kB => exact locs rfl); (case c2 => exact rfl); (case c3 => exact rfl); (case c4 => exact rfl); k_whole)
  intro g' L' h' hg' F' N' B' X' T' l0'
  dsimp only
  unfold wsEs at N'
  have hvl := hi.length
  obtain ⟨ok1, ok2, ok3, ok4, ok5⟩ := wsOf_ok ws
  repeat' (first | ((with_reducible show wpAny _ _ (call (Value.builtin "len") _) _ _ _); k_dflt (refine len_T (by k_asm) (by k_mem) (cast_eq (by assumption)) (by omega) ?_); intro t' k') | (k_unfold; (try dsimp only)) | walk1 | (dsimp only; walk1))
  exact hret _ _ _ (back hg' N (by assumption) (by assumption) (fun _ h => h)) ⟨_, rfl⟩

def ilPart (st : WS) (ts : Int) (i : Nat) : Int := ((List.range i).map fun (j : Nat) => Int.fdiv (ts + (j : Int)) ts * st.count.getD (ts + (j : Int)).toNat 0).sum
def ilL (st : WS) (ts : Int) : Int := st.b + ts * (ilPart st ts (st.count.length - ts.toNat) + st.nt)
def IlJ (x Cn : Addr) (st : WS) (ts : Int) (objs : List (Addr × Obj)) (i : Nat) (m : Str → Option Value) (nx : List (Addr × Obj)) : Prop :=
  ∃ (t1 t2 t3 : Tok), Has m [(Str.ofString "self", .ref x), (Str.ofString "tabsize", .int ts t1), (Str.ofString "count", .ref Cn), (Str.ofString "trailing", .int st.b t2), (Str.ofString "il", .int (ilPart st ts i) t3)] ∧ nx = objs
theorem rangeSize_one {a b : Int} (h : 0 ≤ a) (hb : 0 ≤ b) : Builtin.Range.rangeSize a b 1 = ((b.toNat - a.toNat : Nat) : Int) := by
  unfold Builtin.Range.rangeSize
  rw [if_pos (by decide)]
  split <;> omega
theorem ilPart_succ (st : WS) (ts : Int) (i : Nat) : ilPart st ts (i + 1) = ilPart st ts i + Int.fdiv (ts + (i : Int)) ts * st.count.getD (ts + (i : Int)).toNat 0 := by
  unfold ilPart
  rw [List.range_succ, List.map_append, List.sum_append]
  simp
theorem il_end {x Cn : Addr} {st : WS} {ts : Int} {objs own news' : List (Addr × Obj)} {i : Nat} {g h' : Heap} {L : Addr} {m' : Str → Option Value} {s₁ : Shared} {tk : Nat} {t1 t2 t3 : Tok} {IL : Int}
    (F : Fr g L h' m') (N : News g L h' news') (hm : Has m' [(Str.ofString "self", .ref x), (Str.ofString "tabsize", .int ts t1), (Str.ofString "count", .ref Cn), (Str.ofString "trailing", .int st.b t2), (Str.ofString "il", .int IL t3)])
    (e : IL = ilPart st ts i) (ho : OwnOff own (objs.map (·.1))) (hs : ∀ q ∈ objs ++ own, q ∈ news') : InvEndG g L (IlJ x Cn st ts objs i) own s₁ { s₁ with heap := h', toks := tk } := by
  subst e
  exact InvEndG.intro F N ⟨t1, t2, t3, hm, rfl⟩ ho (fun q hq => hs q (List.mem_append_left _ hq)) fun q hq => hs q (List.mem_append_right _ hq)
theorem il_spec {w : World} {p : Program} {loose : List Str} {mg mb : Str → Option Value} {ws : Str} (hlen : ws.length ≤ 10000) {x dx Nn Cn : Addr} {vs : List Value} {b : Bool} {tw t1 t2 t3 t4 t5 t6 t7 t8 : Tok} (hi : IntsAre vs (wsOf ws).count) (ts : Int) (tt : Tok) (h1 : 1 ≤ ts) (h2 : ts ≤ 10000) :
    Spec w p loose mg mb 66 [.ref x, .int ts tt] [(x, instObj 97 dx), (dx, dictOf (wsEs w ws Nn b tw t1 t2 t3 t4 t5 t6 t7) 5), (Nn, tupOf [.ref Cn, .int (wsOf ws).b t8]), (Cn, tupOf vs)] 1 8 (fun r h h' => ∃ t, r = .int (ilL (wsOf ws) ts) t) := by
  unfold Spec; k_fill
  intro dp un gd cn cs a ccd cl outer A₀ base h₀ L m s Q E B F X N T hk hdp hun hret
  refine wpAny_call ?_
  k_dflt (refine' enter (binds := [(Str.ofString "self", .ref x), (Str.ofString "tabsize", .int ts tt)]) ?k1 ?k2 ?k3 ?k4 ?k5 ?kA ?kF ?kK ?k6 ?k7 ?k8 ?k9 ?kB ?_ ?c2 ?c3 ?c4 ?c5; (case kA => exact rfl); (case kF => exact rfl); (case kK => assumption); (case k1 => k_asm); (case k2 => k_asm); (case k3 => k_asm); (case k4 => k_asm); (case k5 => k_asm); (case k6 => k_is); (case k7 => k_is); (case k8 => ktr_room); (case k9 => exact BindsTo.of_eq rfl); (case c5 => decide); (case kB => exact locs rfl); (case c2 => exact rfl); (case c3 => exact rfl); (case c4 => exact rfl); k_whole)
  intro g' L' h' hg' F' N' B' X' T' l0'
  dsimp only
  unfold wsEs at N'
  have hvl := hi.length
  obtain ⟨ok1, ok2, ok3, ok4, ok5⟩ := wsOf_ok ws
  repeat' (first | (fail_if_success (with_reducible show wpAny _ _ (exec (Stmt.For _ _ _ _ _) _) _ _ _)); (first | ((with_reducible show wpAny _ _ (call (Value.builtin "len") _) _ _ _); k_dflt (refine len_T (by k_asm) (by k_mem) (cast_eq (by assumption)) (by omega) ?_); intro t' k') | (k_unfold; (try dsimp only)) | walk1 | (dsimp only; walk1)))
  repeat' (first | (fail_if_success (with_reducible show wpAny _ _ (pyIter _) _ _ _)); (first | ((with_reducible show wpAny _ _ (call (Value.builtin "len") _) _ _ _); k_dflt (refine len_T (by k_asm) (by k_mem) (cast_eq (by assumption)) (by omega) ?_); intro t' k') | (k_unfold; (try dsimp only)) | walk1 | (dsimp only; walk1)))
  refine loop_range (IlJ x Cn (wsOf ws) ts [(x, instObj 97 dx), (dx, dictOf (wsEs w ws Nn b tw t1 t2 t3 t4 t5 t6 t7) 5), (Nn, tupOf [.ref Cn, .int (wsOf ws).b t8]), (Cn, tupOf vs)]) rfl (by assumption) (small_one (by omega) (by omega) (by omega) (by omega)) (rangeSize_one (by omega) (by omega)) (by assumption) (by assumption) ⟨_, _, _, ⟨rfl, rfl, rfl, rfl, rfl, trivial⟩, rfl⟩ ?_ ?_
  · rintro i k t m₁ nx h tk own hin hk1 ho ⟨u1, u2, u3, hm, rfl⟩ F₁ N₁
    rw [← ovr_eq hm] at F₁
    change Fr g' L' h _ at F₁
    change News g' L' h ((x, instObj 97 dx) :: (dx, dictOf (wsEs w ws Nn b tw t1 t2 t3 t4 t5 t6 t7) 5) :: (Nn, tupOf [.ref Cn, .int (wsOf ws).b t8]) :: (Cn, tupOf vs) :: own) at N₁
    rw [Int.toNat_natCast] at hin
    have hq : 0 ≤ k.fdiv ts ∧ k.fdiv ts ≤ 30000 := by
      rw [Int.fdiv_eq_ediv_of_nonneg _ (by omega)]
      have z1 := Int.ediv_nonneg (show 0 ≤ k by omega) (show 0 ≤ ts by omega)
      have z2 := Int.ediv_le_self ts (show 0 ≤ k by omega)
      omega
    repeat' (first | ((with_reducible show wpAny _ _ (call (Value.builtin "len") _) _ _ _); k_dflt (refine len_T (by k_asm) (by k_mem) (cast_eq (by assumption)) (by omega) ?_); intro t' k') | (k_unfold; (try dsimp only)) | walk1 | (dsimp only; walk1))
    exact il_end (by assumption) (by assumption) ⟨rfl, rfl, rfl, rfl, rfl, trivial⟩ (by rw [ilPart_succ, ← hk1]) ho (fun _ h => h)
  · rintro m₁ nx h tk ⟨u1, u2, u3, hm, rfl⟩ F₁ N₁
    rw [← ovr_eq hm] at F₁
    change Fr g' L' h _ at F₁
    change News g' L' h _ at N₁
    unfold wsEs at N₁
    rw [Int.toNat_natCast] at F₁
    repeat' (first | ((with_reducible show wpAny _ _ (call (Value.builtin "len") _) _ _ _); k_dflt (refine len_T (by k_asm) (by k_mem) (cast_eq (by assumption)) (by omega) ?_); intro t' k') | (k_unfold; (try dsimp only)) | walk1 | (dsimp only; walk1))
    exact hret _ _ _ (back hg' N (by assumption) (by assumption) (fun _ h => h)) ⟨_, rfl⟩
end
end Mine

namespace Mine
def topL (s1 s2 : WS) : Int := (if lrsL s2 > lrsL s1 then lrsL s2 else lrsL s1) + 1
def witAll (s1 s2 : WS) (i : Nat) : List (Int × Int × Int) := (List.range i).map fun (j : Nat) => (1 + (j : Int), ilL s1 (1 + (j : Int)), ilL s2 (1 + (j : Int)))
def nlL (s1 s2 : WS) (i : Nat) : List (Int × Int × Int) := (witAll s1 s2 i).filter fun t => decide (t.2.1 ≥ t.2.2)
def neL (s1 s2 : WS) (i : Nat) : List (Int × Int × Int) := (witAll s1 s2 i).filter fun t => decide (t.2.1 ≠ t.2.2)
theorem witAll_succ (s1 s2 : WS) (i : Nat) : witAll s1 s2 (i + 1) = witAll s1 s2 i ++ [(1 + (i : Int), ilL s1 (1 + (i : Int)), ilL s2 (1 + (i : Int)))] := by
  unfold witAll
  rw [List.range_succ, List.map_append]; rfl
theorem nl_yes {s1 s2 : WS} {i : Nat} (h : ilL s1 (1 + (i : Int)) ≥ ilL s2 (1 + (i : Int))) : nlL s1 s2 (i + 1) = nlL s1 s2 i ++ [(1 + (i : Int), ilL s1 (1 + (i : Int)), ilL s2 (1 + (i : Int)))] := by
  unfold nlL; rw [witAll_succ, List.filter_append]; simp [h]
theorem nl_no {s1 s2 : WS} {i : Nat} (h : ¬ ilL s1 (1 + (i : Int)) ≥ ilL s2 (1 + (i : Int))) : nlL s1 s2 (i + 1) = nlL s1 s2 i := by
  unfold nlL; rw [witAll_succ, List.filter_append]; simp; omega
theorem ne_yes {s1 s2 : WS} {i : Nat} (h : ilL s1 (1 + (i : Int)) ≠ ilL s2 (1 + (i : Int))) : neL s1 s2 (i + 1) = neL s1 s2 i ++ [(1 + (i : Int), ilL s1 (1 + (i : Int)), ilL s2 (1 + (i : Int)))] := by
  unfold neL; rw [witAll_succ, List.filter_append]; simp [h]
theorem ne_no {s1 s2 : WS} {i : Nat} (h : ¬ ilL s1 (1 + (i : Int)) ≠ ilL s2 (1 + (i : Int))) : neL s1 s2 (i + 1) = neL s1 s2 i := by
  unfold neL; rw [witAll_succ, List.filter_append]; simp; omega
/-- the eight objects -/
abbrev two (w : World) (ws1 ws2 : Str) (x1 dx1 N1 C1 : Addr) (vs1 : List Value) (b1 : Bool) (u1 u2 u3 u4 u5 u6 u7 u8 u9 : Tok) (x2 dx2 N2 C2 : Addr) (vs2 : List Value) (b2 : Bool) (v1 v2 v3 v4 v5 v6 v7 v8 v9 : Tok) : List (Addr × Obj) :=
  [(x1, instObj 97 dx1), (dx1, dictOf (wsEs w ws1 N1 b1 u1 u2 u3 u4 u5 u6 u7 u8) 5), (N1, tupOf [.ref C1, .int (wsOf ws1).b u9]), (C1, tupOf vs1),
   (x2, instObj 97 dx2), (dx2, dictOf (wsEs w ws2 N2 b2 v1 v2 v3 v4 v5 v6 v7 v8) 5), (N2, tupOf [.ref C2, .int (wsOf ws2).b v9]), (C2, tupOf vs2)]
def WitJ (x1 x2 : Addr) (objs : List (Addr × Obj)) (vals : Nat → List (Int × Int × Int)) (i : Nat) (m : Str → Option Value) (nx : List (Addr × Obj)) : Prop :=
  ∃ (la : Addr) (ep : Nat) (rs : List Row), Has m [(Str.ofString "self", .ref x1), (Str.ofString "other", .ref x2), (Str.ofString "a", .ref la)] ∧ nx = (la, listOf (rs.map Row.ref).toArray ep) :: (objs ++ rs.map Row.obj) ∧ rs.map Row.val = vals i ∧ (∀ q ∈ objs ++ rs.map Row.obj, q.1 ≠ la) ∧ rs.length ≤ i ∧ ∀ q ∈ rs.map Row.obj, ∀ r ∈ objs, r.1 ≠ q.1
theorem wit_same {x1 x2 : Addr} {objs own news' : List (Addr × Obj)} {vals : Nat → List (Int × Int × Int)} {i : Nat} {g h' : Heap} {L la : Addr} {m' : Str → Option Value} {s₁ : Shared} {tk ep : Nat} {rs : List Row}
    (F : Fr g L h' m') (N : News g L h' news') (hm : Has m' [(Str.ofString "self", .ref x1), (Str.ofString "other", .ref x2), (Str.ofString "a", .ref la)]) (hs : ∀ q ∈ (la, listOf (rs.map Row.ref).toArray ep) :: (objs ++ rs.map Row.obj) ++ own, q ∈ news')
    (ho : OwnOff own (((la, listOf (rs.map Row.ref).toArray ep) :: (objs ++ rs.map Row.obj)).map (·.1))) (hv : rs.map Row.val = vals i) (hne : ∀ q ∈ objs ++ rs.map Row.obj, q.1 ≠ la) (hl : rs.length ≤ i) (hsep : ∀ q ∈ rs.map Row.obj, ∀ r ∈ objs, r.1 ≠ q.1) :
    InvEndG g L (WitJ x1 x2 objs vals i) own s₁ { s₁ with heap := h', toks := tk } :=
  InvEndG.intro F N ⟨la, ep, rs, hm, rfl, hv, hne, hl, hsep⟩ ho (fun q hq => hs q (List.mem_append_left _ hq)) fun q hq => hs q (List.mem_append_right _ hq)
theorem wit_more {x1 x2 : Addr} {objs own : List (Addr × Obj)} {vals : Nat → List (Int × Int × Int)} {i : Nat} {g h' : Heap} {L la T : Addr} {m' : Str → Option Value} {s₁ : Shared} {tk ep : Nat} {rs : List Row} {a b c : Int} {t1 t2 t3 : Tok}
    (F : Fr g L h' m') (N : News g L h' ((T, tupOf [.int a t1, .int b t2, .int c t3]) :: (la, listOf (rs.map Row.ref ++ [Value.ref T]).toArray (ep + 1)) :: (objs ++ rs.map Row.obj ++ own))) (hm : Has m' [(Str.ofString "self", .ref x1), (Str.ofString "other", .ref x2), (Str.ofString "a", .ref la)])
    (hT : ∀ q ∈ (la, listOf (rs.map Row.ref).toArray ep) :: (objs ++ rs.map Row.obj ++ own), q.1 < T)
    (ho : OwnOff own (((la, listOf (rs.map Row.ref).toArray ep) :: (objs ++ rs.map Row.obj)).map (·.1))) (hv : rs.map Row.val ++ [(a, b, c)] = vals i) (hne : ∀ q ∈ objs ++ rs.map Row.obj, q.1 ≠ la) (hl : rs.length + 1 ≤ i) (hsep : ∀ q ∈ rs.map Row.obj, ∀ r ∈ objs, r.1 ≠ q.1) :
    InvEndG g L (WitJ x1 x2 objs vals i) own s₁ { s₁ with heap := h', toks := tk } := by
  have e1 : (rs ++ [(⟨T, a, b, c, t1, t2, t3⟩ : Row)]).map Row.ref = rs.map Row.ref ++ [Value.ref T] := by rw [List.map_append]; rfl
  have e2 : (rs ++ [(⟨T, a, b, c, t1, t2, t3⟩ : Row)]).map Row.obj = rs.map Row.obj ++ [(T, tupOf [.int a t1, .int b t2, .int c t3])] := by rw [List.map_append]; rfl
  have e3 : (rs ++ [(⟨T, a, b, c, t1, t2, t3⟩ : Row)]).map Row.val = rs.map Row.val ++ [(a, b, c)] := by rw [List.map_append]; rfl
  refine InvEndG.intro (nx := (la, listOf ((rs ++ [(⟨T, a, b, c, t1, t2, t3⟩ : Row)]).map Row.ref).toArray (ep + 1)) :: (objs ++ (rs ++ [(⟨T, a, b, c, t1, t2, t3⟩ : Row)]).map Row.obj)) F N ⟨la, ep + 1, rs ++ [(⟨T, a, b, c, t1, t2, t3⟩ : Row)], hm, rfl, e3.trans hv, ?_, by simp; omega, ?_⟩ ?_ ?_ ?_
  · rw [e2]
    intro q hq
    rcases List.mem_append.mp hq with hq | hq
    · exact hne q (List.mem_append_left _ hq)
    · rcases List.mem_append.mp hq with hq | hq
      · exact hne q (List.mem_append_right _ hq)
      · rw [List.mem_singleton.mp hq]
        exact Nat.ne_of_gt (hT _ (.head _))
  · rw [e2]
    intro q hq r hr
    rcases List.mem_append.mp hq with hq | hq
    · exact hsep q hq r hr
    · rw [List.mem_singleton.mp hq]
      exact Nat.ne_of_lt (hT _ (.tail _ (List.mem_append_left _ (List.mem_append_left _ hr))))
  · intro q hq b' hb'
    obtain ⟨r, hr, rfl⟩ := List.mem_map.mp hb'
    rcases List.mem_cons.mp hr with rfl | hr
    · exact ho q hq la (.head _)
    · rw [e2, ← List.append_assoc] at hr
      rcases List.mem_append.mp hr with hr | hr
      · exact ho q hq r.1 (.tail _ (List.mem_map_of_mem hr))
      · rw [List.mem_singleton.mp hr]
        exact Nat.ne_of_lt (hT _ (.tail _ (List.mem_append_right _ hq)))
  · rw [e1, e2]
    intro q hq
    rcases List.mem_cons.mp hq with rfl | hq
    · exact .tail _ (.head _)
    · rw [← List.append_assoc] at hq
      rcases List.mem_append.mp hq with hq | hq
      · exact .tail _ (.tail _ (List.mem_append_left _ hq))
      · rw [List.mem_singleton.mp hq]; exact .head _
  · intro q hq
    exact .tail _ (.tail _ (List.mem_append_right _ hq))
section
variable {prog : Program} {w : World} {A : Around} {E : Value → Shared → Prop} {s : Shared} {h₀ : Heap} {L : Addr} {m : Str → Option Value} {Q : Value → Shared → Prop}
theorem append_2 {T la : Addr} {o : Obj} {vs : List Value} {n : Nat} {v : Value} {rest : List (Addr × Obj)} (F : Fr h₀ L s.heap m) (N : News h₀ L s.heap ((T, o) :: (la, listOf vs.toArray n) :: rest)) (h1 : T ≠ la) (h2 : ∀ q ∈ rest, q.1 ≠ la) (hz : vs.length ≤ 1000000)
    (h : ∀ h', Fr h₀ L h' m → News h₀ L h' ((T, o) :: (la, listOf (vs ++ [v]).toArray (n + 1)) :: rest) → Q .none { s with heap := h' }) : wpAny (model prog w) A (call (.builtin "list.append") [.ref la, v]) Q E s := by
  refine append_K F N (Upd.tail h1 (Upd.head h2)) (fun h' F' N' => h h' F' ?_) (by rw [List.size_toArray, sizeLine_eq]; omega)
  rw [List.push_toArray] at N'
  exact N'
end
theorem lrs_bound (ws : Str) {n : Nat} (h : ws.length ≤ n) : 0 - 1 ≤ lrsL (wsOf ws) ∧ lrsL (wsOf ws) ≤ n := by
  obtain ⟨k1, _, _, k4, _⟩ := wsOf_ok ws
  unfold lrsL
  split <;> omega
theorem top_bound (w1 w2 : Str) {n : Nat} (h1 : w1.length ≤ n) (h2 : w2.length ≤ n) : 0 ≤ topL (wsOf w1) (wsOf w2) ∧ topL (wsOf w1) (wsOf w2) ≤ n + 1 := by
  have a := lrs_bound w1 h1
  have b := lrs_bound w2 h2
  unfold topL
  split <;> omega
section
theorem nl_spec {w : World} {p : Program} {loose : List Str} {mg mb : Str → Option Value} {ws1 ws2 : Str} (hl1 : ws1.length ≤ 1000) (hl2 : ws2.length ≤ 1000)
    {x1 dx1 N1 C1 : Addr} {vs1 : List Value} {b1 : Bool} {u1 u2 u3 u4 u5 u6 u7 u8 u9 : Tok} {x2 dx2 N2 C2 : Addr} {vs2 : List Value} {b2 : Bool} {v1 v2 v3 v4 v5 v6 v7 v8 v9 : Tok} (hi1 : IntsAre vs1 (wsOf ws1).count) (hi2 : IntsAre vs2 (wsOf ws2).count) :
    Spec w p loose mg mb 94 [.ref x1, .ref x2] (two w ws1 ws2 x1 dx1 N1 C1 vs1 b1 u1 u2 u3 u4 u5 u6 u7 u8 u9 x2 dx2 N2 C2 vs2 b2 v1 v2 v3 v4 v5 v6 v7 v8 v9) 2 20
      (fun r h h' => ∃ (D : Addr) (ep : Nat) (rs : List Row), r = .ref D ∧ rs.map Row.val = nlL (wsOf ws1) (wsOf ws2) (topL (wsOf ws1) (wsOf ws2)).toNat ∧ New h h' ((D, listOf (rs.map Row.ref).toArray ep) :: rs.map Row.obj)) := by
  unfold Spec; k_fill
  intro dp un gd cn cs a ccd cl outer A₀ base h₀ L m s Q E B F X N T hk hdp hun hret
  refine wpAny_call ?_
  k_dflt (refine' enter (binds := [(Str.ofString "self", .ref x1), (Str.ofString "other", .ref x2)]) ?k1 ?k2 ?k3 ?k4 ?k5 ?kA ?kF ?kK ?k6 ?k7 ?k8 ?k9 ?kB ?_ ?c2 ?c3 ?c4 ?c5; (case kA => exact rfl); (case kF => exact rfl); (case kK => assumption); (case k1 => k_asm); (case k2 => k_asm); (case k3 => k_asm); (case k4 => k_asm); (case k5 => k_asm); (case k6 => k_is); (case k7 => k_is); (case k8 => ktr_room); (case k9 => exact BindsTo.of_eq rfl); (case c5 => decide); (case kB => exact locs rfl); (case c2 => exact rfl); (case c3 => exact rfl); (case c4 => exact rfl); k_whole)
  intro g' L' h' hg' F' N' B' X' T' l0'
  dsimp only
  have lA := @lrs_spec w p loose mg mb ws1 (by omega) x1 dx1 N1 C1 vs1 b1 u1 u2 u3 u4 u5 u6 u7 u8 u9 hi1
  have lB := @lrs_spec w p loose mg mb ws2 (by omega) x2 dx2 N2 C2 vs2 b2 v1 v2 v3 v4 v5 v6 v7 v8 v9 hi2
  have hA := @il_spec w p loose mg mb ws1 (by omega) x1 dx1 N1 C1 vs1 b1 u1 u2 u3 u4 u5 u6 u7 u8 u9 hi1
  have hB := @il_spec w p loose mg mb ws2 (by omega) x2 dx2 N2 C2 vs2 b2 v1 v2 v3 v4 v5 v6 v7 v8 v9 hi2
  have htop := top_bound ws1 ws2 hl1 hl2
  repeat' (first
    | (fail_if_success (with_reducible show wpAny _ _ (pyIter _) _ _ _)); (first
      | ((with_reducible show wpAny _ _ (call (Value.ref 59) _) _ _ _); k_dflt (first | (refine use lA (by k_asm) (by k_asm) (by k_asm) (by k_asm) (by repeat' (first | exact List.forall_mem_nil _ | refine List.forall_mem_cons.mpr ⟨by k_mem, ?_⟩)) (by k_asm) rfl (by ktr_room) (by ktr_units) ?_) | (refine use lB (by k_asm) (by k_asm) (by k_asm) (by k_asm) (by repeat' (first | exact List.forall_mem_nil _ | refine List.forall_mem_cons.mpr ⟨by k_mem, ?_⟩)) (by k_asm) rfl (by ktr_room) (by ktr_units) ?_)); rintro r9 h9 tk9 F9 N9 st9 ⟨t9, rfl⟩)
      | (k_unfold; (try dsimp only)) | walk1 | (dsimp only; walk1)))
  rename IsRange _ _ _ _ _ _ _ _ => hR
  rename Fr _ _ _ _ => Fz
  rename News _ _ _ _ => Nz
  change IsRange _ _ _ (topL (wsOf ws1) (wsOf ws2) + 1) _ _ _ _ at hR
  refine loop_range (WitJ x1 x2 (two w ws1 ws2 x1 dx1 N1 C1 vs1 b1 u1 u2 u3 u4 u5 u6 u7 u8 u9 x2 dx2 N2 C2 vs2 b2 v1 v2 v3 v4 v5 v6 v7 v8 v9) (nlL (wsOf ws1) (wsOf ws2))) (n := (topL (wsOf ws1) (wsOf ws2)).toNat) rfl hR (small_one (by omega) (by omega) (by omega) (by omega)) ?_ Fz Nz ⟨_, 0, [], ⟨rfl, rfl, rfl, trivial⟩, rfl, rfl, ?_, by simp, fun _ h => nomatch h⟩ ?_ ?_
  · rw [rangeSize_one (by omega) (by omega)]; omega
  · rw [List.map_nil, List.append_nil]
    k_all
  · rintro i k t m₁ nx h tk own hin rfl ho ⟨la, ep, rs, hm, rfl, hv, hne, hl, hsep⟩ F₁ N₁
    rw [← ovr_eq hm] at F₁
    change Fr g' L' h _ at F₁
    change News g' L' h ((la, listOf (rs.map Row.ref).toArray ep) :: (two w ws1 ws2 x1 dx1 N1 C1 vs1 b1 u1 u2 u3 u4 u5 u6 u7 u8 u9 x2 dx2 N2 C2 vs2 b2 v1 v2 v3 v4 v5 v6 v7 v8 v9 ++ (rs.map Row.obj) ++ own)) at N₁
    rw [List.append_assoc] at N₁
    change News g' L' h ((la, listOf (rs.map Row.ref).toArray ep) :: (x1, instObj 97 dx1) :: (dx1, dictOf (wsEs w ws1 N1 b1 u1 u2 u3 u4 u5 u6 u7 u8) 5) :: (N1, tupOf [.ref C1, .int (wsOf ws1).b u9]) :: (C1, tupOf vs1) :: (x2, instObj 97 dx2) :: (dx2, dictOf (wsEs w ws2 N2 b2 v1 v2 v3 v4 v5 v6 v7 v8) 5) :: (N2, tupOf [.ref C2, .int (wsOf ws2).b v9]) :: (C2, tupOf vs2) :: (rs.map Row.obj ++ own)) at N₁
    clear Fz Nz hR
    have hne2 : ∀ q ∈ (x1, instObj 97 dx1) :: (dx1, dictOf (wsEs w ws1 N1 b1 u1 u2 u3 u4 u5 u6 u7 u8) 5) :: (N1, tupOf [.ref C1, .int (wsOf ws1).b u9]) :: (C1, tupOf vs1) :: (x2, instObj 97 dx2) :: (dx2, dictOf (wsEs w ws2 N2 b2 v1 v2 v3 v4 v5 v6 v7 v8) 5) :: (N2, tupOf [.ref C2, .int (wsOf ws2).b v9]) :: (C2, tupOf vs2) :: (rs.map Row.obj ++ own), q.1 ≠ la := by
      intro q hq
      have hq' : q ∈ two w ws1 ws2 x1 dx1 N1 C1 vs1 b1 u1 u2 u3 u4 u5 u6 u7 u8 u9 x2 dx2 N2 C2 vs2 b2 v1 v2 v3 v4 v5 v6 v7 v8 v9 ++ (rs.map Row.obj ++ own) := hq
      rw [← List.append_assoc] at hq'
      rcases List.mem_append.mp hq' with hq' | hq'
      · exact hne q hq'
      · exact ho q hq' la (.head _)
    repeat' (first
      | ((with_reducible show wpAny _ _ (call (Value.ref 66) _) _ _ _); k_dflt (first | (refine use (hA _ _ (by omega) (by omega)) (by k_asm) (by k_asm) (by k_asm) (by k_asm) (by repeat' (first | exact List.forall_mem_nil _ | refine List.forall_mem_cons.mpr ⟨by k_mem, ?_⟩)) (by k_asm) rfl (by ktr_room) (by ktr_units) ?_) | (refine use (hB _ _ (by omega) (by omega)) (by k_asm) (by k_asm) (by k_asm) (by k_asm) (by repeat' (first | exact List.forall_mem_nil _ | refine List.forall_mem_cons.mpr ⟨by k_mem, ?_⟩)) (by k_asm) rfl (by ktr_room) (by ktr_units) ?_)); rintro r9 h9 tk9 F9 N9 st9 ⟨t9, rfl⟩)
      | ((with_reducible show wpAny _ _ (call (Value.builtin "list.append") _) _ _ _); k_dflt (refine append_2 (by k_asm) (by k_asm) (by k_ne) hne2 (by rw [List.length_map]; omega) ?_); intro h9 F9 N9)
      | (k_unfold; (try dsimp only)) | walk1 | (dsimp only; walk1))
    · rename _ ∧ _ ∧ _ ∧ _ ∧ _ ∧ _ ∧ _ ∧ _ ∧ _ ∧ AllLt _ _ => lz
      exact wit_more F9 N9 ⟨rfl, rfl, rfl, trivial⟩ (allLt_all lz) ho (by rw [nl_yes (by assumption), hv]) hne (by omega) hsep
    · exact wit_same F9 N9 ⟨rfl, rfl, rfl, trivial⟩ (fun _ h => h) ho (hv.trans (nl_no (by first | assumption | omega)).symm) hne (by omega) hsep
  · rintro m₁ nx h tk ⟨la, ep, rs, hm, rfl, hv, hne, hl, hsep⟩ F₁ N₁
    rw [← ovr_eq hm] at F₁
    change Fr g' L' h _ at F₁
    change News g' L' h _ at N₁
    k_steps
    refine hret _ _ _ (back hg' N F₁ N₁ fun q hq => .tail _ (List.mem_append_left _ hq)) ⟨la, ep, rs, rfl, hv, new1 hg' N₁ ?_ ?_⟩
    · intro q hq
      rcases List.mem_cons.mp hq with rfl | hq
      · exact .head _
      · exact .tail _ (List.mem_append_right _ hq)
    · intro q hq r hr
      rcases List.mem_cons.mp hq with rfl | hq
      · exact hne r (List.mem_append_left _ hr)
      · exact hsep q hq r hr

theorem ne_spec {w : World} {p : Program} {loose : List Str} {mg mb : Str → Option Value} {ws1 ws2 : Str} (hl1 : ws1.length ≤ 1000) (hl2 : ws2.length ≤ 1000)
    {x1 dx1 N1 C1 : Addr} {vs1 : List Value} {b1 : Bool} {u1 u2 u3 u4 u5 u6 u7 u8 u9 : Tok} {x2 dx2 N2 C2 : Addr} {vs2 : List Value} {b2 : Bool} {v1 v2 v3 v4 v5 v6 v7 v8 v9 : Tok} (hi1 : IntsAre vs1 (wsOf ws1).count) (hi2 : IntsAre vs2 (wsOf ws2).count) :
    Spec w p loose mg mb 80 [.ref x1, .ref x2] (two w ws1 ws2 x1 dx1 N1 C1 vs1 b1 u1 u2 u3 u4 u5 u6 u7 u8 u9 x2 dx2 N2 C2 vs2 b2 v1 v2 v3 v4 v5 v6 v7 v8 v9) 2 20
      (fun r h h' => ∃ (D : Addr) (ep : Nat) (rs : List Row), r = .ref D ∧ rs.map Row.val = neL (wsOf ws1) (wsOf ws2) (topL (wsOf ws1) (wsOf ws2)).toNat ∧ New h h' ((D, listOf (rs.map Row.ref).toArray ep) :: rs.map Row.obj)) := by
  unfold Spec; k_fill
  intro dp un gd cn cs a ccd cl outer A₀ base h₀ L m s Q E B F X N T hk hdp hun hret
  refine wpAny_call ?_
  k_dflt (refine' enter (binds := [(Str.ofString "self", .ref x1), (Str.ofString "other", .ref x2)]) ?k1 ?k2 ?k3 ?k4 ?k5 ?kA ?kF ?kK ?k6 ?k7 ?k8 ?k9 ?kB ?_ ?c2 ?c3 ?c4 ?c5; (case kA => exact rfl); (case kF => exact rfl); (case kK => assumption); (case k1 => k_asm); (case k2 => k_asm); (case k3 => k_asm); (case k4 => k_asm); (case k5 => k_asm); (case k6 => k_is); (case k7 => k_is); (case k8 => ktr_room); (case k9 => exact BindsTo.of_eq rfl); (case c5 => decide); (case kB => exact locs rfl); (case c2 => exact rfl); (case c3 => exact rfl); (case c4 => exact rfl); k_whole)
  intro g' L' h' hg' F' N' B' X' T' l0'
  dsimp only
  have lA := @lrs_spec w p loose mg mb ws1 (by omega) x1 dx1 N1 C1 vs1 b1 u1 u2 u3 u4 u5 u6 u7 u8 u9 hi1
  have lB := @lrs_spec w p loose mg mb ws2 (by omega) x2 dx2 N2 C2 vs2 b2 v1 v2 v3 v4 v5 v6 v7 v8 v9 hi2
  have hA := @il_spec w p loose mg mb ws1 (by omega) x1 dx1 N1 C1 vs1 b1 u1 u2 u3 u4 u5 u6 u7 u8 u9 hi1
  have hB := @il_spec w p loose mg mb ws2 (by omega) x2 dx2 N2 C2 vs2 b2 v1 v2 v3 v4 v5 v6 v7 v8 v9 hi2
  have htop := top_bound ws1 ws2 hl1 hl2
  repeat' (first
    | (fail_if_success (with_reducible show wpAny _ _ (pyIter _) _ _ _)); (first
      | ((with_reducible show wpAny _ _ (call (Value.ref 59) _) _ _ _); k_dflt (first | (refine use lA (by k_asm) (by k_asm) (by k_asm) (by k_asm) (by repeat' (first | exact List.forall_mem_nil _ | refine List.forall_mem_cons.mpr ⟨by k_mem, ?_⟩)) (by k_asm) rfl (by ktr_room) (by ktr_units) ?_) | (refine use lB (by k_asm) (by k_asm) (by k_asm) (by k_asm) (by repeat' (first | exact List.forall_mem_nil _ | refine List.forall_mem_cons.mpr ⟨by k_mem, ?_⟩)) (by k_asm) rfl (by ktr_room) (by ktr_units) ?_)); rintro r9 h9 tk9 F9 N9 st9 ⟨t9, rfl⟩)
      | (k_unfold; (try dsimp only)) | walk1 | (dsimp only; walk1)))
  rename IsRange _ _ _ _ _ _ _ _ => hR
  rename Fr _ _ _ _ => Fz
  rename News _ _ _ _ => Nz
  change IsRange _ _ _ (topL (wsOf ws1) (wsOf ws2) + 1) _ _ _ _ at hR
  refine loop_range (WitJ x1 x2 (two w ws1 ws2 x1 dx1 N1 C1 vs1 b1 u1 u2 u3 u4 u5 u6 u7 u8 u9 x2 dx2 N2 C2 vs2 b2 v1 v2 v3 v4 v5 v6 v7 v8 v9) (neL (wsOf ws1) (wsOf ws2))) (n := (topL (wsOf ws1) (wsOf ws2)).toNat) rfl hR (small_one (by omega) (by omega) (by omega) (by omega)) ?_ Fz Nz ⟨_, 0, [], ⟨rfl, rfl, rfl, trivial⟩, rfl, rfl, ?_, by simp, fun _ h => nomatch h⟩ ?_ ?_
  · rw [rangeSize_one (by omega) (by omega)]; omega
  · rw [List.map_nil, List.append_nil]
    k_all
  · rintro i k t m₁ nx h tk own hin rfl ho ⟨la, ep, rs, hm, rfl, hv, hne, hl, hsep⟩ F₁ N₁
    rw [← ovr_eq hm] at F₁
    change Fr g' L' h _ at F₁
    change News g' L' h ((la, listOf (rs.map Row.ref).toArray ep) :: (two w ws1 ws2 x1 dx1 N1 C1 vs1 b1 u1 u2 u3 u4 u5 u6 u7 u8 u9 x2 dx2 N2 C2 vs2 b2 v1 v2 v3 v4 v5 v6 v7 v8 v9 ++ (rs.map Row.obj) ++ own)) at N₁
    rw [List.append_assoc] at N₁
    change News g' L' h ((la, listOf (rs.map Row.ref).toArray ep) :: (x1, instObj 97 dx1) :: (dx1, dictOf (wsEs w ws1 N1 b1 u1 u2 u3 u4 u5 u6 u7 u8) 5) :: (N1, tupOf [.ref C1, .int (wsOf ws1).b u9]) :: (C1, tupOf vs1) :: (x2, instObj 97 dx2) :: (dx2, dictOf (wsEs w ws2 N2 b2 v1 v2 v3 v4 v5 v6 v7 v8) 5) :: (N2, tupOf [.ref C2, .int (wsOf ws2).b v9]) :: (C2, tupOf vs2) :: (rs.map Row.obj ++ own)) at N₁
    clear Fz Nz hR
    have hne2 : ∀ q ∈ (x1, instObj 97 dx1) :: (dx1, dictOf (wsEs w ws1 N1 b1 u1 u2 u3 u4 u5 u6 u7 u8) 5) :: (N1, tupOf [.ref C1, .int (wsOf ws1).b u9]) :: (C1, tupOf vs1) :: (x2, instObj 97 dx2) :: (dx2, dictOf (wsEs w ws2 N2 b2 v1 v2 v3 v4 v5 v6 v7 v8) 5) :: (N2, tupOf [.ref C2, .int (wsOf ws2).b v9]) :: (C2, tupOf vs2) :: (rs.map Row.obj ++ own), q.1 ≠ la := by
      intro q hq
      have hq' : q ∈ two w ws1 ws2 x1 dx1 N1 C1 vs1 b1 u1 u2 u3 u4 u5 u6 u7 u8 u9 x2 dx2 N2 C2 vs2 b2 v1 v2 v3 v4 v5 v6 v7 v8 v9 ++ (rs.map Row.obj ++ own) := hq
      rw [← List.append_assoc] at hq'
      rcases List.mem_append.mp hq' with hq' | hq'
      · exact hne q hq'
      · exact ho q hq' la (.head _)
    repeat' (first
      | ((with_reducible show wpAny _ _ (call (Value.ref 66) _) _ _ _); k_dflt (first | (refine use (hA _ _ (by omega) (by omega)) (by k_asm) (by k_asm) (by k_asm) (by k_asm) (by repeat' (first | exact List.forall_mem_nil _ | refine List.forall_mem_cons.mpr ⟨by k_mem, ?_⟩)) (by k_asm) rfl (by ktr_room) (by ktr_units) ?_) | (refine use (hB _ _ (by omega) (by omega)) (by k_asm) (by k_asm) (by k_asm) (by k_asm) (by repeat' (first | exact List.forall_mem_nil _ | refine List.forall_mem_cons.mpr ⟨by k_mem, ?_⟩)) (by k_asm) rfl (by ktr_room) (by ktr_units) ?_)); rintro r9 h9 tk9 F9 N9 st9 ⟨t9, rfl⟩)
      | ((with_reducible show wpAny _ _ (call (Value.builtin "list.append") _) _ _ _); k_dflt (refine append_2 (by k_asm) (by k_asm) (by k_ne) hne2 (by rw [List.length_map]; omega) ?_); intro h9 F9 N9)
      | (k_unfold; (try dsimp only)) | walk1 | (dsimp only; walk1))
    · rename _ ∧ _ ∧ _ ∧ _ ∧ _ ∧ _ ∧ _ ∧ _ ∧ _ ∧ AllLt _ _ => lz
      exact wit_more F9 N9 ⟨rfl, rfl, rfl, trivial⟩ (allLt_all lz) ho (by rw [ne_yes (by assumption), hv]) hne (by omega) hsep
    · exact wit_same F9 N9 ⟨rfl, rfl, rfl, trivial⟩ (fun _ h => h) ho (hv.trans (ne_no (by first | assumption | omega)).symm) hne (by omega) hsep
  · rintro m₁ nx h tk ⟨la, ep, rs, hm, rfl, hv, hne, hl, hsep⟩ F₁ N₁
    rw [← ovr_eq hm] at F₁
    change Fr g' L' h _ at F₁
    change News g' L' h _ at N₁
    k_steps
    refine hret _ _ _ (back hg' N F₁ N₁ fun q hq => .tail _ (List.mem_append_left _ hq)) ⟨la, ep, rs, rfl, hv, new1 hg' N₁ ?_ ?_⟩
    · intro q hq
      rcases List.mem_cons.mp hq with rfl | hq
      · exact .head _
      · exact .tail _ (List.mem_append_right _ hq)
    · intro q hq r hr
      rcases List.mem_cons.mp hq with rfl | hq
      · exact hne r (List.mem_append_left _ hr)
      · exact hsep q hq r hr
end
end Mine

namespace Mine
abbrev tabO (ps : Array Value) : Obj := { cls := .none, data := .fields ps }
def Tab (l k : Nat) (ps : Array Value) : Prop := ps = #[] ∨ ∃ c' : Addr, ps = #[rawInt l, rawInt k, .ref c']
/-- what is known of a code object, its table apart -/
def CodeFor (h : Heap) (c P : Addr) : Prop :=
  ∃ o vs file tf flags tg inF text tt, h.get? c = some o ∧ o.cls = .type "code" ∧ o.data = .fields vs ∧ vs.getD 11 .none = .ref P ∧ vs[11]? = some (.ref P) ∧ vs.getD 18 .none = .str file tf ∧
    vs.getD 7 .none = .int flags tg ∧ vs.getD 9 .none = .bool inF ∧ vs.getD 10 .none = .int text tt ∧ c ≠ P
theorem Tab.triples {l k : Nat} {ps : Array Value} (h : Tab l k ps) : TriplesOk ps.toList := by
  rcases h with rfl | ⟨c', rfl⟩
  · trivial
  · trivial
theorem CodeFor.is {h g : Heap} {c P : Addr} {l k : Nat} {ps : Array Value} (x : CodeFor h c P) (hk : h.StaysIn g) (hP : g.get? P = some (tabO ps)) (t : Tab l k ps) : g.IsCode c P ps ∧ g.TableAt c P ps := by
  obtain ⟨o, vs, file, tf, flags, tg, inF, text, tt, e1, e2, e3, e4, e5, e6, e7, e8, e9, e10⟩ := x
  exact ⟨⟨o, vs, file, tf, flags, tg, inF, text, tt, _, hk _ _ e1, e3, e4, e6, e7, e8, e9, hP, rfl, t.triples, e10⟩, ⟨o, vs, hk _ _ e1, e2, e3, e5⟩, hP⟩
theorem passing_all (n : Nat) : passing (fun _ => true) n 0 = List.range n := by
  unfold passing; rw [List.drop_zero]; simp

def GenK (prog : Program) (w : World) (A : Around) (a C I : Addr) (fp : List Addr) (n : Nat) (F : Nat → Value → Prop) (href : Heap) (gens : Array GenState) : Prop :=
  ∃ g St, WalksS prog w A.in4 a (a :: C :: fp) [C, I] (GenOnlyQ g) n (fun j y => F j y) St ∧
    (∀ s : Shared, s.gens = gens → (∀ b ∈ a :: C :: fp, ∀ o, href.get? b = some o → s.heap.get? b = some o) → St 0 s) ∧ (∀ i s, St i s → s.TypeIs (.ref a) "generator")

section
variable {prog : Program} {w : World} {A : Around} {E : Value → Shared → Prop} {s : Shared} {h₀ : Heap} {c P L : Addr} {ps : Array Value} {m mg : Str → Option Value} {bm : Addr} {ob : Obj} {news : List (Addr × Obj)}

theorem walksS_mono {I : Addr} {fp wr : List Addr} {G : Array GenState → Array GenState → Prop} {n : Nat} {P P' : Nat → Value → Prop} {St : Nat → Shared → Prop} (W : WalksS prog w A I fp wr G n P St) (h : ∀ j y, P j y → P' j y) : WalksS prog w A I fp wr G n P' St where
  sub := W.sub
  grefl := W.grefl
  gtrans := W.gtrans
  frame := W.frame
  item := fun i s Q E hi st hQ => W.item i s Q E hi st fun v s' p => hQ v s' (h _ _ p)
  done := W.done
  self := W.self

theorem gen_make {env : Env} {elt iter : PySem.Expr} {x : Str} {px : Pos} {scope : Scope} {cl : List (Str × Addr)} {pos : Pos} {Q : Value → Shared → Prop} {Wl : Addr} {vs : List Value} {ep : Nat} {keep : List Addr} {Fy : Nat → Value → Prop}
    (F : Fr h₀ L s.heap m) (N : News h₀ L s.heap ((P, tabO ps) :: news)) (hP : ∀ q ∈ news, q.1 ≠ P) (M : BMod h₀ env.globals mg bm ob) (hlim : h₀.NoLimit) (hg : AllBare s.gens)
    (hcode : env.code = .ref c) (hcf : CodeFor h₀ c P) (ht : Tab pos.line pos.col ps) (hW : (Wl, listOf vs.toArray ep) ∈ news)
    (hh : A.handled = none) (hco : scope.isCoroutine = false) (hclos : closureFor scope env = pure cl) (hcell : ∀ y ∈ scope.names, y.2 ≠ .cell) (h0 : scope.names.lookup (".0" : Str) = some NameKind.local)
    (hx : scope.names.lookup x = some .local) (hkind : scope.kind = .function) (hroom : A.depth < recursionLimit)
    (hiter : ∀ Q' : Value → Shared → Prop, Q' (.ref Wl) s → wpAny (model prog w) A (eval iter env) Q' E s) (hs : ∀ x, genFold iter env x = pure x)
    (hkeep : ∀ b ∈ keep, (∃ o, h₀.get? b = some o) ∨ ∃ o, (b, o) ∈ news) (hWk : Wl ∈ keep) (hck : cStatics ∈ keep)
    (helt : ∀ (C : Addr) (code : Value) (A' : Around) (E' : Value → Shared → Prop) (i : Nat) (v : Value) (s₂ : Shared) (m₂ : Str → Option Value), A'.handled = none → vs[i]? = some v → s₂.heap.Ns C m₂ → m₂ x = some v →
      (∀ b ∈ keep, ∀ o, s.heap.get? b = some o → s₂.heap.get? b = some o) →
      wpAny (model prog w) A' (eval elt (genEnv scope cl C code builtinsNs env)) (fun y s₃ => Fy i y ∧ Keeps s₂ s₃) E' s₂)
    (h : ∀ a C I h5 tk gens' ps' oa oc oi, Fr h₀ L h5 m → News h₀ L h5 ((P, tabO ps') :: (a, oa) :: (C, oc) :: (I, oi) :: news) → (∀ b o, b ≠ P → s.heap.get? b = some o → h5.get? b = some o) → (∀ b o, s.heap.get? b = some o → b < I) → I < C → C < a → Tab pos.line pos.col ps' → AllBare gens' →
      GenK prog w A a C I (I :: keep) vs.length Fy h5 gens' → Q (.ref a) { s with heap := h5, gens := gens', toks := tk }) :
    wpAny (model prog w) A (eval (.GeneratorExp elt [⟨.Name x px, iter, [], 0⟩] scope pos) env) Q E s := by
  have hPn := N _ (.head _)
  have kept : ∀ b ∈ keep, ∃ o, s.heap.get? b = some o ∧ b ≠ P := by
    intro b hb
    rcases hkeep b hb with ⟨o, ho⟩ | ⟨o, ho⟩
    · refine ⟨o, F.keep b o ho, fun e => ?_⟩
      rw [e, hPn.2.2] at ho; cases ho
    · exact ⟨o, (N _ (.tail _ ho)).1, hP _ ho⟩
  refine wpAny_GeneratorExp_make hco hclos hcell h0 hkind hroom (hiter _ ?_) hs
  have hls : s.heap.IsList Wl vs.toArray := News.isList N (.tail _ hW)
  refine wpAny_pyIter_list hls ?_
  have up1 : ∀ b o, s.heap.get? b = some o → (s.heap.push { cls := .type "list_iterator", data := .fields #[.ref Wl, .int 0 0] }).get? b = some o := fun b o e => Heap.get?_push_of_some _ e
  have lim1 : ∀ g : Heap, h₀.StaysIn g → g.NoLimit := fun g k => hlim.keeps k
  refine ⟨lim1 _ fun b o e => up1 b o (F.keep b o e), ?_⟩
  have hPlt : P < s.heap.objs.size := Heap.lt_size hPn.1
  have key : ∀ (code : Value) (h3 : Heap) (tk : Nat) (ps' : Array Value), Heap.ExtBut P (s.heap.push { cls := .type "list_iterator", data := .fields #[.ref Wl, .int 0 0] }) h3 → h3.get? P = some (tabO ps') → Tab pos.line pos.col ps' →
      wpAny (model prog w) A (builtinsFor env.globals env.builtins) (fun bi s₄ =>
        ∀ h', h'.Ns s₄.heap.objs.size (fun y => if y = ".0" then some (.ref s.heap.objs.size) else none) → Heap.SameBut s₄.heap.objs.size (s₄.heap.push { cls := .type "frame", data := .dict #[] }) h' →
          Q (.ref h'.objs.size) { s₄ with
            gens := s₄.gens.push (.fresh (.compStart (.GeneratorExp elt [⟨.Name x px, iter, [], 0⟩] scope pos) 0 (.ref s.heap.objs.size) .none (genEnv scope cl s₄.heap.objs.size code bi env))),
            toks := s₄.toks + 1 + 1 + 1,
            heap := h'.push { cls := .type "generator", data := .fields #[.int s₄.gens.size 0, .str "<genexpr>" (s₄.toks + 1), .str (env.qual ++ "<genexpr>") (s₄.toks + 1 + 1)] } }) E { s with heap := h3, toks := tk } := by
    intro code h3 tk ps' hext hP3 ht'
    have up3 : ∀ b o, b ≠ P → s.heap.get? b = some o → h3.get? b = some o := fun b o hb e => hext b o hb (up1 b o e)
    have base3 : h₀.StaysIn h3 := fun b o e => up3 b o (fun e' => by rw [e', hPn.2.2] at e; cases e) (F.keep b o e)
    have M3 := M.keeps base3
    refine wpAny_builtinsFor M3.ns M3.name M3.ne M3.obj M3.cls M3.dict M3.data ?_
    dsimp only
    intro h' hn' hs'
    have hI3 : h3.get? s.heap.objs.size = some { cls := .type "list_iterator", data := .fields #[.ref Wl, .int 0 0] } := hext _ _ (Nat.ne_of_gt hPlt) (Heap.get?_push_size _ rfl)
    have hIlt : s.heap.objs.size < h3.objs.size := Heap.lt_size hI3
    have hsz : h'.objs.size = h3.objs.size + 1 := by rw [hs'.1, Heap.size_push]
    have keep' : ∀ b o, h3.get? b = some o → h'.get? b = some o := fun b o e => hs'.extBut b o (Nat.ne_of_lt (Heap.lt_size e)) (Heap.get?_push_of_some _ e)
    let og : Obj := { cls := .type "generator", data := .fields #[.int s.gens.size 0, .str "<genexpr>" (tk + 1), .str (env.qual ++ "<genexpr>") (tk + 1 + 1)] }
    have keep5 : ∀ b o, h3.get? b = some o → (h'.push og).get? b = some o := fun b o e => Heap.get?_push_of_some _ (keep' b o e)
    have base5 : h₀.StaysIn (h'.push og) := fun b o e => keep5 b o (base3 b o e)
    have hsmall : ∀ b o, s.heap.get? b = some o → b < s.heap.objs.size := fun b o e => Heap.lt_size e
    have none0 : ∀ b, s.heap.objs.size ≤ b → h₀.get? b = none := fun b hb => by
      cases e : h₀.get? b with
      | none => rfl
      | some o => exact absurd (hsmall b o (F.keep b o e)) (Nat.not_lt.mpr hb)
    have hLlt : L < s.heap.objs.size := F.ns.lt
    have neL : ∀ b, s.heap.objs.size ≤ b → b ≠ L := fun b hb e => Nat.lt_irrefl _ (Nat.lt_of_lt_of_le hLlt (e ▸ hb))
    have hLP : L ≠ P := fun e => hPn.2.1 e.symm
    obtain ⟨oC, esC, epC, hoC, restC⟩ := id hn'
    have hlt5 : h3.objs.size < h'.objs.size := by rw [hsz]; exact Nat.lt_succ_self _
    refine h h'.objs.size h3.objs.size s.heap.objs.size (h'.push og) _ _ ps' og oC { cls := .type "list_iterator", data := .fields #[.ref Wl, .int 0 0] } ⟨?_, base5, F.above⟩ ?_ (fun b o hb e => keep5 b o (up3 b o hb e)) hsmall hIlt hlt5 ht' (AllBare.push hg rfl) ?_
    · exact F.ns.at' fun o e => keep5 _ _ (up3 _ _ hLP e)
    · intro q hq
      rcases List.mem_cons.mp hq with rfl | hq
      · exact ⟨keep5 _ _ hP3, hPn.2⟩
      rcases List.mem_cons.mp hq with rfl | hq
      · exact ⟨Heap.get?_push_size _ rfl, neL _ (Nat.le_of_lt (Nat.lt_trans hIlt hlt5)), none0 _ (Nat.le_of_lt (Nat.lt_trans hIlt hlt5))⟩
      rcases List.mem_cons.mp hq with rfl | hq
      · exact ⟨Heap.get?_push_of_some _ hoC, neL _ (Nat.le_of_lt hIlt), none0 _ (Nat.le_of_lt hIlt)⟩
      rcases List.mem_cons.mp hq with rfl | hq
      · exact ⟨keep5 _ _ hI3, neL _ (Nat.le_refl _), none0 _ (Nat.le_refl _)⟩
      · exact ⟨keep5 _ _ (up3 _ _ (hP _ hq) (N _ (.tail _ hq)).1), (N _ (.tail _ hq)).2⟩
    · have hfp : ∀ b ∈ s.heap.objs.size :: keep, b < h3.objs.size := by
        intro b hb
        rcases List.mem_cons.mp hb with rfl | hb
        · exact hIlt
        · obtain ⟨o, ho, hbP⟩ := kept b hb
          exact Heap.lt_size (up3 b o hbP ho)
      have W₀ : ∀ A' : Around, A'.handled = none → Walks prog w A' s.heap.objs.size (s.heap.objs.size :: keep) [s.heap.objs.size] vs.toArray.size (fun i v => vs.toArray[i]? = some v) (fun i h => h.IsListIter s.heap.objs.size Wl i ∧ h.IsList Wl vs.toArray) := fun A' hA =>
        (Walks.list hA s.heap.objs.size Wl (Nat.ne_of_lt (Heap.lt_size (N _ (.tail _ hW)).1)) vs.toArray).mono_fp fun b hb => by
          rcases List.mem_cons.mp hb with rfl | hb
          · exact .head _
          · rw [List.mem_singleton.mp hb]; exact .tail _ hWk
      have hcC : cStatics ≠ h3.objs.size := Nat.ne_of_lt (hfp _ (.tail _ hck))
      have hcw : cStatics ∉ [s.heap.objs.size] := fun hm => by
        obtain ⟨o, ho, _⟩ := kept _ hck
        exact Nat.lt_irrefl _ ((List.mem_singleton.mp hm) ▸ hsmall _ _ ho)
      have haf : h'.objs.size ∉ s.heap.objs.size :: keep := fun hm => Nat.lt_irrefl _ (Nat.lt_trans (hfp _ hm) hlt5)
      have WS := WalksS.genexpQ (prog := prog) (w := w) (A := A.in4) hh h'.objs.size s.gens.size h3.objs.size (s.heap.objs.size :: keep) [s.heap.objs.size] (fun _ => true) vs.toArray.size Fy (Nat.ne_of_gt hlt5) haf (fun b hb => by rw [List.mem_singleton.mp hb]; exact .head _) hroom (.tail _ hck) hcC hcw
      have hq : QuietGen prog w (genEnv scope cl h3.objs.size code builtinsNs env) x [] elt (s.heap.objs.size :: keep) [s.heap.objs.size] (fun i v => vs.toArray[i]? = some v) (fun _ => true) Fy (h'.push og) := by
        refine ⟨fun A' E' i v s₂ m₂ _ _ _ _ _ => wpAny_pure ⟨rfl, ⟨s₂.heap, s₂.toks, rfl, fun _ _ e => e⟩⟩, fun A' E' i v s₂ m₂ hA hv _ hns hm hkp => ?_⟩
        refine helt h3.objs.size code A' E' i v s₂ m₂ hA (by simpa using hv) hns hm fun b hb o e => ?_
        obtain ⟨o', ho', hbP⟩ := kept b hb
        refine hkp b (.tail _ hb) (fun hm => ?_) o (keep5 _ _ (up3 _ _ hbP e))
        exact Nat.lt_irrefl _ ((List.mem_singleton.mp hm) ▸ hsmall _ _ ho')
      have G5 := GenAt.fresh (prog := prog) (w := w) (A := A.in4) (elt := elt) (iter := iter) (px := px) (ifs := []) (scope := scope) (pos := pos) (a := h'.objs.size) (g := s.gens.size) (cenv := genEnv scope cl h3.objs.size code builtinsNs env) (m := fun y => if y = ".0" then some (.ref s.heap.objs.size) else none) hh W₀ (fun _ => true) Fy hx
        (by simp [genEnv, hkind]) hco (fun hm => Nat.lt_irrefl _ (hfp _ hm)) (s := { s with heap := h'.push og, toks := tk + 1 + 1 + 1, gens := s.gens.push (.fresh (.compStart (.GeneratorExp elt [⟨.Name x px, iter, [], 0⟩] scope pos) 0 (.ref s.heap.objs.size) .none (genEnv scope cl h3.objs.size code builtinsNs env))) }) hq
        ⟨_, _, _, Heap.get?_push_size _ rfl, rfl, rfl, rfl⟩ (Array.getElem?_push_size ..) ⟨⟨_, keep5 _ _ hI3, rfl, rfl⟩, hls.at fun o e => keep5 _ _ (up3 _ _ (hP _ hW) e)⟩ (hn'.push _) (lim1 _ base5)
      have es : vs.toArray.size = vs.length := List.size_toArray ..
      rw [es] at WS G5
      have ep : (passing (fun _ => true) vs.length 0).length = vs.length := by rw [passing_all]; exact List.length_range
      rw [ep] at WS
      refine ⟨_, _, walksS_mono WS (fun j y hj => ?_), ?_, fun i s st => st.1.typeIs⟩
      · obtain ⟨i, hi, hF⟩ := hj
        rw [passing_all] at hi
        obtain ⟨h1, h2⟩ := List.getElem?_eq_some_iff.mp hi
        rw [List.getElem_range] at h2
        exact h2 ▸ hF
      · intro s6 e6 hag
        obtain ⟨i1, ⟨mc, i2, i3⟩, gs, hgs, go⟩ := G5
        exact ⟨let ⟨o, nm, qn, ho, r⟩ := i1; ⟨o, nm, qn, hag _ (.head _) o ho, r⟩, ⟨mc, i2.at' fun o e => hag _ (.tail _ (.tail _ (.tail _ hck))) o e, i3⟩, gs, by rw [e6]; exact hgs, fun s7 hal => go s7 fun b hb o e => hal b hb o (hag b (.tail _ hb) o e)⟩
  obtain ⟨ic, tc⟩ := hcf.is (g := s.heap.push { cls := .type "list_iterator", data := .fields #[.ref Wl, .int 0 0] }) (fun b o e => up1 b o (F.keep b o e)) (up1 _ _ hPn.1) ht
  rcases ht with rfl | ⟨c', rfl⟩
  · refine wpAny_genexprCodeX hcode ic tc rfl fun c' h' tk hx _ _ _ _ ht' _ => ?_
    refine key (.ref c') h' tk _ hx ht'.2 (.inr ⟨c', by simp⟩)
  · refine wpAny_genexprCode_hit hcode ic (c' := .ref c') (by simp [codeAmong, rawInt]) ?_
    exact key (.ref c') _ _ _ (fun _ _ _ e => e) (up1 _ _ hPn.1) (.inr ⟨c', rfl⟩)

theorem gen_join {a C I : Addr} {fp : List Addr} {n : Nat} {Fy : Nat → Value → Prop} {href : Heap} {sep : Str} {t : Tok} {Q : Value → Shared → Prop} {tx : Nat → Str} (G : GenK prog w A a C I fp n Fy href s.gens) (hb : AllBare s.gens)
    (hag : ∀ b ∈ a :: C :: fp, ∀ o, href.get? b = some o → s.heap.get? b = some o) (hfp : ∀ b ∈ a :: C :: fp, b < s.heap.objs.size) (htx : ∀ j v, Fy j v → ∃ u, v = .str (tx j) u) (hok : JoinOk sep ((List.range n).map tx) = true)
    (hQ : ∀ h' gens' tk' t', (∀ b o, b ≠ C → b ≠ I → s.heap.get? b = some o → h'.get? b = some o) → AllBare gens' → Q (.str (Txt.join sep ((List.range n).map tx)) t') { s with heap := h', gens := gens', toks := tk' }) (hsz : n ≤ sizeLine) :
    wpAny (model prog w) A (call (.builtin "str.join") [.str sep t, .ref a]) Q E s := by
  obtain ⟨g, St, W, hst, hT⟩ := G
  refine SC.joinGen W.in4_2 hT (hst s rfl hag) hfp (.head _) (fun j v hv => let ⟨u, e⟩ := htx j v hv; ⟨_, u, e⟩) (fun s' lt hm hacc => ?_) hsz
  have hl : lt.map (·.1) = (List.range n).map tx := by
    apply List.ext_getElem?
    intro j
    have hsz : lt.length = n := by simpa [strValues] using hacc.1
    by_cases hj : j < n
    · have hj' : j < lt.length := hsz ▸ hj
      obtain ⟨u, hv⟩ := htx j _ (hacc.2 j (.str lt[j].1 lt[j].2) (by simp [strValues, List.getElem?_eq_getElem hj']))
      injection hv with h1 _
      simp [List.getElem?_eq_getElem hj', hj, h1]
    · rw [List.getElem?_eq_none (by simpa [hsz] using Nat.le_of_not_lt hj), List.getElem?_eq_none (by simpa using Nat.le_of_not_lt hj)]
  rw [hl]
  refine ⟨hok, fun t' k => ?_⟩
  obtain ⟨hh, hg, hd, ht, ho⟩ := s'
  obtain ⟨k1, k2, k3, k4, k5⟩ := hm
  dsimp only at k1 k2 k3 k4
  subst k3 k4
  exact hQ hh hg k t' (fun b o h1 h2 e => k1 b o (fun hm => by
    rcases List.mem_cons.mp hm with e' | hm
    · exact h1 e'
    · exact h2 (List.mem_singleton.mp hm)) e) (k2.bare hb)
end
end Mine

namespace Mine
theorem codeFor_at {K : Frag} {h : Heap} {c P : Addr} {d : Option Addr} {vs : Array Value} {sl : Array (Option Value)} {file : Str} {tf tg tt : Tok} {flags text : Int} {inF : Bool} (X : K.In h) (e : K.lookup c = some ⟨.type "code", d, .fields vs, sl⟩)
    (e1 : vs.getD 11 .none = .ref P) (e2 : vs[11]? = some (.ref P)) (e3 : vs.getD 18 .none = .str file tf) (e4 : vs.getD 7 .none = .int flags tg) (e5 : vs.getD 9 .none = .bool inF) (e6 : vs.getD 10 .none = .int text tt) (e7 : c ≠ P) : CodeFor h c P :=
  ⟨_, vs, _, _, _, _, _, _, _, X _ _ e, rfl, rfl, e1, e2, e3, e4, e5, e6, e7⟩
theorem ns_some {h : Heap} {a : Addr} {m : Str → Option Value} (x : h.Ns a m) : ∃ o, h.get? a = some o := let ⟨o, _, _, e, _⟩ := x; ⟨o, e⟩
theorem agree {g h h1 : Heap} {L : Addr} {m0 m1 : Str → Option Value} {news : List (Addr × Obj)} (F0 : Fr g L h m0) (N0 : News g L h news) (F1 : Fr g L h1 m1) (N1 : News g L h1 news) {bs : List Addr} (hb : ∀ b ∈ bs, (∃ o, g.get? b = some o) ∨ ∃ o, (b, o) ∈ news) :
    (∀ b ∈ bs, ∀ o, h.get? b = some o → h1.get? b = some o) ∧ ∀ b ∈ bs, b < h1.objs.size := by
  refine ⟨fun b hbs o e => ?_, fun b hbs => ?_⟩
  · rcases hb b hbs with ⟨o', e'⟩ | ⟨o', e'⟩
    · have := F0.keep b o' e'
      rw [e] at this; cases this
      exact F1.keep b _ e'
    · have := (N0 _ e').1
      rw [e] at this; cases this
      exact (N1 _ e').1
  · rcases hb b hbs with ⟨o', e'⟩ | ⟨o', e'⟩
    · exact Heap.lt_size (F1.keep b _ e')
    · exact Heap.lt_size (N1 _ e').1
theorem stay_hid {s : Shared} {h₀ g : Heap} {L : Addr} {m : Str → Option Value} {news : List (Addr × Obj)} (hg : Hid s.heap news g) (F : Fr h₀ L s.heap m) (N : News h₀ L s.heap news) : h₀.StaysIn g := fun b o e => hg b o (F.keep b o e) fun hm => by
  obtain ⟨q, hq, rfl⟩ := List.mem_map.mp hm
  rw [(N q hq).2.2] at e; cases e
abbrev SpecG (w : World) (p : Program) (loose : List Str) (mg mb : Str → Option Value) (f : Addr) (args : List Value) (need : List (Addr × Obj)) (d u : Nat) (Post : Value → Heap → Heap → Prop) : Prop :=
  ∀ (dp un : Nat) (gd : Option (List Code)) (cn : Str) (cs : Scope) (a : Addr) (ccd : Value) (cl : List (Str × Addr)) (outer : List Env) (A₀ : Around) (base h₀ : Heap) (L : Addr) (m : Str → Option Value) (s : Shared) (Q E : Value → Shared → Prop) (ps : Array Value) (bm : Addr) (ob : Obj),
    Below A₀ base outer h₀ → Fr h₀ L s.heap m → (hd.heap_39 w.params).In h₀ → News h₀ L s.heap ((103, tabO ps) :: need) → TopRead p loose mg mb h₀ → BMod h₀ mainGlobals mg bm ob → Tab 77 13 ps → AllBare s.gens → (∀ q ∈ need, q.1 ≠ 103) → cs.kind = .function → dp + d < recursionLimit → un + u < cLine →
    (∀ r h' tk' gens' ps', (∀ b o, b ≠ 103 → s.heap.get? b = some o → h'.get? b = some o) → h'.get? 103 = some (tabO ps') → Tab 77 13 ps' → AllBare gens' → Post r s.heap h' → Q r { s with heap := h', gens := gens', toks := tk' }) →
    wpAny (model PySem.Challenge.rw_mj0163_01.prog w) (ktrTop dp un gd cn cs L a ccd cl outer) (call (.ref f) args) Q E s
structure Row1 where
  a : Addr
  i : Int
  t : Tok
  rest : List Value
def Row1.obj (r : Row1) : Addr × Obj := (r.a, tupOf (.int r.i r.t :: r.rest))
def Row1.ref (r : Row1) : Value := .ref r.a
def numS (i : Int) : Str := Str.ofString (toString i)
def fmtL (ns : List Int) : Str := ((if (ns.length : Int) > 1 then Str.ofString "at tab sizes" else Str.ofString "at tab size") ++ Str.ofString " ") ++ Txt.join (Str.ofString ", ") (ns.map numS)
theorem numS_len {i : Int} (h : i.natAbs < 10 ^ 6) : (numS i).length ≤ 7 := by
  have := int_text_length_le10 (k := 6) (by decide) h
  unfold numS
  rw [PySem.ofString_length]; exact this
theorem range_get (l : List Str) {n : Nat} (h : n = l.length) : (List.range n).map (fun j => l[j]!) = l := by
  subst h
  apply List.ext_getElem
  · simp
  · intro i h1 h2
    simp only [List.getElem_map, List.getElem_range]
    rw [getElem!_pos l i h2]
theorem nums_sum : ∀ (l : List Int), (∀ i ∈ l, i.natAbs < 10 ^ 6) → ((l.map numS).map (·.length)).sum ≤ 7 * l.length
  | [], _ => by simp
  | i :: l, h => by
    have h1 := numS_len (h i (.head _))
    have h2 := nums_sum l fun j hj => h j (.tail _ hj)
    simp only [List.map_cons, List.sum_cons, List.length_cons]
    omega
theorem nums_ok (l : List Int) (h : ∀ i ∈ l, i.natAbs < 10 ^ 6) (hl : l.length ≤ 1000) : ((l.map numS).map (·.length)).sum + (l.map numS).length * (Str.ofString ", ").length ≤ 16777216 ∧ (Txt.join (Str.ofString ", ") (l.map numS)).length ≤ 10000 := by
  have h1 := nums_sum l h
  have h2 := join_len (Str.ofString ", ") (l.map numS)
  have h3 : (l.map numS).length = l.length := List.length_map ..
  have h4 : (Str.ofString ", ").length = 2 := by decide
  rw [h3, h4] at h2
  rw [h3, h4]
  omega
theorem fmt_spec {w : World} {p : Program} {loose : List Str} {mg mb : Str → Option Value} {Wl : Addr} {ep : Nat} {rs : List Row1} (hn : rs.length ≤ 1000) (hi : ∀ r ∈ rs, r.i.natAbs < 10 ^ 6) :
    SpecG w p loose mg mb 108 [.ref Wl] ((Wl, listOf (rs.map Row1.ref).toArray ep) :: rs.map Row1.obj) 2 20 (fun r h h' => ∃ t, r = .str (fmtL (rs.map Row1.i)) t) := by
  unfold SpecG; k_fill
  intro dp un gd cn cs a ccd cl outer A₀ base h₀ L m s Q E ps bm ob B F X N T M hps hgs hne hk hdp hun hret
  refine wpAny_call ?_
  k_dflt (refine' enter (binds := [(Str.ofString "w", .ref Wl)]) ?k1 ?k2 ?k3 ?k4 ?k5 ?kA ?kF ?kK ?k6 ?k7 ?k8 ?k9 ?kB ?_ ?c2 ?c3 ?c4 ?c5; (case kA => exact rfl); (case kF => exact rfl); (case kK => assumption); (case k1 => k_asm); (case k2 => k_asm); (case k3 => k_asm); (case k4 => k_asm); (case k5 => k_asm); (case k6 => k_is); (case k7 => k_is); (case k8 => ktr_room); (case k9 => exact BindsTo.of_eq rfl); (case c5 => decide); (case kB => exact locs rfl); (case c2 => exact rfl); (case c3 => exact rfl); (case c4 => exact rfl); k_whole)
  intro g' L' h' hg' F' N' B' X' T' l0'
  dsimp only
  have M' := M.keeps (stay_hid hg' F N)
  have C' : CodeFor g' 107 103 := codeFor_at X' (by k_is) rfl rfl rfl rfl rfl rfl (by decide)
  have mstr : mg (Str.ofString "str") = none := mg_none_of X' T'.g (by k_is)
  have hlim := T'.nolimit
  have hkp : ∀ b ∈ Wl :: cStatics :: mainGlobals :: builtinsNs :: rs.map (·.a), (∃ o, g'.get? b = some o) ∨ ∃ o, (b, o) ∈ (Wl, listOf (rs.map Row1.ref).toArray ep) :: rs.map Row1.obj := by
    intro b hb
    rcases List.mem_cons.mp hb with rfl | hb
    · exact .inr ⟨_, .head _⟩
    rcases List.mem_cons.mp hb with rfl | hb
    · obtain ⟨mc, q, _⟩ := hlim
      exact .inl (ns_some q)
    rcases List.mem_cons.mp hb with rfl | hb
    · exact .inl (ns_some T'.g)
    rcases List.mem_cons.mp hb with rfl | hb
    · exact .inl (ns_some T'.b)
    · obtain ⟨r, hr, rfl⟩ := List.mem_map.mp hb
      exact .inr ⟨_, .tail _ (List.mem_map.mpr ⟨r, hr, rfl⟩)⟩
  repeat' (first | (fail_if_success (with_reducible show wpAny _ _ (eval (Expr.GeneratorExp _ _ _ _) _) _ _ _)); (first | (k_unfold; (try dsimp only)) | walk1 | (dsimp only; walk1)))
  refine gen_make (Wl := Wl) (vs := rs.map Row1.ref) (ep := ep) (keep := Wl :: cStatics :: mainGlobals :: builtinsNs :: rs.map (·.a)) (Fy := fun i y => ∃ u, y = .str ((rs.map Row1.i).map numS)[i]! u) F' N' hne M' hlim hgs rfl C' hps (.head _) rfl rfl rfl (by decide) rfl rfl rfl (by ktr_room) ?_ (fun _ => rfl) hkp (.head _) (.tail _ (.head _)) ?_ ?_
  · intro Q' hq
    exact wpAny_Name (wpAny_loadName_local rfl rfl F'.ns rfl hq)
  · intro C code A' E' i v s₂ m₂ hA hv hns hm hkeep
    obtain ⟨r, hr, rfl⟩ : ∃ r, rs[i]? = some r ∧ v = Row1.ref r := by
      rw [List.getElem?_map] at hv
      cases e : rs[i]? with
      | none => rw [e] at hv; cases hv
      | some r => rw [e] at hv; exact ⟨r, rfl, (Option.some.inj hv).symm⟩
    have hrm : r ∈ rs := List.mem_of_getElem? hr
    have hget : ((rs.map Row1.i).map numS)[i]! = numS r.i := by simp [hr]
    have ho : s₂.heap.get? r.a = some (tupOf (.int r.i r.t :: r.rest)) := hkeep r.a (.tail _ (.tail _ (.tail _ (.tail _ (List.mem_map.mpr ⟨r, hrm, rfl⟩))))) _ (N' (r.obj) (.tail _ (.tail _ (List.mem_map.mpr ⟨r, hrm, rfl⟩)))).1
    have hG : s₂.heap.Ns mainGlobals mg := T'.g.at' fun o e => hkeep _ (.tail _ (.tail _ (.head _))) o (F'.keep _ _ e)
    have hB : s₂.heap.Ns builtinsNs mb := T'.b.at' fun o e => hkeep _ (.tail _ (.tail _ (.tail _ (.head _)))) o (F'.keep _ _ e)
    refine Call_Name1 (Calls.Name_function_global rfl rfl (Calls.loadGlobal_builtin hG mstr hB ((T'.builtins _ (by decide)).trans boot_str) ?_)) rfl
    refine callWith_type1 (Subscript_ (wpAny_Name (wpAny_loadName_local rfl rfl hns hm ?_)))
    refine wpAny_Constant_int (item_tupleT (l := .int r.i r.t :: r.rest) ⟨_, ho, rfl, _, rfl⟩ (by decide) (by decide) (j := 0) ?_ rfl ?_ (by with_unfolding_all rfl))
    · simp [seqIndex?]
    · refine str_of_int_fit (N := 1000000) ?_ (by decide) fun _ => ?_
      · have := hi r hrm
        split <;> omega
      · exact ⟨⟨_, by rw [hget]; rfl⟩, ⟨_, _, rfl, fun _ _ e => e⟩⟩
  · intro a9 C9 I9 h9 tk9 gens9 ps9 oa oc oi F9 N9 kp9 lt9 l1 l2 t9 b9 G9
    dsimp only
    have AG : ∀ hz mz, Fr g' L' hz mz → News g' L' hz ((103, tabO ps9) :: (a9, oa) :: (C9, oc) :: (I9, oi) :: (Wl, listOf (rs.map Row1.ref).toArray ep) :: rs.map Row1.obj) →
        (∀ b ∈ a9 :: C9 :: I9 :: Wl :: cStatics :: mainGlobals :: builtinsNs :: rs.map (·.a), ∀ o, h9.get? b = some o → hz.get? b = some o) ∧ ∀ b ∈ a9 :: C9 :: I9 :: Wl :: cStatics :: mainGlobals :: builtinsNs :: rs.map (·.a), b < hz.objs.size := by
      intro hz mz Fz Nz
      refine agree F9 N9 Fz Nz fun b hb => ?_
      rcases List.mem_cons.mp hb with rfl | hb
      · exact .inr ⟨_, .tail _ (.head _)⟩
      rcases List.mem_cons.mp hb with rfl | hb
      · exact .inr ⟨_, .tail _ (.tail _ (.head _))⟩
      rcases List.mem_cons.mp hb with rfl | hb
      · exact .inr ⟨_, .tail _ (.tail _ (.tail _ (.head _)))⟩
      rcases hkp b hb with h | ⟨o, h⟩
      · exact .inl h
      · exact .inr ⟨o, .tail _ (.tail _ (.tail _ (.tail _ h)))⟩
    have IM : ∀ i ∈ rs.map Row1.i, i.natAbs < 10 ^ 6 := fun i h => by
      obtain ⟨r, hr, rfl⟩ := List.mem_map.mp h
      exact hi r hr
    obtain ⟨ok1, ok2⟩ := nums_ok _ IM (by rw [List.length_map]; exact hn)
    have RG : (List.range (rs.map Row1.ref).length).map (fun j => ((rs.map Row1.i).map numS)[j]!) = (rs.map Row1.i).map numS := range_get _ (by simp)
    have BK : ∀ hz mz, Fr g' L' hz mz → News g' L' hz ((103, tabO ps9) :: (a9, oa) :: (C9, oc) :: (I9, oi) :: (Wl, listOf (rs.map Row1.ref).toArray ep) :: rs.map Row1.obj) →
        ∀ h' : Heap, (∀ b o, b ≠ C9 → b ≠ I9 → hz.get? b = some o → h'.get? b = some o) → (∀ b o, b ≠ 103 → s.heap.get? b = some o → h'.get? b = some o) ∧ h'.get? 103 = some (tabO ps9) := by
      intro hz mz Fz Nz h' hk
      have l103 : 103 < I9 := lt9 _ _ (N' _ (.head _)).1
      have sm : ∀ b o, s.heap.get? b = some o → b < I9 := fun b o e => by
        by_cases hb : b ∈ ((103, tabO ps) :: (Wl, listOf (rs.map Row1.ref).toArray ep) :: rs.map Row1.obj).map (·.1)
        · obtain ⟨q, hq, rfl⟩ := List.mem_map.mp hb
          exact lt9 _ _ (N' q hq).1
        · exact lt9 _ _ (F'.keep _ _ (hg' b o e hb))
      refine ⟨fun b o hb e => ?_, hk _ _ (Nat.ne_of_lt (Nat.lt_trans l103 l1)) (Nat.ne_of_lt l103) (Nz _ (.head _)).1⟩
      have hbI := sm b o e
      refine hk b o (Nat.ne_of_lt (Nat.lt_trans hbI l1)) (Nat.ne_of_lt hbI) ?_
      by_cases hm : b ∈ ((103, tabO ps) :: (Wl, listOf (rs.map Row1.ref).toArray ep) :: rs.map Row1.obj).map (·.1)
      · obtain ⟨q, hq, rfl⟩ := List.mem_map.mp hm
        rcases List.mem_cons.mp hq with rfl | hq
        · exact absurd rfl hb
        · have := (N q (.tail _ hq)).1
          rw [e] at this; cases this
          exact (Nz q (.tail _ (.tail _ (.tail _ (.tail _ hq))))).1
      · exact Fz.keep _ _ (hg' b o e hm)
    have hrl : (((rs.map Row1.ref).length : Nat) : Int) = (((rs.map Row1.i).length : Nat) : Int) := by rw [List.length_map, List.length_map]
    have hrn : (((rs.map Row1.i).length : Nat) : Int) ≤ 1000 := by rw [List.length_map]; omega
    repeat' (first
      | (fail_if_success (with_reducible show wpAny _ _ (call (Value.builtin "str.join") _) _ _ _)); (first
        | ((with_reducible show wpAny _ _ (call (Value.builtin "len") _) _ _ _); k_dflt (refine len_L (by k_asm) (by k_mem) hrl (by omega) ?_); intro t' k')
        | (k_unfold; (try dsimp only)) | walk1 | (dsimp only; walk1)))
    all_goals
      rename Fr _ _ _ _ => Fz
      rename News _ _ _ _ => Nz
      obtain ⟨ag1, ag2⟩ := AG _ _ Fz Nz
      refine gen_join (tx := fun j => ((rs.map Row1.i).map numS)[j]!) G9 b9 ag1 ag2 (fun j v h => h) (by rw [RG]; exact joinOk_of ok1) ?_ (by rw [List.length_map, sizeLine_eq]; omega)
      intro h8 gens8 tk8 t8 kp8 bare8
      obtain ⟨bk1, bk2⟩ := BK _ _ Fz Nz h8 kp8
      rw [RG]
      k_steps
    · exact hret _ _ _ _ _ bk1 bk2 t9 bare8 ⟨_, by unfold fmtL; rw [if_pos (by assumption)]⟩
    · exact hret _ _ _ _ _ bk1 bk2 t9 bare8 ⟨_, by unfold fmtL; rw [if_neg (by first | assumption | omega)]⟩
end Mine

namespace Mine
def EndG (h₀ : Heap) (L I : Addr) (o : Obj) (J : (Str → Option Value) → List (Addr × Obj) → Array GenState → Prop) (s s₂ : Shared) : Prop :=
  ∃ h gens tk m nx, s₂ = { s with heap := h, gens := gens, toks := tk } ∧ Fr h₀ L h m ∧ News h₀ L h ((I, o) :: nx) ∧ (∀ q ∈ nx, q.1 ≠ I) ∧ J m nx gens
def TurnG (h₀ : Heap) (L I : Addr) (o : Obj) (J : (Str → Option Value) → List (Addr × Obj) → Array GenState → Prop) (s : Shared) (Q : Flow → Shared → Prop) (f : Flow) (s₂ : Shared) : Prop :=
  match f with
  | .ret v => Q (.ret v) s₂
  | .brk => Q .next s₂
  | _ => EndG h₀ L I o J s s₂
section
variable {prog : Program} {w : World} {A : Around} {E : Value → Shared → Prop} {s : Shared} {env : Env} {h₀ : Heap} {body : List Stmt} {Q : Flow → Shared → Prop}
theorem forG {x : Str} {px : Pos} {r : Addr} {a₀ b₀ : Int} {t₀ u₀ v₀ : Tok} {n : Nat} {m₀ : Str → Option Value} {news : List (Addr × Obj)} (J : Nat → (Str → Option Value) → List (Addr × Obj) → Array GenState → Prop)
    (hh : A.handled = none) (hr : IsRange s.heap r a₀ b₀ 1 t₀ u₀ v₀) (hsmall : Builtin.Range.small a₀ b₀ 1 = true) (hsz : Builtin.Range.rangeSize a₀ b₀ 1 = (n : Int)) (F : Fr h₀ env.locals s.heap m₀) (N : News h₀ env.locals s.heap news) (hj : J 0 m₀ news s.gens)
    (turn : ∀ i (k : Int) t m₁ nx h gens tk I o, i < n → k = a₀ + (i : Int) → (∀ q ∈ nx, q.1 ≠ I) → J i m₁ nx gens → Fr h₀ env.locals h m₁ → News h₀ env.locals h ((I, o) :: nx) →
      wpAny (model prog w) A (storeName env x (.int k t)) (fun _ s₂ => wpAny (model prog w) A (execs body env) (TurnG h₀ env.locals I o (J (i + 1)) s Q) E s₂) E { s with heap := h, gens := gens, toks := tk })
    (done : ∀ m₁ nx h gens tk, J n m₁ nx gens → Fr h₀ env.locals h m₁ → News h₀ env.locals h nx → Q .next { s with heap := h, gens := gens, toks := tk })
    (hE : PassesOwn (model prog w) A env E) :
    wpAny (model prog w) A (pyIter (.ref r)) (fun it s₂ => codeAny (model prog w) A (.forLoop (.Name x px) it body [] env) (fun r s' => match r with | .ok f => Q f s' | .error e => cameBackBy (model prog w) A env E e s') s₂) E s := by
  refine wpAny_pyIter_range hr hsmall ?_
  have W : Walks prog w A s.heap.objs.size [s.heap.objs.size] [s.heap.objs.size] n (fun i v => i < n ∧ ∃ t, v = .int (a₀ + i * 1) t)
      (fun i h => IsRangeIter h s.heap.objs.size (a₀ + (i : Nat) * 1) ((n : Int) - (i : Nat)) 1) := (Walks.range hh _ a₀ 1 n).bound
  have hI0 : h₀.get? s.heap.objs.size = none := next_is_new F
  have hIL : s.heap.objs.size ≠ env.locals := fun e => Nat.lt_irrefl _ (e ▸ F.ns.lt)
  refine codeAny_forLoop (fun k s' => ∃ h gens tk m nx i, s' = { s with heap := h, gens := gens, toks := tk } ∧ IsRangeIter h s.heap.objs.size (a₀ + (i : Nat) * 1) ((n : Int) - (i : Nat)) 1 ∧ Fr h₀ env.locals h m ∧ News h₀ env.locals h nx ∧ (∀ q ∈ nx, q.1 ≠ s.heap.objs.size) ∧ J i m nx gens ∧ i ≤ n ∧ k = n + 1 - i) ?_ (n + 1)
    ⟨_, s.gens, _, m₀, news, 0, rfl, ?_, F.push _, (fun p hp => ⟨Heap.get?_push_of_some _ (N p hp).1, (N p hp).2⟩), ?_, hj, Nat.zero_le _, rfl⟩
  · rintro k s' ⟨h, gens, tk, m, nx, i, rfl, hst, F₁, N₁, hne, hJ, hi, rfl⟩
    have next : ∀ h₁ : Heap, (∀ b o, b ∉ [s.heap.objs.size] → h.get? b = some o → h₁.get? b = some o) → Fr h₀ env.locals h₁ m ∧ News h₀ env.locals h₁ nx := fun h₁ hk₁ =>
      ⟨⟨F₁.ns.at' fun o e => hk₁ _ o (fun hm => hIL (List.mem_singleton.mp hm).symm) e, fun b o e => hk₁ b o (fun hm => by rw [List.mem_singleton.mp hm, hI0] at e; cases e) (F₁.keep b o e), F₁.above⟩,
       fun q hq => ⟨hk₁ _ _ (fun hm => hne q hq (List.mem_singleton.mp hm)) (N₁ q hq).1, (N₁ q hq).2⟩⟩
    by_cases hlt : i < n
    · refine W.item i _ _ _ hlt hst ?_
      rintro v h₁ tk₁ ⟨_, t, rfl⟩ hst₁ hk₁
      obtain ⟨F₂, N₂⟩ := next h₁ hk₁
      refine wpAny_assign_Name ?_
      have N₃ : News h₀ env.locals h₁ ((s.heap.objs.size, _) :: nx) := fun q hq => by
        rcases List.mem_cons.mp hq with rfl | hq
        · exact ⟨hst₁, hIL, hI0⟩
        · exact N₂ q hq
      have tt := turn i (a₀ + (i : Nat) * 1) t m nx h₁ gens tk₁ _ _ hlt (by omega) hne hJ F₂ N₃
      refine wpAny_passesOwn hE (wpAny_mono tt (fun _ s₂ q => wpAny_passesOwn hE (wpAny_mono q (fun f s₃ z => ?_) fun _ _ e => e)) fun _ _ e => e)
      cases f with
      | ret v => exact z
      | brk => exact z
      | next =>
        obtain ⟨h', gens', tk', m', nx', rfl, F', N', hne', hJ'⟩ := z
        exact ⟨n + 1 - (i + 1), by omega, h', gens', tk', m', nx', i + 1, rfl, (N' _ (.head _)).1, F', fun q hq => N' q (.tail _ hq), hne', hJ', hlt, rfl⟩
      | cont =>
        obtain ⟨h', gens', tk', m', nx', rfl, F', N', hne', hJ'⟩ := z
        exact ⟨n + 1 - (i + 1), by omega, h', gens', tk', m', nx', i + 1, rfl, (N' _ (.head _)).1, F', fun q hq => N' q (.tail _ hq), hne', hJ', hlt, rfl⟩
    · have hin : i = n := by omega
      subst hin
      refine W.done _ _ _ hst fun h₁ tk₁ hk₁ => wpAny_execs_nil ?_
      obtain ⟨F₂, N₂⟩ := next h₁ hk₁
      exact done m nx h₁ gens tk₁ hJ F₂ N₂
  · show IsRangeIter _ _ _ _ _
    rw [hsz]
    simpa using Heap.get?_push_size _ rfl
  · intro p hp e
    exact absurd (Heap.lt_size (N p hp).1) (e ▸ Nat.lt_irrefl _)
end

section
variable {prog : Program} {w : World} {A : Around} {R : Result → Shared → Prop} {s : Shared}
abbrev Z : Type := Value × List (Addr × Obj)
def ZAt (h₁ : Heap) (C D : Addr) (wr : List Addr) (G : Value → Value → List (Addr × Obj) → Prop) (h : Heap) (v : Value) (z : Z) : Prop :=
  G v z.1 z.2 ∧ ∀ q ∈ z.2, h₁.get? q.1 = none ∧ q.1 ≠ C ∧ q.1 ∉ wr ∧ q.1 ≠ D ∧ h.get? q.1 = some q.2
theorem ZAt.keep {h₁ : Heap} {C D : Addr} {wr : List Addr} {G : Value → Value → List (Addr × Obj) → Prop} {h h' : Heap} {v : Value} {z : Z} (x : ZAt h₁ C D wr G h v z)
    (hk : ∀ b o, b ≠ C → b ∉ wr → b ≠ D → h.get? b = some o → h'.get? b = some o) : ZAt h₁ C D wr G h' v z :=
  ⟨x.1, fun q hq => let ⟨a, b, c, d, e⟩ := x.2 q hq; ⟨a, b, c, d, hk _ _ b c d e⟩⟩

theorem compLoop_own {elt iter : PySem.Expr} {x : Str} {px : Pos} {ifs : List PySem.Expr} {scope : Scope} {pos : Pos} {I D : Addr} {fp wr : List Addr} {n : Nat} {P : Nat → Value → Prop} {St : Nat → Heap → Prop}
    {cenv : Env} {m : Str → Option Value} (W : Walks prog w A I fp wr n P St) (p : Value → Bool) (G : Value → Value → List (Addr × Obj) → Prop)
    (hlive : ∀ i h, St i h → ∀ b ∈ wr, ∃ o, h.get? b = some o)
    (hx : cenv.kindOf x = some .local) (hp : (cenv.scope.kind == .class || (cenv.scope.kind == .module && cenv.locals != cenv.globals)) = false)
    (hDC : D ≠ cenv.locals) (hDf : D ∉ fp) (hCf : cenv.locals ∉ fp)
    (hst : St 0 s.heap) (hacc : s.heap.PlainList D #[]) (hn : s.heap.Ns cenv.locals m)
    (htests : ∀ i v s₂ m₂, P i v → s₂.heap.Ns cenv.locals m₂ → m₂ x = some v → (∀ b o, b ≠ cenv.locals → b ∉ wr → b ≠ D → s.heap.get? b = some o → s₂.heap.get? b = some o) → (s₂.gens = s.gens ∧ s₂.drawn = s.drawn ∧ s₂.os = s.os) →
      wpAny (model prog w) A (forIn ifs true fun c r => if r = true then do let ok ← isTrue c cenv (eval c cenv); pure (ForInStep.yield ok) else pure (ForInStep.yield r))
        (fun ok s₃ => ok = p v ∧ Keeps s₂ s₃) (notedBy (model prog w) A cenv fun e s' => R (.error e) s') s₂)
    (helt : ∀ i v s₂ m₂, P i v → p v = true → s₂.heap.Ns cenv.locals m₂ → m₂ x = some v → (∀ b o, b ≠ cenv.locals → b ∉ wr → b ≠ D → s.heap.get? b = some o → s₂.heap.get? b = some o) → (s₂.gens = s.gens ∧ s₂.drawn = s.drawn ∧ s₂.os = s.os) →
      wpAny (model prog w) A (eval elt cenv) (fun y s₃ => (∃ objs, G v y objs ∧ New s₂.heap s₃.heap objs) ∧ Keeps s₂ s₃) (notedBy (model prog w) A cenv fun e s' => R (.error e) s') s₂)
    (hR : ∀ h' tk m' (zs : List Z) (vs : List Value), h'.Ns cenv.locals m' → h'.PlainList D (zs.map (·.1)).toArray → vs.length = n → (∀ j v, vs[j]? = some v → P j v) →
      Paired (ZAt s.heap cenv.locals D wr G h') (vs.filter p) zs →
      (∀ b o, b ≠ cenv.locals → b ∉ wr → b ≠ D → s.heap.get? b = some o → h'.get? b = some o) → R (.ok .next) { s with heap := h', toks := tk })
    (hsz : n ≤ sizeLine) :
    codeAny (model prog w) A (.compLoop (.ListComp elt [⟨.Name x px, iter, ifs, 0⟩] scope pos) 0 (.ref I) (.ref D) cenv) R s := by
  refine codeAny_compLoop_tests
    (fun k s' => ∃ h' tk m', ∃ zs : List Z, ∃ vs : List Value, s' = { s with heap := h', toks := tk } ∧ St vs.length h' ∧ h'.PlainList D (zs.map (·.1)).toArray ∧ h'.Ns cenv.locals m' ∧ (∀ j v, vs[j]? = some v → P j v) ∧
      Paired (ZAt s.heap cenv.locals D wr G h') (vs.filter p) zs ∧ vs.length ≤ n ∧ k = n + 1 - vs.length ∧
      (∀ b o, b ≠ cenv.locals → b ∉ wr → b ≠ D → s.heap.get? b = some o → h'.get? b = some o)) ?_ (n + 1)
    ⟨s.heap, s.toks, m, [], [], rfl, hst, hacc, hn, by simp, by simpa using Paired.nil, Nat.zero_le _, rfl, fun _ _ _ _ _ e => e⟩
  rintro k s' ⟨H, tk, m', zs, vs, rfl, hst', hacc', hn', hP, hF, hi, rfl, hk⟩
  have hCw : cenv.locals ∉ wr := fun h => hCf (W.sub _ h)
  have hDw : D ∉ wr := fun h => hDf (W.sub _ h)
  by_cases hlt : vs.length < n
  · refine W.item vs.length _ _ _ hlt hst' fun v h₁ tk₁ hPv hst₁ hk₁ => ?_
    refine wpAny_assign_Name (wpAny_storeName_local hx (hn'.at' fun o e => hk₁ _ o hCw e) (fun h₂ hn₂ hs₂ => ?_) hp)
    have up₂ : ∀ b o, b ≠ cenv.locals → b ∉ wr → H.get? b = some o → h₂.get? b = some o := fun b o hbC hbf e => hs₂.extBut b o hbC (hk₁ b o hbf e)
    have hst₂ : St (vs.length + 1) h₂ := W.frame _ _ _ hst₁ fun b hb o e => hs₂.extBut b o (fun h => hCf (h ▸ hb)) e
    refine wpAny_mono (htests vs.length v _ _ hPv hn₂ (by simp) (fun b o hbC hbf hbD e => up₂ b o hbC hbf (hk b o hbC hbf hbD e)) ⟨rfl, rfl, rfl⟩) (fun ok s₃ h₃ => ?_) fun _ _ e => e
    obtain ⟨rfl, h₃, tk₃, rfl, hk₃⟩ := h₃
    have hst₃ : St (vs.length + 1) h₃ := W.frame _ _ _ hst₂ fun b _ o e => hk₃ b o e
    have hacc₃ : h₃.PlainList D (zs.map (·.1)).toArray := hacc'.at fun o e => hk₃ _ o (up₂ D o hDC hDw e)
    have hn₃ := hn₂.keeps hk₃
    have hP' : ∀ j u, (vs ++ [v])[j]? = some u → P j u := fun j u hj => by
      rcases Nat.lt_trichotomy j vs.length with h | h | h
      · exact hP j u (by rwa [List.getElem?_append_left h] at hj)
      · subst h; simp at hj; subst hj; exact hPv
      · have hnone : (vs ++ [v])[j]? = none := List.getElem?_eq_none (by rw [List.length_append, List.length_singleton]; omega)
        rw [hnone] at hj; cases hj
    have hF₃ : Paired (ZAt s.heap cenv.locals D wr G h₃) (vs.filter p) zs := hF.mono fun _ _ hy => hy.keep fun b o hbC hbf _ e => hk₃ b o (up₂ b o hbC hbf e)
    cases hpv : p v with
    | false =>
      simp only [Bool.false_eq_true, if_false]
      refine ⟨n + 1 - (vs.length + 1), by omega, h₃, tk₃, _, zs, vs ++ [v], rfl, by simpa using hst₃, hacc₃, hn₃, hP', ?_, (by rw [List.length_append, List.length_singleton]; exact hlt), (by rw [List.length_append, List.length_singleton]), fun b o hbC hbf hbD e => hk₃ b o (up₂ b o hbC hbf (hk b o hbC hbf hbD e))⟩
      rw [List.filter_append]; simpa [hpv] using hF₃
    | true =>
      simp only [if_true]
      refine wpAny_mono (helt vs.length v _ _ hPv hpv hn₃ (by simp) (fun b o hbC hbf hbD e => hk₃ b o (up₂ b o hbC hbf (hk b o hbC hbf hbD e))) ⟨rfl, rfl, rfl⟩) (fun y s₄ h₄ => ?_) fun _ _ e => e
      obtain ⟨⟨objs, hG, hnew⟩, h₄, tk₄, rfl, hk₄⟩ := h₄
      have fr : ∀ q ∈ objs, s.heap.get? q.1 = none ∧ q.1 ≠ cenv.locals ∧ q.1 ∉ wr ∧ q.1 ≠ D := fun q hq => by
        have hTnew := (hnew q hq).1
        have hTC : q.1 ≠ cenv.locals := by obtain ⟨_, _, _, ho, _⟩ := hn₃; exact ne_of_none_some hTnew ho
        have hTD : q.1 ≠ D := by obtain ⟨_, ho⟩ := hacc₃; exact ne_of_none_some hTnew ho
        have hTw : q.1 ∉ wr := fun hm => by obtain ⟨o, ho⟩ := hlive _ _ hst₃ q.1 hm; exact absurd rfl (ne_of_none_some hTnew ho)
        refine ⟨?_, hTC, hTw, hTD⟩
        cases e : s.heap.get? q.1 with
        | none => rfl
        | some o => exact absurd rfl (ne_of_none_some hTnew (hk₃ q.1 o (up₂ q.1 o hTC hTw (hk q.1 o hTC hTw hTD e))))
      have hys : (zs.map (·.1)).toArray.size ≤ sizeLine := by
        have e1 := hF.length
        have e2 : (vs.filter p).length ≤ vs.length := List.length_filter_le _ _
        simp
        omega
      refine wpAny_list_append_plain (hsz := hys) (hacc₃.at fun o e => hk₄ _ o e) fun h₅ hl₅ hs₅ => ?_
      refine ⟨n + 1 - (vs.length + 1), by omega, h₅, tk₄, _, zs ++ [(y, objs)], vs ++ [v], rfl, ?_, ?_, (hn₃.keeps hk₄).sameBut hs₅ (Ne.symm hDC), hP', ?_, (by rw [List.length_append, List.length_singleton]; exact hlt), (by rw [List.length_append, List.length_singleton]),
        fun b o hbC hbf hbD e => hs₅.extBut b o hbD (hk₄ b o (hk₃ b o (up₂ b o hbC hbf (hk b o hbC hbf hbD e))))⟩
      · have := W.frame _ _ h₅ hst₃ fun b hb o e => hs₅.extBut b o (fun h => hDf (h ▸ hb)) (hk₄ b o e)
        simpa using this
      · rw [show ((zs ++ [((y, objs) : Z)]).map (·.1)).toArray = (zs.map (·.1)).toArray.push y by simp]
        exact hl₅
      · have hF₅ := hF₃.mono (F' := ZAt s.heap cenv.locals D wr G h₅) fun _ _ hy => hy.keep fun b o _ _ hbD e => hs₅.extBut b o hbD (hk₄ b o e)
        have hy₅ : ZAt s.heap cenv.locals D wr G h₅ v (y, objs) := ⟨hG, fun q hq => let ⟨a, b, c, d⟩ := fr q hq; ⟨a, b, c, d, hs₅.extBut _ _ d (hnew q hq).2⟩⟩
        rw [List.filter_append]; simpa [hpv] using Paired.snoc hF₅ hy₅
  · have hin : vs.length = n := by omega
    refine W.done _ _ _ (hin ▸ hst') fun h₁ tk₁ hk₁ => ?_
    exact hR h₁ tk₁ m' zs vs (hn'.at' fun o e => hk₁ _ o hCw e) (hacc'.at fun o e => hk₁ _ o hDw e) hin hP (hF.mono fun _ _ hy => hy.keep fun b o _ hbf _ e => hk₁ b o hbf e) fun b o hbC hbf hbD e => hk₁ b o hbf (hk b o hbC hbf hbD e)
end
section
variable {prog : Program} {w : World} {A : Around} {E : Value → Shared → Prop} {env : Env}

structure QuietX (prog : Program) (w : World) (A : Around) (env : Env) (scope : Scope) (cl : List (Str × Addr)) (x : Str) (ifs : List PySem.Expr) (elt : PySem.Expr) (wr : List Addr) (P : Nat → Value → Prop) (p : Value → Bool)
    (G : Value → Value → List (Addr × Obj) → Prop) (s₂ : Shared) : Prop where
  tests : ∀ C i v s₃ m₃ E', s₂.heap.objs.size ≤ C → P i v → s₃.heap.Ns C m₃ → m₃ x = some v → (∀ b o, b ∉ wr → s₂.heap.get? b = some o → s₃.heap.get? b = some o) →
    wpAny (model prog w) A (forIn ifs true fun c r => if r = true then do let ok ← isTrue c (compEnvC scope cl C env) (eval c (compEnvC scope cl C env)); pure (ForInStep.yield ok) else pure (ForInStep.yield r))
      (fun ok s₄ => ok = p v ∧ Keeps s₃ s₄) E' s₃
  elt : ∀ C i v s₃ m₃ E', s₂.heap.objs.size ≤ C → P i v → p v = true → s₃.heap.Ns C m₃ → m₃ x = some v → (∀ b o, b ∉ wr → s₂.heap.get? b = some o → s₃.heap.get? b = some o) →
    wpAny (model prog w) A (eval elt (compEnvC scope cl C env)) (fun y s₄ => (∃ objs, G v y objs ∧ New s₃.heap s₄.heap objs) ∧ Keeps s₃ s₄) E' s₃

def SrcAt (prog : Program) (w : World) (A : Around) (env : Env) (scope : Scope) (cl : List (Str × Addr)) (x : Str) (ifs : List PySem.Expr) (elt : PySem.Expr) (p : Value → Bool) (G : Value → Value → List (Addr × Obj) → Prop) (Q : Value → Shared → Prop) (it : Value) (s₂ : Shared) : Prop :=
  ∃ I fp wr n P St, it = .ref I ∧ Walks prog w A I fp wr n P St ∧ n ≤ sizeLine ∧ (∀ i h, St i h → ∀ b ∈ wr, ∃ o, h.get? b = some o) ∧ St 0 s₂.heap ∧ (∀ b ∈ fp, b < s₂.heap.objs.size) ∧
      QuietX prog w A env scope cl x ifs elt wr P p G s₂ ∧
      (∀ D ep h' tk (zs : List Z) (vs : List Value), s₂.heap.get? D = none → h'.get? D = some (listOf (zs.map (·.1)).toArray ep) → vs.length = n → (∀ j v, vs[j]? = some v → P j v) → Paired (fun v z => G v z.1 z.2) (vs.filter p) zs → New s₂.heap h' (zs.flatMap (·.2)) →
        (∀ q ∈ zs.flatMap (·.2), q.1 ≠ D) →
        (∀ b o, b ∉ wr → s₂.heap.get? b = some o → h'.get? b = some o) → Q (.ref D) { s₂ with heap := h', toks := tk })
theorem comp_own {s : Shared} {elt iter : PySem.Expr} {x : Str} {px : Pos} {ifs : List PySem.Expr} {scope : Scope} {cl : List (Str × Addr)} {pos : Pos} {Q : Value → Shared → Prop} (p : Value → Bool) (G : Value → Value → List (Addr × Obj) → Prop)
    (hclos : closureFor scope env = pure cl) (hcell : ∀ y ∈ scope.names, y.2 ≠ .cell) (hkind : scope.kind = .function)
    (hnames : ∀ y ∈ scope.names, y.2 = .local → scope.names.lookup y.1 = some .local) (hx : scope.names.lookup x = some .local)
    (h : wpAny (model prog w) A (eval iter env) (fun xv s₁ => wpAny (model prog w) A (pyIter xv) (fun it s₂ => SrcAt prog w A env scope cl x ifs elt p G Q it s₂) E s₁) E s)
    (hs : ∀ x, foldedSetIterable iter env x = pure x) :
    wpAny (model prog w) A (eval (.ListComp elt [⟨.Name x px, iter, ifs, 0⟩] scope pos) env) Q E s := by
  rw [eval_ListComp]
  refine wpAny_comprehension_free (use := none) rfl hs hclos hkind hnames (wpAny_mono h (fun xv s₁ h₁ => wpAny_mono h₁ (fun it s₂ h₂ => ?_) fun _ _ e => e) fun _ _ e => e)
  obtain ⟨I, fp, wr, n, P, St, rfl, W, hsz, hlive, hst, hfp, hq, hQ⟩ := h₂
  refine wpAny_newObj_type (wpAny_newFunctionEnv hcell (by intro y hy; simp at hy) (fun h₁ hns₁ hsb₁ => ?_) hkind)
  dsimp only at hns₁ hsb₁ ⊢
  generalize hH2 : s₂.heap.push { cls := .type "list", dict := none, data := .seq ([] : List Value).toArray } = H2 at hns₁ hsb₁ ⊢
  have hC : H2.objs.size = s₂.heap.objs.size + 1 := by rw [← hH2, Heap.size_push]
  have hDC : s₂.heap.objs.size ≠ H2.objs.size := by rw [hC]; exact Nat.ne_of_lt (Nat.lt_succ_self _)
  have hCle : s₂.heap.objs.size ≤ H2.objs.size := by rw [hC]; exact Nat.le_succ _
  have below : ∀ b, b < s₂.heap.objs.size → b ≠ H2.objs.size ∧ b ≠ s₂.heap.objs.size := fun b hb => ⟨by rw [hC]; exact Nat.ne_of_lt (Nat.lt_succ_of_lt hb), Nat.ne_of_lt hb⟩
  have hDf : s₂.heap.objs.size ∉ fp := fun hm => Nat.lt_irrefl _ (hfp _ hm)
  have hCf : H2.objs.size ∉ fp := fun hm => by have := hfp _ hm; rw [hC] at this; exact Nat.lt_irrefl _ (Nat.lt_of_succ_lt this)
  have old : ∀ b o, s₂.heap.get? b = some o → h₁.get? b = some o := fun b o e => hsb₁.extBut b o (below b (Heap.lt_size e)).1 (Heap.get?_push_of_some _ (hH2 ▸ Heap.get?_push_of_some _ e))
  have hacc : h₁.PlainList s₂.heap.objs.size #[] := ⟨_, hsb₁.extBut _ _ hDC (Heap.get?_push_of_some _ (hH2 ▸ Heap.get?_push_size _ rfl))⟩
  have hst₁ : St 0 h₁ := W.frame _ _ _ hst fun b _ o e => old b o e
  have fresh : ∀ a, s₂.heap.objs.size ≤ a → s₂.heap.get? a = none := fun a ha => by
    cases e : s₂.heap.get? a with
    | none => rfl
    | some o' => exact absurd (Heap.lt_size e) (Nat.not_lt.mpr ha)
  have older : ∀ T, h₁.get? T = none → s₂.heap.get? T = none := fun T hT => by
    cases e : s₂.heap.get? T with
    | none => rfl
    | some o' => rw [old T o' e] at hT; cases hT
  have loop : ∀ s₃ : Shared, s₃ = { s₂ with heap := h₁, toks := s₂.toks + ([] : List (Str × Value)).length } →
      codeAny (model prog w) A (.compLoop (.ListComp elt [⟨.Name x px, iter, ifs, 0⟩] scope pos) 0 (.ref I) (.ref s₂.heap.objs.size) (compEnvC scope cl H2.objs.size env))
        (compPost (model prog w) A E none Q (.ref s₂.heap.objs.size) H2.objs.size) s₃ := by
    rintro s₃ rfl
    refine compLoop_own (hsz := hsz) (cenv := compEnvC scope cl H2.objs.size env) W p G hlive (lookup_relabel_local hx) (by simp [compEnvC, relabel, hkind]) hDC hDf hCf hst₁ hacc hns₁
      (fun i v s₃ m₃ hv hn hm hk _ => hq.tests _ i v s₃ m₃ _ hCle hv hn hm (fun b o hbf e => hk b o (below b (Heap.lt_size e)).1 hbf (below b (Heap.lt_size e)).2 (old b o e)))
      (fun i v s₃ m₃ hv hpv hn hm hk _ => hq.elt _ i v s₃ m₃ _ hCle hv hpv hn hm (fun b o hbf e => hk b o (below b (Heap.lt_size e)).1 hbf (below b (Heap.lt_size e)).2 (old b o e))) fun h' tk m' zs vs hn hpl hlen hP hF hk => ?_
    refine ⟨m', hn, fun h'' hs'' => ?_⟩
    obtain ⟨ep, hD⟩ := hpl
    have hall : ∀ q ∈ zs.flatMap (·.2), h₁.get? q.1 = none ∧ q.1 ≠ H2.objs.size ∧ q.1 ∉ wr ∧ q.1 ≠ s₂.heap.objs.size ∧ h'.get? q.1 = some q.2 := fun q hq' => by
      obtain ⟨z, hz, hqz⟩ := List.mem_flatMap.mp hq'
      obtain ⟨v, hv⟩ := Paired.right hF z hz
      exact hv.2 q hqz
    refine hQ _ ep h'' tk zs vs (fresh _ (Nat.le_refl _)) (hs''.extBut _ _ hDC hD) hlen hP (hF.mono fun _ _ hy => hy.1) (fun q hq' => ?_) (fun q hq' => (hall q hq').2.2.2.1) fun b o hbf e => ?_
    · obtain ⟨a, b, c, d, e⟩ := hall q hq'
      exact ⟨older _ a, hs''.extBut _ _ b e⟩
    · exact hs''.extBut b o (below b (Heap.lt_size e)).1 (hk b o (below b (Heap.lt_size e)).1 hbf (below b (Heap.lt_size e)).2 (old b o e))
  exact codeAny_compStart_list (loop _ rfl) (W.self 0 _ _ _ hst₁ (loop _ rfl))

variable {scope : Scope} {cl : List (Str × Addr)} {x : Str} {ifs : List PySem.Expr} {elt : PySem.Expr} {p : Value → Bool} {G : Value → Value → List (Addr × Obj) → Prop} {Q : Value → Shared → Prop} {s : Shared} {h₀ : Heap} {L : Addr} {m : Str → Option Value} {news : List (Addr × Obj)}
theorem src_end {h1 h' : Heap} {zs : List Z} {D : Addr} {ep : Nat} {wr : List Addr} (F : Fr h₀ L s.heap m) (N : News h₀ L s.heap news) (up : s.heap.StaysIn h1) (hD : h1.get? D = none) (hl : h'.get? D = some (listOf (zs.map (·.1)).toArray ep)) (hn : New h1 h' (zs.flatMap (·.2))) (hwr : ∀ b ∈ wr, s.heap.get? b = none)
    (hk : ∀ b o, b ∉ wr → h1.get? b = some o → h'.get? b = some o) : Fr h₀ L h' m ∧ News h₀ L h' ((D, listOf (zs.map (·.1)).toArray ep) :: (zs.flatMap (·.2) ++ news)) ∧ s.heap.StaysIn h' ∧ New s.heap h' ((D, listOf (zs.map (·.1)).toArray ep) :: zs.flatMap (·.2)) := by
  have st : s.heap.StaysIn h' := fun b o e => hk b o (fun hm => by rw [hwr b hm] at e; cases e) (up b o e)
  have nn : ∀ b, h1.get? b = none → s.heap.get? b = none := fun b e => by
    cases e' : s.heap.get? b with
    | none => rfl
    | some o => rw [up b o e'] at e; cases e
  have nw : New s.heap h' ((D, listOf (zs.map (·.1)).toArray ep) :: zs.flatMap (·.2)) := fun q hq => by
    rcases List.mem_cons.mp hq with rfl | hq
    · exact ⟨nn _ hD, hl⟩
    · exact ⟨nn _ (hn q hq).1, (hn q hq).2⟩
  have := news_new F N st nw
  exact ⟨fr_stays F st, by simpa using this, st, nw⟩
theorem src_list {D : Addr} {vs : List Value} {ep : Nat} (F : Fr h₀ L s.heap m) (N : News h₀ L s.heap news) (hm : (D, listOf vs.toArray ep) ∈ news) (hh : A.handled = none) (hz : vs.length ≤ 1000000)
    (htests : ∀ C (i : Nat) v s₃ m₃ E', vs[i]? = some v → s₃.heap.Ns C m₃ → m₃ x = some v → s.heap.StaysIn s₃.heap →
      wpAny (model prog w) A (forIn ifs true fun c r => if r = true then do let ok ← isTrue c (compEnvC scope cl C env) (eval c (compEnvC scope cl C env)); pure (ForInStep.yield ok) else pure (ForInStep.yield r)) (fun ok s₄ => ok = p v ∧ Keeps s₃ s₄) E' s₃)
    (helt : ∀ C (i : Nat) v s₃ m₃ E', vs[i]? = some v → p v = true → s₃.heap.Ns C m₃ → m₃ x = some v → s.heap.StaysIn s₃.heap →
      wpAny (model prog w) A (eval elt (compEnvC scope cl C env)) (fun y s₄ => (∃ objs, G v y objs ∧ New s₃.heap s₄.heap objs) ∧ Keeps s₃ s₄) E' s₃)
    (hQ : ∀ D' ep' h' tk (zs : List Z), Fr h₀ L h' m → News h₀ L h' ((D', listOf (zs.map (·.1)).toArray ep') :: (zs.flatMap (·.2) ++ news)) → Paired (fun v z => G v z.1 z.2) (vs.filter p) zs → s.heap.StaysIn h' →
      New s.heap h' ((D', listOf (zs.map (·.1)).toArray ep') :: zs.flatMap (·.2)) → (∀ q ∈ zs.flatMap (·.2), q.1 ≠ D') → Q (.ref D') { s with heap := h', toks := tk }) :
    wpAny (model prog w) A (pyIter (.ref D)) (fun it s₂ => SrcAt prog w A env scope cl x ifs elt p G Q it s₂) E s := by
  have hl := News.isList N hm
  have hlt : D < s.heap.objs.size := Heap.lt_size (N _ hm).1
  have hI : s.heap.get? s.heap.objs.size = none := by
    cases e : s.heap.get? s.heap.objs.size with
    | none => rfl
    | some o => exact absurd (Heap.lt_size e) (Nat.lt_irrefl _)
  refine wpAny_pyIter_list hl ?_
  have up : s.heap.StaysIn (s.heap.push { cls := .type "list_iterator", data := .fields #[.ref D, .int 0 0] }) := fun b o e => Heap.get?_push_of_some _ e
  have old : ∀ (s₃ : Shared), (∀ b o, b ∉ [s.heap.objs.size] → (s.heap.push { cls := .type "list_iterator", data := .fields #[.ref D, .int 0 0] }).get? b = some o → s₃.heap.get? b = some o) → s.heap.StaysIn s₃.heap := fun s₃ hk b o e =>
    hk b o (fun hm => by rw [List.mem_singleton.mp hm, hI] at e; cases e) (up b o e)
  refine ⟨_, _, _, _, _, _, rfl, Walks.list hh s.heap.objs.size D (Nat.ne_of_lt hlt) vs.toArray, by rw [List.size_toArray, sizeLine_eq]; omega, ?_, ⟨⟨_, Heap.get?_push_size _ rfl, rfl, rfl⟩, hl.at fun o e => up _ o e⟩, ?_, ⟨?_, ?_⟩, ?_⟩
  · rintro i h ⟨⟨o, ho, _⟩, _⟩ b hb
    rw [List.mem_singleton.mp hb]; exact ⟨o, ho⟩
  · intro b hb
    show b < (s.heap.push _).objs.size
    rw [Heap.size_push]
    rcases List.mem_cons.mp hb with rfl | hb
    · exact Nat.lt_succ_self _
    · rw [List.mem_singleton.mp hb]; exact Nat.lt_succ_of_lt hlt
  · intro C i v s₃ m₃ E' _ hP hn hx hk
    exact htests C i v s₃ m₃ E' (by simpa using hP) hn hx (old s₃ hk)
  · intro C i v s₃ m₃ E' _ hP hp hn hx hk
    exact helt C i v s₃ m₃ E' (by simpa using hP) hp hn hx (old s₃ hk)
  · intro D' ep' h' tk zs vs' hD hlD hlen hP hF hnew hne hk
    have ev : vs' = vs := by
      apply List.ext_getElem?
      intro j
      rcases Nat.lt_or_ge j vs'.length with h | h
      · have := hP j vs'[j] (List.getElem?_eq_getElem h)
        rw [List.getElem?_eq_getElem h]
        simpa using this.symm
      · rw [List.getElem?_eq_none h, List.getElem?_eq_none (by rw [hlen] at h; simpa using h)]
    subst ev
    obtain ⟨F', N', st, nw⟩ := src_end F N up hD hlD hnew (wr := [s.heap.objs.size]) (fun b hb => by rw [List.mem_singleton.mp hb]; exact hI) hk
    exact hQ D' ep' h' tk zs F' N' hF st nw hne
theorem src_range {r : Addr} {a₀ b₀ : Int} {t₀ u₀ v₀ : Tok} {n : Nat} (F : Fr h₀ L s.heap m) (N : News h₀ L s.heap news) (hh : A.handled = none) (hr : IsRange s.heap r a₀ b₀ 1 t₀ u₀ v₀) (hsmall : Builtin.Range.small a₀ b₀ 1 = true) (hsz : Builtin.Range.rangeSize a₀ b₀ 1 = (n : Int)) (hz : n ≤ 1000000)
    (htests : ∀ C (i : Nat) t s₃ m₃ E', i < n → s₃.heap.Ns C m₃ → m₃ x = some (.int (a₀ + (i : Nat)) t) → s.heap.StaysIn s₃.heap →
      wpAny (model prog w) A (forIn ifs true fun c r => if r = true then do let ok ← isTrue c (compEnvC scope cl C env) (eval c (compEnvC scope cl C env)); pure (ForInStep.yield ok) else pure (ForInStep.yield r)) (fun ok s₄ => ok = p (.int (a₀ + (i : Nat)) t) ∧ Keeps s₃ s₄) E' s₃)
    (helt : ∀ C (i : Nat) t s₃ m₃ E', i < n → p (.int (a₀ + (i : Nat)) t) = true → s₃.heap.Ns C m₃ → m₃ x = some (.int (a₀ + (i : Nat)) t) → s.heap.StaysIn s₃.heap →
      wpAny (model prog w) A (eval elt (compEnvC scope cl C env)) (fun y s₄ => (∃ objs, G (.int (a₀ + (i : Nat)) t) y objs ∧ New s₃.heap s₄.heap objs) ∧ Keeps s₃ s₄) E' s₃)
    (hQ : ∀ D' ep' h' tk (zs : List Z) (vs : List Value), Fr h₀ L h' m → News h₀ L h' ((D', listOf (zs.map (·.1)).toArray ep') :: (zs.flatMap (·.2) ++ news)) → vs.length = n → (∀ (j : Nat) v, vs[j]? = some v → ∃ t, v = .int (a₀ + (j : Nat)) t) → Paired (fun v z => G v z.1 z.2) (vs.filter p) zs → s.heap.StaysIn h' →
      New s.heap h' ((D', listOf (zs.map (·.1)).toArray ep') :: zs.flatMap (·.2)) → (∀ q ∈ zs.flatMap (·.2), q.1 ≠ D') → Q (.ref D') { s with heap := h', toks := tk }) :
    wpAny (model prog w) A (pyIter (.ref r)) (fun it s₂ => SrcAt prog w A env scope cl x ifs elt p G Q it s₂) E s := by
  have hI : s.heap.get? s.heap.objs.size = none := by
    cases e : s.heap.get? s.heap.objs.size with
    | none => rfl
    | some o => exact absurd (Heap.lt_size e) (Nat.lt_irrefl _)
  refine wpAny_pyIter_range hr hsmall ?_
  have W : Walks prog w A s.heap.objs.size [s.heap.objs.size] [s.heap.objs.size] n (fun i v => i < n ∧ ∃ t, v = .int (a₀ + i * 1) t)
      (fun i h => IsRangeIter h s.heap.objs.size (a₀ + (i : Nat) * 1) ((n : Int) - (i : Nat)) 1) := (Walks.range hh _ a₀ 1 n).bound
  have up : s.heap.StaysIn (s.heap.push { cls := .type "range_iterator", data := .fields #[rawInt a₀, rawInt (Builtin.Range.rangeSize a₀ b₀ 1), rawInt 1] }) := fun b o e => Heap.get?_push_of_some _ e
  have old : ∀ (s₃ : Shared), (∀ b o, b ∉ [s.heap.objs.size] → (s.heap.push { cls := .type "range_iterator", data := .fields #[rawInt a₀, rawInt (Builtin.Range.rangeSize a₀ b₀ 1), rawInt 1] }).get? b = some o → s₃.heap.get? b = some o) → s.heap.StaysIn s₃.heap := fun s₃ hk b o e =>
    hk b o (fun hm => by rw [List.mem_singleton.mp hm, hI] at e; cases e) (up b o e)
  refine ⟨_, _, _, _, _, _, rfl, W, by rw [sizeLine_eq]; omega, ?_, (by show IsRangeIter _ _ _ _ _; rw [hsz]; simpa using Heap.get?_push_size _ rfl), ?_, ⟨?_, ?_⟩, ?_⟩
  · intro i h hi b hb
    rw [List.mem_singleton.mp hb]; exact ⟨_, hi⟩
  · intro b hb
    show b < (s.heap.push _).objs.size
    rw [Heap.size_push, List.mem_singleton.mp hb]
    exact Nat.lt_succ_self _
  · rintro C i v s₃ m₃ E' _ ⟨hi, t, rfl⟩ hn hx hk
    rw [Int.mul_one] at hx ⊢
    exact htests C i t s₃ m₃ E' hi hn hx (old s₃ hk)
  · rintro C i v s₃ m₃ E' _ ⟨hi, t, rfl⟩ hp hn hx hk
    rw [Int.mul_one] at hx hp ⊢
    exact helt C i t s₃ m₃ E' hi hp hn hx (old s₃ hk)
  · intro D' ep' h' tk zs vs' hD hlD hlen hP hF hnew hne hk
    obtain ⟨F', N', st, nw⟩ := src_end F N up hD hlD hnew (wr := [s.heap.objs.size]) (fun b hb => by rw [List.mem_singleton.mp hb]; exact hI) hk
    exact hQ D' ep' h' tk zs vs' F' N' hlen (fun j v hv => let ⟨_, t, e⟩ := hP j v hv; ⟨t, by rw [e, Int.mul_one]⟩) hF st nw hne
end
end Mine

namespace Mine
def colF (size : Int) (σ : Int × Unit) (k : Str) : Int × Unit := if (k == Str.ofString "\t") = true then (σ.1 + size - σ.1.fmod size, ()) else (σ.1 + 1, ())
def colL (row : Str) (size : Int) : Int := (List.foldl (colF size) (0, ()) (signs row)).1
theorem col_spec {w : World} {p : Program} {loose : List Str} {mg mb : Str → Option Value} (row : Str) (size : Int) (tr ts : Tok) (h1 : 1 ≤ size) :
    Spec w p loose mg mb 122 [.str row tr, .int size ts] [] 1 8 (fun r h h' => ∃ t, r = .int (colL row size) t) := by
  unfold Spec; k_fill
  intro dp un gd cn cs a ccd cl outer A₀ base h₀ L m s Q E B F X N T hk hdp hun hret
  refine wpAny_call ?_
  k_dflt (refine' enter (binds := [(Str.ofString "row", .str row tr), (Str.ofString "size", .int size ts)]) ?k1 ?k2 ?k3 ?k4 ?k5 ?kA ?kF ?kK ?k6 ?k7 ?k8 ?k9 ?kB ?_ ?c2 ?c3 ?c4 ?c5; (case kA => exact rfl); (case kF => exact rfl); (case kK => assumption); (case k1 => k_asm); (case k2 => k_asm); (case k3 => k_asm); (case k4 => k_asm); (case k5 => k_asm); (case k6 => k_is); (case k7 => k_is); (case k8 => ktr_room); (case k9 => exact BindsTo.of_eq rfl); (case c5 => decide); (case kB => exact locs rfl); (case c2 => exact rfl); (case c3 => exact rfl); (case c4 => exact rfl); k_whole)
  intro g' L' h' hg' F' N' B' X' T' l0'
  dsimp only
  k_steps
  rename Fr _ _ _ _ => Fz
  rename News _ _ _ _ => Nz
  exact hret _ _ _ (back hg' N Fz Nz (fun _ h => nomatch h)) ⟨_, rfl⟩
end Mine

namespace Mine
section
variable {M : Model} {A : Around} {E : Value → Shared → Prop} {s : Shared} {h₀ : Heap} {L C c : Addr} {m m₃ mg mb : Str → Option Value} {scope : Scope} {cl : List (Str × Addr)} {env : Env} {p : Program} {loose : List Str} {x : Str} {pos : Pos} {v : Value} {o : Obj} {Q : Value → Shared → Prop}
theorem cname_B (F : Fr h₀ L s.heap m) (T : TopRead p loose mg mb h₀) (e : mg x = none) (hv : bootBuiltins x = some v) (hn : x ≠ "__name__") (h : Q v s) (hg : env.globals = mainGlobals) (hb : env.builtins = builtinsNs)
    (hk : (compEnvC scope cl C env).scope.kind = .function) (hx : (compEnvC scope cl C env).kindOf x = some .globalImplicit) (hd : (x == ("__debug__" : Str)) = false := by decide) :
    wpAny M A (eval (.Name x pos) (compEnvC scope cl C env)) Q E s :=
  Name_function_global hk hx (loadGlobal_builtin (env := compEnvC scope cl C env) (show s.heap.Ns env.globals mg from hg ▸ T.g.keeps F.keep) e (show s.heap.Ns env.builtins mb from hb ▸ T.b.keeps F.keep) ((T.builtins x hn).trans hv) h) hd
theorem cname_G (F : Fr h₀ L s.heap m) (T : TopRead p loose mg mb h₀) (e : mg x = some v) (h : Q v s) (hg : env.globals = mainGlobals)
    (hk : (compEnvC scope cl C env).scope.kind = .function) (hx : (compEnvC scope cl C env).kindOf x = some .globalImplicit) (hd : (x == ("__debug__" : Str)) = false := by decide) :
    wpAny M A (eval (.Name x pos) (compEnvC scope cl C env)) Q E s :=
  Name_function_global hk hx (loadGlobal_global (env := compEnvC scope cl C env) (show s.heap.Ns env.globals mg from hg ▸ T.g.keeps F.keep) e h) hd
theorem cname_L (hns : s.heap.Ns C m₃) (hv : m₃ x = some v) (h : Q v s) (hk : (compEnvC scope cl C env).scope.kind = .function) (hl : (compEnvC scope cl C env).kindOf x = some .local) (hd : (x == ("__debug__" : Str)) = false := by decide) :
    wpAny M A (eval (.Name x pos) (compEnvC scope cl C env)) Q E s := wpAny_Name (wpAny_loadName_local (env := compEnvC scope cl C env) hk hl hns hv h) hd
end
theorem fn_in {K : Frag} {h : Heap} {f : Addr} {oc : Value} {od : Option Addr} {fd : FuncData} {sl : Array (Option Value)} (X : K.In h) (e : K.lookup f = some ⟨oc, od, .func fd, sl⟩) : ∃ o fd, h.get? f = some o ∧ o.data = .func fd := ⟨_, fd, X _ _ e, rfl⟩
def maxL (ns : List Int) : Int := ns.foldr max 0
theorem maxL_eq {ns : List Int} {M : Int} (h1 : M ∈ ns) (h2 : ∀ a, a ∈ ns → a ≤ M) (h0 : 0 ≤ M) : M = maxL ns := by
  have up : ∀ (l : List Int), (∀ a, a ∈ l → a ≤ M) → maxL l ≤ M := by
    intro l
    induction l with
    | nil => intro _; exact h0
    | cons a l ih => intro h; have := ih fun b hb => h b (.tail _ hb); have := h a (.head _); show max a (maxL l) ≤ M; omega
  have lo : ∀ (l : List Int), M ∈ l → M ≤ maxL l := by
    intro l
    induction l with
    | nil => intro h; cases h
    | cons a l ih =>
      intro h
      show M ≤ max a (maxL l)
      rcases List.mem_cons.mp h with rfl | h
      · omega
      · have := ih h; omega
  have := up ns h2
  have := lo ns h1
  omega
def runsL (one two : Str) : List Int := (Txt.split ((one ++ Str.ofString "\t") ++ two) (Str.ofString "\t")).map fun r => (r.length : Int)
def topT (one two : Str) : Int := maxL (runsL one two) + 1
def tabL (one two : Str) (n : Nat) : List (Int × Int × Int) := (List.range n).map fun (j : Nat) => (1 + (j : Int), colL one (1 + (j : Int)), colL two (1 + (j : Int)))
def LenG (v y : Value) (objs : List (Addr × Obj)) : Prop := objs = [] ∧ ∃ x t u, v = .str x t ∧ y = .int (x.length : Int) u
theorem len_pairs : ∀ {l : List (Str × Tok)} {zs : List Z}, Paired (fun v z => LenG v z.1 z.2) (strValues l) zs → zs.flatMap (·.2) = [] ∧ IntsAre (zs.map (·.1)) ((l.map (·.1)).map fun r => (r.length : Int))
  | [], _, .nil => ⟨rfl, .nil⟩
  | (x, t) :: l, _, .cons h hs => by
    obtain ⟨h1, x', t', u, e1, e2⟩ := h
    obtain ⟨i1, i2⟩ := len_pairs (l := l) hs
    cases e1
    rename_i b l2
    obtain ⟨y, ob⟩ := b
    subst e2 h1
    exact ⟨by rw [List.flatMap_cons, i1]; rfl, .cons _ _ i2⟩
def TabG (one two : Str) (v y : Value) (objs : List (Addr × Obj)) : Prop := ∃ (T : Addr) (k : Int) (t t1 t2 t3 : Tok), v = .int k t ∧ y = .ref T ∧ objs = [(T, tupOf [.int k t1, .int (colL one k) t2, .int (colL two k) t3])]
theorem tab_pairs {one two : Str} : ∀ {vs : List Value} {zs : List Z} (a₀ : Int), (∀ (j : Nat) v, vs[j]? = some v → ∃ t, v = .int (a₀ + (j : Int)) t) → Paired (fun v z => TabG one two v z.1 z.2) vs zs →
    ∃ rs : List Row, zs.map (·.1) = rs.map Row.ref ∧ zs.flatMap (·.2) = rs.map Row.obj ∧ rs.map Row.val = (List.range vs.length).map fun (j : Nat) => (a₀ + (j : Int), colL one (a₀ + (j : Int)), colL two (a₀ + (j : Int)))
  | [], _, _, _, .nil => ⟨[], rfl, rfl, rfl⟩
  | v :: vs, _, a₀, hv, .cons h hs => by
    obtain ⟨rs, e1, e2, e3⟩ := tab_pairs (a₀ + 1) (fun j v' h' => by
      obtain ⟨t, e⟩ := hv (j + 1) v' (by simpa using h')
      exact ⟨t, by rw [e]; congr 1; push_cast; omega⟩) hs
    obtain ⟨T, k, t, t1, t2, t3, rfl, g2, g3⟩ := h
    obtain ⟨t', e⟩ := hv 0 _ rfl
    have hk : k = a₀ := by injection e with e _; simpa using e
    subst hk
    rename_i b l2
    refine ⟨⟨T, k, colL one k, colL two k, t1, t2, t3⟩ :: rs, ?_, ?_, ?_⟩
    · rw [List.map_cons, List.map_cons, e1, g2]; rfl
    · rw [List.flatMap_cons, e2, g3]; rfl
    · rw [List.map_cons, e3, List.length_cons, List.range_succ_eq_map, List.map_cons, List.map_map]
      refine List.cons_eq_cons.mpr ⟨?_, List.map_congr_left fun j _ => ?_⟩
      · show (k, colL one k, colL two k) = _
        simp
      · show _ = (k + ((j + 1 : Nat) : Int), colL one (k + ((j + 1 : Nat) : Int)), colL two (k + ((j + 1 : Nat) : Int)))
        have : k + 1 + (j : Int) = k + ((j + 1 : Nat) : Int) := by push_cast; omega
        rw [this]
theorem mem_le_sum : ∀ (l : List Nat) (a : Nat), a ∈ l → a ≤ l.sum
  | b :: l, a, h => by
    rw [List.sum_cons]
    rcases List.mem_cons.mp h with rfl | h
    · omega
    · have := mem_le_sum l a h; omega
theorem runs_bound (one two : Str) {n : Nat} (h1 : one.length ≤ n) (h2 : two.length ≤ n) : ∀ a ∈ runsL one two, 0 ≤ a ∧ a ≤ 2 * (n : Int) + 1 := by
  intro a ha
  unfold runsL at ha
  obtain ⟨r, hr, rfl⟩ := List.mem_map.mp ha
  have hw := split_weight ((one ++ Str.ofString "\t") ++ two) (Str.ofString "\t") (by decide)
  have hp := split_pos ((one ++ Str.ofString "\t") ++ two) (Str.ofString "\t")
  have hle : r.length ≤ ((Txt.split ((one ++ Str.ofString "\t") ++ two) (Str.ofString "\t")).map (·.length)).sum := mem_le_sum _ _ (List.mem_map.mpr ⟨r, hr, rfl⟩)
  have hl : ((one ++ Str.ofString "\t") ++ two).length = one.length + 1 + two.length := by
    rw [Str.length_append, Str.length_append]; rfl
  omega
section
theorem table_spec {w : World} {p : Program} {loose : List Str} {mg mb : Str → Option Value} (one two : Str) (t1 t2 : Tok) (h1 : one.length ≤ 1000) (h2 : two.length ≤ 1000) :
    Spec w p loose mg mb 127 [.str one t1, .str two t2] [] 2 20 (fun r h h' => ∃ (D : Addr) (ep : Nat) (rs : List Row), r = .ref D ∧ rs.map Row.val = tabL one two (topT one two).toNat ∧ New h h' ((D, listOf (rs.map Row.ref).toArray ep) :: rs.map Row.obj)) := by
  unfold Spec; k_fill
  intro dp un gd cn cs a ccd cl outer A₀ base h₀ L m s Q E B F X N T hk hdp hun hret
  refine wpAny_call ?_
  k_dflt (refine' enterC (binds := [(Str.ofString "one", .str one t1), (Str.ofString "two", .str two t2)]) ?k1 ?k2 ?k3 ?k4 ?k5 ?kA ?kF ?kK ?k6 ?k7 ?k8 ?k9 ?kB ?kD ?_ ?c2 ?c3 ?c4; (case kA => exact rfl); (case kF => exact rfl); (case kK => assumption); (case k1 => k_asm); (case k2 => k_asm); (case k3 => k_asm); (case k4 => k_asm); (case k5 => k_asm); (case k6 => k_is); (case k7 => k_is); (case k8 => ktr_room); (case k9 => exact BindsTo.of_eq rfl); (case kB => exact rfl); (case kD => decide +kernel); (case c2 => exact rfl); (case c3 => exact rfl); (case c4 => exact rfl); k_whole)
  intro g' L' h' tk' cells' hg' F' N' Y' B' X' T' l0'
  obtain ⟨oc2, oc1, rfl, dc2, dc1⟩ := CellsAre.two Y'
  clear Y'
  change oc2.data = .cell (some (.str two t2)) at dc2
  change oc1.data = .cell (some (.str one t1)) at dc1
  change News g' L' h' [(L' + 1 + 1, oc2), (L' + 1, oc1)] at N'
  dsimp only
  have mlen : mg (Str.ofString "len") = none := mg_none_of X' T'.g (by k_is)
  have mcol : mg (Str.ofString "_law_column") = some (.ref 122) := mg_of X' T'.g (by k_is)
  obtain ⟨o122, fd122, hf1, hf2⟩ := fn_in (f := 122) X' (by k_is)
  repeat' (first | (fail_if_success (with_reducible show wpAny _ _ (eval (Expr.ListComp _ _ _ _) _) _ _ _)); (first | ((with_reducible show wpAny _ _ (call (Value.builtin "str.split") _) _ _ _); (with_reducible show wpAny _ _ (call (Value.builtin "str.split") [Value.str _ _, Value.str _ _]) _ _ _); (refine KSpl.split1 (by k_asm) (by k_asm) (by decide) ?_ (by (try rw [Str.length_append]); (try rw [Str.length_append]); rw [sizeLine_eq]; (try rw [show (Str.ofString "\t").length = 1 from rfl]); omega)); intro D' l' h' k' e' a' F' N' l1; clear l1 a') | (k_unfold; (try dsimp only)) | walk1 | (dsimp only; walk1)))
  refine comp_own (cl := []) (fun _ => true) LenG rfl (by decide) rfl (by decide) rfl ?_ (fun _ => rfl)
  repeat' (first | (fail_if_success (with_reducible show wpAny _ _ (pyIter _) _ _ _)); (first | ((with_reducible show wpAny _ _ (call (Value.builtin "str.split") _) _ _ _); (with_reducible show wpAny _ _ (call (Value.builtin "str.split") [Value.str _ _, Value.str _ _]) _ _ _); (refine KSpl.split1 (by k_asm) (by k_asm) (by decide) ?_ (by (try rw [Str.length_append]); (try rw [Str.length_append]); rw [sizeLine_eq]; (try rw [show (Str.ofString "\t").length = 1 from rfl]); omega)); intro D' l' h' k' e' a' F' N' l1; clear l1 a') | (k_unfold; (try dsimp only)) | walk1 | (dsimp only; walk1)))
  rename Fr _ _ _ _ => Fz
  rename News _ _ _ _ => Nz
  rename List.map _ _ = Txt.split _ _ => e1
  rename List (Str × Tok) => l1
  have hw1 := split_facts e1 (by decide)
  have hl1 : ((one ++ Str.ofString "\t") ++ two).length = one.length + 1 + two.length := by
    rw [Str.length_append, Str.length_append]; rfl
  rw [hl1] at hw1
  refine src_list Fz Nz (.head _) rfl (by simp [strValues]; omega) ?_ ?_ ?_
  · intro C i v s₃ m₃ E' _ _ _ _
    exact wpAny_tests_nil ⟨rfl, ⟨_, _, rfl, fun _ _ e => e⟩⟩
  · intro C i v s₃ m₃ E' hv _ hns hm st
    obtain ⟨x, t, hx, rfl⟩ : ∃ (x : Str) (t : Tok), (x, t) ∈ l1 ∧ v = .str x t := by
      unfold strValues at hv
      rw [List.getElem?_map] at hv
      obtain ⟨q, hq, e⟩ := Option.map_eq_some_iff.mp hv
      exact ⟨q.1, q.2, List.mem_of_getElem? hq, e.symm⟩
    have hxl : x.length ≤ _ := mem_le_sum _ _ (List.mem_map_of_mem (f := (·.length)) (List.mem_map_of_mem (f := (·.1)) hx))
    refine Call_Name1 (cname_B (fr_stays Fz st) T' mlen boot_len (by decide) ?_ rfl rfl rfl rfl) rfl
    refine callWith_builtin1 (cname_L hns hm ?_ rfl rfl)
    refine len_str (by omega) ?_
    exact ⟨⟨[], ⟨rfl, x, t, _, rfl, rfl⟩, fun _ h => nomatch h⟩, ⟨_, _, rfl, fun _ _ e => e⟩⟩
  intro D9 ep9 h9 tk9 zs9 F9 N9 pr9 st9 nw9 ne9
  rw [List.filter_eq_self.mpr (fun _ _ => rfl)] at pr9
  obtain ⟨z1, z2⟩ := len_pairs pr9
  rw [e1] at z2
  rw [z1] at N9
  change News g' L' h9 ((D9, listOf (zs9.map (·.1)).toArray ep9) :: _) at N9
  change IntsAre _ (runsL one two) at z2
  clear Fz Nz
  have hrp : 0 < (runsL one two).length := by
    unfold runsL; rw [List.length_map, ← e1, List.length_map]; omega
  have hrb := runs_bound one two h1 h2
  repeat' (first | (fail_if_success (with_reducible show wpAny _ _ (call (Value.builtin "max") _) _ _ _)); (first | ((with_reducible show wpAny _ _ (call (Value.builtin "str.split") _) _ _ _); (with_reducible show wpAny _ _ (call (Value.builtin "str.split") [Value.str _ _, Value.str _ _]) _ _ _); (refine KSpl.split1 (by k_asm) (by k_asm) (by decide) ?_ (by (try rw [Str.length_append]); (try rw [Str.length_append]); rw [sizeLine_eq]; (try rw [show (Str.ofString "\t").length = 1 from rfl]); omega)); intro D' l' h' k' e' a' F' N' l1; clear l1 a') | (k_unfold; (try dsimp only)) | walk1 | (dsimp only; walk1)))
  refine max_list_N rfl F9 N9 (News.isList N9 (.head _)) z2 hrp ?_
  intro h8 M t8 tk8 F8 N8 hM1 hM2
  have hMb := hrb M hM1
  have hM := maxL_eq hM1 hM2 hMb.1
  clear F9 N9
  repeat' (first | (fail_if_success (with_reducible show wpAny _ _ (eval (Expr.ListComp _ _ _ _) _) _ _ _)); (first | ((with_reducible show wpAny _ _ (call (Value.builtin "str.split") _) _ _ _); (with_reducible show wpAny _ _ (call (Value.builtin "str.split") [Value.str _ _, Value.str _ _]) _ _ _); (refine KSpl.split1 (by k_asm) (by k_asm) (by decide) ?_ (by (try rw [Str.length_append]); (try rw [Str.length_append]); rw [sizeLine_eq]; (try rw [show (Str.ofString "\t").length = 1 from rfl]); omega)); intro D' l' h' k' e' a' F' N' l1; clear l1 a') | (k_unfold; (try dsimp only)) | walk1 | (dsimp only; walk1)))
  refine comp_own (cl := [(Str.ofString "two", L' + 1 + 1), (Str.ofString "one", L' + 1)]) (fun _ => true) (TabG one two) (by with_unfolding_all rfl) (by decide) rfl (by decide) rfl ?_ (fun _ => rfl)
  repeat' (first | (fail_if_success (with_reducible show wpAny _ _ (pyIter _) _ _ _)); (first | ((with_reducible show wpAny _ _ (call (Value.builtin "str.split") _) _ _ _); (with_reducible show wpAny _ _ (call (Value.builtin "str.split") [Value.str _ _, Value.str _ _]) _ _ _); (refine KSpl.split1 (by k_asm) (by k_asm) (by decide) ?_ (by (try rw [Str.length_append]); (try rw [Str.length_append]); rw [sizeLine_eq]; (try rw [show (Str.ofString "\t").length = 1 from rfl]); omega)); intro D' l' h' k' e' a' F' N' l1; clear l1 a') | (k_unfold; (try dsimp only)) | walk1 | (dsimp only; walk1)))
  rename IsRange _ _ _ _ _ _ _ _ => hR
  rename Fr _ _ _ _ => Fz
  rename News _ _ _ _ => Nz
  refine src_range (n := (M + 1).toNat) Fz Nz rfl hR (small_one (by omega) (by omega) (by omega) (by omega)) (by rw [rangeSize_one (by omega) (by omega)]; omega) (by omega) ?_ ?_ ?_
  · intro C i v s₃ m₃ E' _ _ _ _
    exact wpAny_tests_nil ⟨rfl, ⟨_, _, rfl, fun _ _ e => e⟩⟩
  · intro C i t s₃ m₃ E' hi _ hns hm st
    have F3 := fr_stays Fz st
    have N3 := news_stays Nz st
    refine wpAny_Tuple_spliced ?_
    refine spliced_cons (cname_L hns hm ?_ rfl rfl)
    refine spliced_cons (Call_Name2 (cname_G F3 T' mcol ?_ rfl rfl rfl) rfl)
    refine Calls.callWith_function (o := o122) (fd := fd122) (Calls.evalArgs_plain ?_)
    refine spliced_cons (lcf_cell N3 rfl (by k_mem) dc1 ?_ rfl rfl)
    refine spliced_cons (cname_L hns hm ?_ rfl rfl)
    refine spliced_nil ⟨⟨F3.keep _ _ hf1, hf2⟩, ?_⟩
    show wpAny _ _ (call (Value.ref 122) [Value.str one t1, Value.int (1 + (i : Int)) t]) _ _ _
    k_dflt (refine use (col_spec one (1 + (i : Int)) t1 t (by omega)) B' F3 X' N3 (fun _ h => nomatch h) T' rfl (by ktr_room) (by ktr_units) ?_)
    rintro r8 h8 tk8 F8 N8 st8 ⟨u8, rfl⟩
    refine spliced_cons (Call_Name2 (cname_G F8 T' mcol ?_ rfl rfl rfl) rfl)
    refine Calls.callWith_function (o := o122) (fd := fd122) (Calls.evalArgs_plain ?_)
    refine spliced_cons (lcf_cell N8 rfl (by k_mem) dc2 ?_ rfl rfl)
    refine spliced_cons (cname_L (hns.keeps st8) hm ?_ rfl rfl)
    refine spliced_nil ⟨⟨F8.keep _ _ hf1, hf2⟩, ?_⟩
    show wpAny _ _ (call (Value.ref 122) [Value.str two t2, Value.int (1 + (i : Int)) t]) _ _ _
    k_dflt (refine use (col_spec two (1 + (i : Int)) t2 t (by omega)) B' F8 X' N8 (fun _ h => nomatch h) T' rfl (by ktr_room) (by ktr_units) ?_)
    rintro r6 h6 tk6 F6 N6 st6 ⟨u6, rfl⟩
    refine spliced_nil ⟨by rw [sizeLine_eq]; exact Nat.le_of_ble_eq_true rfl, ?_⟩
    have up : s₃.heap.StaysIn h6 := fun b o e => st6 b o (st8 b o e)
    refine ⟨⟨[(h6.objs.size, tupOf [.int (1 + (i : Int)) t, .int (colL one (1 + (i : Int))) u8, .int (colL two (1 + (i : Int))) u6])], ⟨h6.objs.size, 1 + (i : Int), t, t, u8, u6, rfl, rfl, rfl⟩, fun q hq => ?_⟩, ⟨_, _, rfl, fun b o e => Heap.get?_push_of_some _ (up b o e)⟩⟩
    rw [List.mem_singleton.mp hq]
    refine ⟨?_, Heap.get?_push_size _ rfl⟩
    cases e : s₃.heap.get? h6.objs.size with
    | none => rfl
    | some o => exact absurd (Heap.lt_size (up _ _ e)) (Nat.lt_irrefl _)
  · intro D7 ep7 h7 tk7 zs7 vs7 F7 N7 hl7 hv7 pr7 st7 nw7 ne7
    rw [List.filter_eq_self.mpr (fun _ _ => rfl)] at pr7
    obtain ⟨rs, r1, r2, r3⟩ := tab_pairs 1 hv7 pr7
    rw [r1, r2] at N7
    repeat' (first | ((with_reducible show wpAny _ _ (call (Value.builtin "str.split") _) _ _ _); (with_reducible show wpAny _ _ (call (Value.builtin "str.split") [Value.str _ _, Value.str _ _]) _ _ _); (refine KSpl.split1 (by k_asm) (by k_asm) (by decide) ?_ (by (try rw [Str.length_append]); (try rw [Str.length_append]); rw [sizeLine_eq]; (try rw [show (Str.ofString "\t").length = 1 from rfl]); omega)); intro D' l' h' k' e' a' F' N' l1; clear l1 a') | (k_unfold; (try dsimp only)) | walk1 | (dsimp only; walk1))
    refine hret _ _ _ (back hg' N F7 N7 (fun _ h => nomatch h)) ⟨D7, ep7, rs, rfl, ?_, new1 hg' N7 (fun q hq => ?_) (fun _ _ _ h => nomatch h)⟩
    · rw [r3, hl7]
      unfold tabL topT
      rw [← hM]
    · rcases List.mem_cons.mp hq with rfl | hq
      · exact .head _
      · exact .tail _ (List.mem_append_left _ hq)
end
end Mine

namespace Mine
abbrev SpecP (w : World) (p : Program) (loose : List Str) (mg mb : Str → Option Value) (f : Addr) (args : List Value) (Pre : Heap → Prop) (need : List (Addr × Obj)) (d u : Nat) (Post : Value → Heap → Heap → Prop) : Prop :=
  ∀ (dp un : Nat) (gd : Option (List Code)) (cn : Str) (cs : Scope) (a : Addr) (ccd : Value) (cl : List (Str × Addr)) (outer : List Env) (A₀ : Around) (base h₀ : Heap) (L : Addr) (m : Str → Option Value) (s : Shared) (Q E : Value → Shared → Prop),
    Pre h₀ → Below A₀ base outer h₀ → Fr h₀ L s.heap m → (hd.heap_39 w.params).In h₀ → News h₀ L s.heap need → TopRead p loose mg mb h₀ → cs.kind = .function → dp + d < recursionLimit → un + u < cLine →
    (∀ r h' tk', s.heap.StaysIn h' → Post r s.heap h' → Q r { s with heap := h', toks := tk' }) →
    wpAny (model PySem.Challenge.rw_mj0163_01.prog w) (ktrTop dp un gd cn cs L a ccd cl outer) (call (.ref f) args) Q E s
theorem use2 {w : World} {p : Program} {loose : List Str} {mg mb : Str → Option Value} {f : Addr} {args : List Value} {need news : List (Addr × Obj)} {d u : Nat} {Post : Value → Heap → Heap → Prop} (S : Spec w p loose mg mb f args need d u Post)
    {dp un : Nat} {gd : Option (List Code)} {cn : Str} {cs : Scope} {a : Addr} {ccd : Value} {cl : List (Str × Addr)} {outer : List Env} {A₀ : Around} {base h₀ : Heap} {L : Addr} {m : Str → Option Value} {s : Shared} {Q E : Value → Shared → Prop}
    (B : Below A₀ base outer h₀) (F : Fr h₀ L s.heap m) (X : (hd.heap_39 w.params).In h₀) (N : News h₀ L s.heap news) (hs : ∀ q ∈ need, q ∈ news) (T : TopRead p loose mg mb h₀) (hk : cs.kind = .function) (hd : dp + d < recursionLimit) (hu : un + u < cLine)
    (h : ∀ r h' tk', Fr h₀ L h' m → (∀ objs, New s.heap h' objs → News h₀ L h' (objs ++ news) ∧ ∀ q ∈ news, ∀ o ∈ objs, q.1 ≠ o.1) → Post r s.heap h' → Q r { s with heap := h', toks := tk' }) :
    wpAny (model PySem.Challenge.rw_mj0163_01.prog w) (ktrTop dp un gd cn cs L a ccd cl outer) (call (.ref f) args) Q E s :=
  S dp un gd cn cs a ccd cl outer A₀ base h₀ L m s Q E B F X (news_sub N hs) T hk hd hu fun r h' tk' st po => h r h' tk' (fr_stays F st) (fun objs hn => ⟨news_new F N st hn, fun q hq o ho => ne_new N (hn o ho).1 q hq⟩) po
theorem new_one {h h' : Heap} {D : Addr} {o : Obj} (h1 : h.get? D = none) (h2 : h'.get? D = some o) : New h h' [(D, o)] := fun q hq => by rw [List.mem_singleton.mp hq]; exact ⟨h1, h2⟩
theorem news_swap {h₀ h : Heap} {L : Addr} {a b : Addr × Obj} (N : News h₀ L h [a, b]) : News h₀ L h [b, a] := fun q hq => by
  rcases List.mem_cons.mp hq with rfl | hq
  · exact N _ (.tail _ (.head _))
  · rw [List.mem_singleton.mp hq]; exact N _ (.head _)
def rowOf (y : Int) : Str := Txt.mul (Str.ofString " ") (y.fmod 3) ++ Txt.mul (Str.ofString "\t") ((y.fdiv 3).fmod 3) ++ Txt.mul (Str.ofString " ") ((y.fdiv 9).fmod 3) ++ Txt.mul (Str.ofString "\t") (y.fdiv 27)
def rowsL (ns : List Int) : List Str := [Str.ofString "   \t  ", Str.ofString " \t \t"] ++ (ns.take 4).map fun x => rowOf (x.fmod 54)
def RowsJ (S lr D : Addr) (ws : List Value) (n4 : List Int) (i : Nat) (m : Str → Option Value) (nx : List (Addr × Obj)) : Prop :=
  ∃ (rl : List (Str × Tok)) (ep : Nat), Has m [(Str.ofString "script", .ref S), (Str.ofString "rows", .ref lr)] ∧ nx = [(lr, listOf (strValues rl).toArray ep), (D, listOf ws.toArray 0)] ∧ rl.map (·.1) = [Str.ofString "   \t  ", Str.ofString " \t \t"] ++ (n4.take i).map fun x => rowOf (x.fmod 54)
section
variable {prog : Program} {w : World} {A : Around} {E : Value → Shared → Prop} {s : Shared} {h₀ : Heap} {L : Addr} {m : Str → Option Value} {Q : Value → Shared → Prop}
theorem append_1 {la : Addr} {vs : List Value} {n : Nat} {v : Value} {rest : List (Addr × Obj)} (F : Fr h₀ L s.heap m) (N : News h₀ L s.heap ((la, listOf vs.toArray n) :: rest)) (h2 : ∀ q ∈ rest, q.1 ≠ la) (hz : vs.length ≤ 1000000)
    (h : ∀ h', Fr h₀ L h' m → News h₀ L h' ((la, listOf (vs ++ [v]).toArray (n + 1)) :: rest) → Q .none { s with heap := h' }) : wpAny (model prog w) A (call (.builtin "list.append") [.ref la, v]) Q E s := by
  refine append_K F N (Upd.head h2) (fun h' F' N' => h h' F' ?_) (by rw [List.size_toArray, sizeLine_eq]; omega)
  rw [List.push_toArray] at N'
  exact N'
end
theorem rows_end {S lr D : Addr} {ws : List Value} {n4 : List Int} {i ep tk : Nat} {g h' : Heap} {L : Addr} {m' : Str → Option Value} {own : List (Addr × Obj)} {s₁ : Shared} {rl : List (Str × Tok)} {x : Str} {t : Tok} {n : Int}
    (F : Fr g L h' m') (N : News g L h' ((lr, listOf (strValues rl ++ [Value.str x t]).toArray (ep + 1)) :: (D, listOf ws.toArray 0) :: own)) (hm : Has m' [(Str.ofString "script", .ref S), (Str.ofString "rows", .ref lr)])
    (hr : rl.map (·.1) = [Str.ofString "   \t  ", Str.ofString " \t \t"] ++ (n4.take i).map fun x => rowOf (x.fmod 54)) (hn : n4[i]? = some n) (e : x = rowOf (n.fmod 54)) (ho : OwnOff own [lr, D]) :
    InvEndG g L (fun m' nx => (D, listOf ws.toArray 0) ∈ nx ∧ RowsJ S lr D ws n4 (i + 1) m' nx) own s₁ { s₁ with heap := h', toks := tk } := by
  have e1 : strValues rl ++ [Value.str x t] = strValues (rl ++ [(x, t)]) := by unfold strValues; rw [List.map_append]; rfl
  rw [e1] at N
  refine InvEndG.intro (nx := [(lr, listOf (strValues (rl ++ [(x, t)])).toArray (ep + 1)), (D, listOf ws.toArray 0)]) F N ⟨.tail _ (.head _), rl ++ [(x, t)], ep + 1, hm, rfl, ?_⟩ ho ?_ ?_
  · rw [List.map_append, hr, List.take_add_one, hn, List.map_append, List.append_assoc, e]; rfl
  · intro q hq
    rcases List.mem_cons.mp hq with rfl | hq
    · exact .head _
    · rw [List.mem_singleton.mp hq]; exact .tail _ (.head _)
  · intro q hq
    exact .tail _ (.tail _ hq)
theorem mul60 {c : Str} {k : Int} (hc : c.length ≤ 1) (hk : k ≤ 60) : (Txt.mul c k).length ≤ 60 := len_mul_leN (N := 60) hc hk
theorem fit2 {a b : Nat} (h1 : a ≤ 60) (h2 : b ≤ 60) : a + b ≤ sizeLine := by rw [sizeLine_eq]; omega
theorem fit3 {a b c : Nat} (h1 : a ≤ 60) (h2 : b ≤ 60) (h3 : c ≤ 60) : a + b + c ≤ sizeLine := by rw [sizeLine_eq]; omega
theorem fit4 {a b c d : Nat} (h1 : a ≤ 60) (h2 : b ≤ 60) (h3 : c ≤ 60) (h4 : d ≤ 60) : a + b + c + d ≤ sizeLine := by rw [sizeLine_eq]; omega
theorem mod3_le (y : Int) : y.fmod 3 ≤ 60 := by have := Int.fmod_lt_of_pos y (show (0 : Int) < 3 by decide); omega
theorem div27_le (n : Int) : (n.fmod 54).fdiv 27 ≤ 60 := by
  have h1 : 0 ≤ n.fmod 54 := Int.fmod_nonneg_of_pos n (by decide)
  have h2 := Int.fmod_lt_of_pos n (show (0 : Int) < 54 by decide)
  rw [Int.fdiv_eq_ediv_of_nonneg _ (by decide)]
  omega
theorem rows_spec {w : World} {p : Program} {loose : List Str} {mg mb : Str → Option Value} {S : Addr} {vs : List Value} {ns : List Int} (hi : IntsAre vs ns) (hl : ns.length ≤ 63) :
    SpecP w p loose mg mb 115 [.ref S] (fun h => h.IsList S vs.toArray) [] 1 8 (fun r h h' => ∃ (D : Addr) (ep : Nat) (rl : List (Str × Tok)), r = .ref D ∧ rl.map (·.1) = rowsL ns ∧ New h h' [(D, listOf (strValues rl).toArray ep)]) := by
  unfold SpecP; k_fill
  intro dp un gd cn cs a ccd cl outer A₀ base h₀ L m s Q E hS B F X N T hk hdp hun hret
  refine wpAny_call ?_
  k_dflt (refine' enter (binds := [(Str.ofString "script", .ref S)]) ?k1 ?k2 ?k3 ?k4 ?k5 ?kA ?kF ?kK ?k6 ?k7 ?k8 ?k9 ?kB ?_ ?c2 ?c3 ?c4 ?c5; (case kA => exact rfl); (case kF => exact rfl); (case kK => assumption); (case k1 => k_asm); (case k2 => k_asm); (case k3 => k_asm); (case k4 => k_asm); (case k5 => k_asm); (case k6 => k_is); (case k7 => k_is); (case k8 => ktr_room); (case k9 => exact BindsTo.of_eq rfl); (case c5 => decide); (case kB => exact locs rfl); (case c2 => exact rfl); (case c3 => exact rfl); (case c4 => exact rfl); k_whole)
  intro g' L' h' hg' F' N' B' X' T' l0'
  dsimp only
  have st' := stay_hid hg' F N
  have hS' : g'.IsList S vs.toArray := hS.at fun o e => st' _ o e
  clear hS
  have hvl := hi.length
  repeat' (first | (fail_if_success (with_reducible show wpAny _ _ (exec (Stmt.For _ _ _ _ _) _) _ _ _)); (first | (k_unfold; (try dsimp only)) | walk1 | (dsimp only; walk1)))
  refine For_invV g' rfl rfl ?_ (by intro _; rfl) (by passes_own)
  repeat' (first | (fail_if_success (with_reducible show wpAny _ _ (pyIter _) _ _ _)); (first | (k_unfold; (try dsimp only)) | walk1 | (dsimp only; walk1)))
  rename Fr _ _ _ _ => Fz
  rename News _ _ _ _ => Nz
  rename IntsAre _ (List.take 4 ns) => hI4
  rename List Value => ws4
  rename_i lr _ _ _ D4 _ _ _ l14
  have n14 := neN (Nat.ne_of_lt l14)
  have Nz2 := news_swap Nz
  refine kdl_iter (RowsJ S lr D4 ws4 (ns.take 4)) rfl (.tail _ (.head _)) Fz Nz2 ?_ ?_ ?_
  · exact ⟨[(_, _), (_, _)], 0, ⟨rfl, rfl, trivial⟩, rfl, rfl⟩
  · rintro i v m₁ nx h tk own hv ho hmem ⟨rl, ep, hm, rfl, hr⟩ F₁ N₁
    rw [← ovr_eq hm] at F₁
    change Fr g' L' h _ at F₁
    change News g' L' h ((lr, listOf (strValues rl).toArray ep) :: (D4, listOf ws4.toArray 0) :: own) at N₁
    clear hm Fz Nz Nz2
    have hil : i < (ns.take 4).length := by
      rw [← hI4.length]
      exact (List.getElem?_eq_some_iff.mp hv).1
    have hn : (ns.take 4)[i]? = some (ns.take 4)[i] := List.getElem?_eq_getElem hil
    generalize (ns.take 4)[i] = n at hn
    obtain ⟨t, ht⟩ := hI4.get i n hn
    have ev : v = .int n t := by rw [hv] at ht; exact Option.some.inj ht
    subst ev
    have hrl : rl.length ≤ 100 := by
      have := congrArg List.length hr
      rw [List.length_map, List.length_append, List.length_map, List.length_take] at this
      have h4 : (ns.take 4).length ≤ 4 := List.length_take_le _ _
      simp at this
      omega
    have hne : ∀ q ∈ (D4, listOf ws4.toArray 0) :: own, q.1 ≠ lr := by
      intro q hq
      rcases List.mem_cons.mp hq with rfl | hq
      · exact Ne.symm n14
      · exact ho q hq lr (.head _)
    have f1 : (Txt.mul (Str.ofString " ") ((n.fmod 54).fmod 3)).length ≤ 60 := mul60 (by decide) (mod3_le _)
    have f2 : (Txt.mul (Str.ofString "\t") (((n.fmod 54).fdiv 3).fmod 3)).length ≤ 60 := mul60 (by decide) (mod3_le _)
    have f3 : (Txt.mul (Str.ofString " ") (((n.fmod 54).fdiv 9).fmod 3)).length ≤ 60 := mul60 (by decide) (mod3_le _)
    have f4 : (Txt.mul (Str.ofString "\t") ((n.fmod 54).fdiv 27)).length ≤ 60 := mul60 (by decide) (div27_le _)
    repeat' (first
      | ((with_reducible show wpAny _ _ (binaryOp Operator.Add (Value.str _ _) (Value.str _ _)) _ _ _); (refine SB.add ?_ (by (try rw [Str.length_append]); (try rw [Str.length_append]); first | exact fit2 f1 f2 | exact fit3 f1 f2 f3 | exact fit4 f1 f2 f3 f4)); intro t' k')
      | ((with_reducible show wpAny _ _ (call (Value.builtin "list.append") _) _ _ _); k_dflt (refine append_1 (by k_asm) (by k_asm) hne (by unfold strValues; rw [List.length_map]; omega) ?_); intro h9 F9 N9)
      | (k_unfold; (try dsimp only)) | walk1 | (dsimp only; walk1))
    exact rows_end F9 N9 ⟨rfl, rfl, trivial⟩ hr hn rfl ho
  · rintro m₁ nx h tk ⟨rl, ep, hm, rfl, hr⟩ F₁ N₁
    rw [← ovr_eq hm] at F₁
    change Fr g' L' h _ at F₁
    change News g' L' h _ at N₁
    k_steps
    refine hret _ _ _ (back hg' N F₁ N₁ (fun _ h => nomatch h)) ⟨lr, ep, rl, rfl, ?_, new1 hg' N₁ (fun q hq => ?_) (fun _ _ _ h => nomatch h)⟩
    · rw [hr, hI4.length, List.take_of_length_le (Nat.le_refl _)]; rfl
    · rw [List.mem_singleton.mp hq]; exact .head _
end Mine

namespace Mine
theorem splitdocL_len (doc : Str) : (splitdocL doc).1.length ≤ doc.length + 1 ∧ (splitdocL doc).2.length ≤ doc.length + 1 := by
  have hs := len_strip doc
  have hw := split_weight (Txt.strip doc) (Str.ofString "\n") (by decide)
  unfold splitdocL
  split
  · exact ⟨Nat.zero_le _, Nat.zero_le _⟩
  · rename_i a e
    rw [e] at hw
    simp at hw
    exact ⟨by dsimp only; omega, Nat.zero_le _⟩
  · rename_i a b r e
    rw [e] at hw
    simp only [List.map_cons, List.sum_cons, List.length_cons] at hw
    have hn : (Str.ofString "\n").length = 1 := rfl
    split
    · have hj := join_len (Str.ofString "\n") r
      rw [hn] at hj
      refine ⟨by dsimp only; omega, by dsimp only; omega⟩
    · have hj := join_len (Str.ofString "\n") (a :: b :: r)
      rw [hn] at hj
      simp only [List.map_cons, List.sum_cons, List.length_cons] at hj
      exact ⟨Nat.zero_le _, by dsimp only; omega⟩
def peelStep (st : List Str × Str) : List Str × Str := if st.2.length = 0 then st else (st.1 ++ [(splitdocL st.2).1], (splitdocL st.2).2)
def peelN (text : Str) : Nat → List Str × Str
  | 0 => ([], text)
  | i + 1 => peelStep (peelN text i)
def peelL (text : Str) : List Str := (peelN text 9).1
def PeelJ (lh : Addr) (text : Str) (i : Nat) (m : Str → Option Value) (nx : List (Addr × Obj)) : Prop :=
  ∃ (hl : List (Str × Tok)) (ep : Nat) (tx : Str) (t : Tok), Has m [(Str.ofString "text", .str tx t), (Str.ofString "heads", .ref lh)] ∧ nx = [(lh, listOf (strValues hl).toArray ep)] ∧ (hl.map (·.1), tx) = peelN text i ∧ tx.length ≤ 10000 + i ∧ hl.length ≤ i
theorem peel_same {lh : Addr} {text : Str} {i ep tk : Nat} {g h' : Heap} {L : Addr} {m' : Str → Option Value} {own : List (Addr × Obj)} {s₁ : Shared} {hl : List (Str × Tok)} {tx : Str} {t : Tok} (F : Fr g L h' m') (N : News g L h' ((lh, listOf (strValues hl).toArray ep) :: own))
    (hm : Has m' [(Str.ofString "text", .str tx t), (Str.ofString "heads", .ref lh)]) (hp : (hl.map (·.1), tx) = peelN text i) (h0 : tx.length = 0) (h1 : tx.length ≤ 10000 + i) (h2 : hl.length ≤ i) (ho : OwnOff own [lh]) : InvEndG g L (PeelJ lh text (i + 1)) own s₁ { s₁ with heap := h', toks := tk } := by
  refine InvEndG.intro (nx := [(lh, listOf (strValues hl).toArray ep)]) F N ⟨hl, ep, tx, t, hm, rfl, ?_, by omega, by omega⟩ ho (fun q hq => by rw [List.mem_singleton.mp hq]; exact .head _) (fun q hq => .tail _ hq)
  show _ = peelStep (peelN text i)
  rw [← hp]
  unfold peelStep
  rw [if_pos h0]
theorem peel_more {lh : Addr} {text : Str} {i ep tk : Nat} {g h' : Heap} {L : Addr} {m' : Str → Option Value} {own news' : List (Addr × Obj)} {s₁ : Shared} {hl : List (Str × Tok)} {tx : Str} {t1 t2 : Tok} (F : Fr g L h' m') (N : News g L h' news')
    (hs : ∀ q ∈ (lh, listOf (strValues hl ++ [Value.str (splitdocL tx).1 t1]).toArray (ep + 1)) :: own, q ∈ news')
    (hm : Has m' [(Str.ofString "text", .str (splitdocL tx).2 t2), (Str.ofString "heads", .ref lh)]) (hp : (hl.map (·.1), tx) = peelN text i) (h0 : tx.length ≠ 0) (h1 : tx.length ≤ 10000 + i) (h2 : hl.length ≤ i) (ho : OwnOff own [lh]) : InvEndG g L (PeelJ lh text (i + 1)) own s₁ { s₁ with heap := h', toks := tk } := by
  have e1 : strValues hl ++ [Value.str (splitdocL tx).1 t1] = strValues (hl ++ [((splitdocL tx).1, t1)]) := by unfold strValues; rw [List.map_append]; rfl
  rw [e1] at hs
  have hlen := (splitdocL_len tx).2
  refine InvEndG.intro (nx := [(lh, listOf (strValues (hl ++ [((splitdocL tx).1, t1)])).toArray (ep + 1))]) F N ⟨_, ep + 1, _, t2, hm, rfl, ?_, by omega, by simp; omega⟩ ho (fun q hq => hs q (by rw [List.mem_singleton.mp hq]; exact .head _)) (fun q hq => hs q (.tail _ hq))
  show _ = peelStep (peelN text i)
  rw [← hp]
  unfold peelStep
  rw [if_neg h0, List.map_append]
  rfl
theorem str_empty {x : Str} : (x == Str.ofString "") = true ↔ x.length = 0 := by
  constructor
  · intro h
    have := eq_of_beq h
    rw [this]; rfl
  · intro h
    have : x = Str.ofString "" := by
      cases x with | mk cps =>
      have hs : cps.size = 0 := h
      have : cps = #[] := Array.eq_empty_of_size_eq_zero hs
      rw [this]; rfl
    rw [this]; decide
theorem peel_spec {w : World} {p : Program} {loose : List Str} {mg mb : Str → Option Value} (text : Str) (t : Tok) (ht : text.length ≤ 10000) :
    Spec w p loose mg mb 139 [.str text t] [] 2 20 (fun r h h' => ∃ (D : Addr) (ep : Nat) (hl : List (Str × Tok)), r = .ref D ∧ hl.map (·.1) = peelL text ∧ New h h' [(D, listOf (strValues hl).toArray ep)]) := by
  unfold Spec; k_fill
  intro dp un gd cn cs a ccd cl outer A₀ base h₀ L m s Q E B F X N T hk hdp hun hret
  refine wpAny_call ?_
  k_dflt (refine' enter (binds := [(Str.ofString "text", .str text t)]) ?k1 ?k2 ?k3 ?k4 ?k5 ?kA ?kF ?kK ?k6 ?k7 ?k8 ?k9 ?kB ?_ ?c2 ?c3 ?c4 ?c5; (case kA => exact rfl); (case kF => exact rfl); (case kK => assumption); (case k1 => k_asm); (case k2 => k_asm); (case k3 => k_asm); (case k4 => k_asm); (case k5 => k_asm); (case k6 => k_is); (case k7 => k_is); (case k8 => ktr_room); (case k9 => exact BindsTo.of_eq rfl); (case c5 => decide); (case kB => exact locs rfl); (case c2 => exact rfl); (case c3 => exact rfl); (case c4 => exact rfl); k_whole)
  intro g' L' h' hg' F' N' B' X' T' l0'
  dsimp only
  repeat' (first | (fail_if_success (with_reducible show wpAny _ _ (exec (Stmt.For _ _ _ _ _) _) _ _ _)); (first | (k_unfold; (try dsimp only)) | walk1 | (dsimp only; walk1)))
  refine For_invV g' rfl rfl ?_ (by intro _; rfl) (by passes_own)
  repeat' (first | (fail_if_success (with_reducible show wpAny _ _ (pyIter _) _ _ _)); (first | (k_unfold; (try dsimp only)) | walk1 | (dsimp only; walk1)))
  rename IsRange _ _ _ _ _ _ _ _ => hR
  rename Fr _ _ _ _ => Fz
  rename News _ _ _ _ => Nz
  rename_i lh _ _ _ _ _ _ _ _ _ _ _
  refine loop_range (PeelJ lh text) (n := 9) rfl hR (by decide) (by decide) Fz Nz ?_ ?_ ?_
  · exact ⟨[], 0, text, t, ⟨rfl, rfl, trivial⟩, rfl, rfl, by omega, by simp⟩
  · rintro i k t1 m₁ nx h tk own hin rfl ho ⟨hl, ep, tx, t2, hm, rfl, hp, hl1, hl2⟩ F₁ N₁
    rw [← ovr_eq hm] at F₁
    change Fr g' L' h _ at F₁
    change News g' L' h ((lh, listOf (strValues hl).toArray ep) :: own) at N₁
    clear hm Fz Nz hR
    by_cases h0 : tx.length = 0
    · have hb : (tx != Str.ofString "") = false := by
        unfold bne; rw [str_empty.mpr h0]; rfl
      k_steps
      exact peel_same F₁ N₁ ⟨rfl, rfl, trivial⟩ hp h0 hl1 hl2 ho
    · have hb : (tx != Str.ofString "") = true := by
        unfold bne
        cases e : tx == Str.ofString "" with
        | false => rfl
        | true => exact absurd (str_empty.mp e) h0
      have hne : ∀ q ∈ own, q.1 ≠ lh := fun q hq => ho q hq lh (.head _)
      have hlen := splitdocL_len tx
      have spl := @splitdoc_spec w p loose mg mb tx t2 (by omega)
      repeat' (first
        | ((with_reducible show wpAny _ _ (call (Value.ref 28) _) _ _ _); k_dflt (refine use2 spl (by k_asm) (by k_asm) (by k_asm) (by k_asm) (fun _ h => nomatch h) (by k_asm) rfl (by ktr_room) (by ktr_units) ?_); rintro r9 h9 tk9 F9 M9 ⟨D9, u9, v9, rfl, f9, g9⟩; (obtain ⟨N9, nn9⟩ := M9 _ (new_one f9 g9)); (have ne9 := neN (nn9 _ (.head _) _ (.head _))); (change News g' L' h9 ((D9, tupOf [Value.str (splitdocL tx).1 u9, Value.str (splitdocL tx).2 v9]) :: (lh, listOf (strValues hl).toArray ep) :: own) at N9); clear M9 N₁ F₁ nn9 f9 g9)
        | ((with_reducible show wpAny _ _ (call (Value.builtin "list.append") _) _ _ _); k_dflt (refine append_2 (by k_asm) (by k_asm) (Ne.symm ne9) hne (by unfold strValues; rw [List.length_map]; omega) ?_); intro h8 F8 N8)
        | (k_unfold; (try dsimp only)) | walk1 | (dsimp only; walk1))
      exact peel_more F8 N8 (fun q hq => .tail _ hq) ⟨rfl, rfl, trivial⟩ hp h0 hl1 hl2 ho
  · rintro m₁ nx h tk ⟨hl, ep, tx, t2, hm, rfl, hp, hl1, hl2⟩ F₁ N₁
    rw [← ovr_eq hm] at F₁
    change Fr g' L' h _ at F₁
    change News g' L' h _ at N₁
    k_steps
    refine hret _ _ _ (back hg' N F₁ N₁ (fun _ h => nomatch h)) ⟨lh, ep, hl, rfl, ?_, new1 hg' N₁ (fun q hq => hq) (fun _ _ _ h => nomatch h)⟩
    unfold peelL
    rw [← hp]
end Mine

namespace Mine
theorem readsAll_strs {h : Heap} : ∀ (l : List (Str × Tok)), ReadsAll h (strValues l) ((l.map (·.1)).map PyData.str) []
  | [] => .nil
  | (x, t) :: r => by
    have := ReadsAll.cons (Reads.str (h := h) x t) (readsAll_strs (h := h) r)
    simpa [strValues] using this
theorem reads_strs {h : Heap} {a : Addr} {l : List (Str × Tok)} (hl : h.IsList a (strValues l).toArray) : Reads h (.ref a) (.list ((l.map (·.1)).map PyData.str)) [a] := by
  obtain ⟨o, ho, hc, n, hd⟩ := hl
  exact Reads.list ho hc hd (by simpa using readsAll_strs l)
theorem depthAll_strs : ∀ ns : List Str, PyData.depthAll (ns.map PyData.str) ≤ 1
  | [] => by simp [PyData.depthAll]
  | n :: r => by
    have := depthAll_strs r
    simp only [List.map_cons, PyData.depthAll, PyData.depth]
    omega
theorem shaped_strs (ns : List Str) (hok : ns.all PyData.strOk = true) : SeqAt.shaped (.list (ns.map PyData.str)) = true := by
  have h1 := depthAll_strs ns
  have h2 : PyData.depth (.list (ns.map PyData.str)) ≤ 64 := by simp only [PyData.depth]; omega
  show (PyData.canLay0 (.list (ns.map PyData.str)) && decide (PyData.depth (.list (ns.map PyData.str)) ≤ 64)) = true
  rw [Bool.and_eq_true]
  exact ⟨by simp only [PyData.canLay0]; rw [canLayAll_strs']; exact hok, decide_eq_true h2⟩
theorem noMix_strs : ∀ ns ms : List Str, SeqAt.noMixAll (ns.map PyData.str) (ms.map PyData.str) = true
  | [], [] => by simp [SeqAt.noMixAll]
  | [], _ :: _ => by simp [SeqAt.noMixAll]
  | _ :: _, [] => by simp [SeqAt.noMixAll]
  | _ :: r, _ :: q => by simp [SeqAt.noMixAll, SeqAt.noMix, noMix_strs r q]
theorem same_strs : ∀ ns : List Str, PySem.Spec.sameAll (ns.map PyData.str) (ns.map PyData.str) = true
  | [] => by simp [PySem.Spec.sameAll]
  | n :: r => by simp [PySem.Spec.sameAll, PySem.Spec.same, same_strs r]
theorem ne_strs {prog : Program} {w : World} {A : Around} {E : Value → Shared → Prop} {s : Shared} {a b : Addr} {l l' : List (Str × Tok)} {Q : Value → Shared → Prop} (hl : s.heap.IsList a (strValues l).toArray) (hl' : s.heap.IsList b (strValues l').toArray) (e : l.map (·.1) = l'.map (·.1)) (hok : (l'.map (·.1)).all PyData.strOk = true) (hu : A.units + 64 < cLine)
    (h : Q (.bool false) s) : wpAny (model prog w) A (compareOp .NotEq (.ref a) (.ref b)) Q E s :=
  ne_dataH_same (reads_strs hl) (reads_strs hl') (shaped_strs _ (e ▸ hok)) (shaped_strs _ hok) hu (by simp only [SeqAt.noMix]; exact noMix_strs _ _) (by simp only [PySem.Spec.same]; rw [e, same_strs]; exact h)
theorem eq_tup2 {prog : Program} {w : World} {A : Around} {E : Value → Shared → Prop} {s : Shared} {a b : Addr} {x y : Str} {t u t' u' : Tok} {Q : Value → Shared → Prop} (ha : s.heap.get? a = some (tupOf [.str x t, .str y u])) (hb : s.heap.get? b = some (tupOf [.str x t', .str y u'])) (h1 : PyData.strOk x = true) (h2 : PyData.strOk y = true) (hu : A.units + 64 < cLine)
    (h : Q (.bool true) s) : wpAny (model prog w) A (compareOp .Eq (.ref a) (.ref b)) Q E s := by
  have sh : SeqAt.shaped (.tuple [.str x, .str y]) = true := by
    simp [SeqAt.shaped, PyData.canLay0, PyData.canLayAll0, PyData.depth, PyData.depthAll, h1, h2]
  have r1 : Reads s.heap (.ref a) (.tuple [.str x, .str y]) [] := reads_tuple_at ha rfl rfl (ReadsAll.cons (Reads.str x t) (ReadsAll.cons (Reads.str y u) ReadsAll.nil))
  have r2 : Reads s.heap (.ref b) (.tuple [.str x, .str y]) [] := reads_tuple_at hb rfl rfl (ReadsAll.cons (Reads.str x t') (ReadsAll.cons (Reads.str y u') ReadsAll.nil))
  refine eq_dataH_same r1 r2 sh sh hu (by simp [SeqAt.noMix, SeqAt.noMixAll]) ?_
  have : PySem.Spec.same (.tuple [.str x, .str y]) (.tuple [.str x, .str y]) = true := by simp [PySem.Spec.same, PySem.Spec.sameAll]
  rw [this]; exact h
def wordL (nums : List Str) : Str := if 1 < nums.length then Str.ofString "at tab sizes " else Str.ofString "at tab size "
def dueL (nums : List Str) : Str × Str := if 1 < nums.length then (Str.ofString "", Txt.join (Str.ofString "\n") nums) else (Txt.join (Str.ofString "") nums, Str.ofString "")
theorem reads_spec {w : World} {p : Program} {loose : List Str} {mg mb : Str → Option Value} {head : Str} {t : Tok} {Nl : Addr} {nl : List (Str × Tok)} {ep : Nat} (hh : head.length ≤ 500) (hn : nl.length ≤ 100) (hnw : ((nl.map (·.1)).map (·.length)).sum ≤ 10000)
    (hw : Txt.slice head none (some ((wordL (nl.map (·.1))).length : Int)) = wordL (nl.map (·.1))) (hp : peelL (replL head (wordL (nl.map (·.1))) (Str.ofString "") (Str.ofString ", ") (Str.ofString "\n\n")) = nl.map (·.1))
    (hs : splitdocL (replL head (wordL (nl.map (·.1))) (Str.ofString "") (Str.ofString ", ") (Str.ofString "\n")) = dueL (nl.map (·.1))) (hok : (nl.map (·.1)).all PyData.strOk = true) (hok1 : PyData.strOk (dueL (nl.map (·.1))).1 = true) (hok2 : PyData.strOk (dueL (nl.map (·.1))).2 = true) :
    Spec w p loose mg mb 146 [.str head t, .ref Nl] [(Nl, listOf (strValues nl).toArray ep)] 4 200 (fun r h h' => r = .bool true) := by
  have hlen : ∀ wd q : Str, wd.length ≤ 20 → (wd.length == 0) = false → q.length ≤ 2 → (replL head wd (Str.ofString "") (Str.ofString ", ") q).length ≤ 5000 := by
    intro wd q h1 h2 h3
    have a1 := (join_split_len head wd (Str.ofString "") h2 (b := 0) (Nat.le_refl _)).1
    have a2 := (join_split_len (Txt.join (Str.ofString "") (Txt.split head wd)) (Str.ofString ", ") q (by decide) (b := 2) h3).1
    unfold replL
    omega
  unfold Spec; k_fill
  intro dp un gd cn cs a ccd cl outer A₀ base h₀ L m s Q E B F X N T hk hdp hun hret
  refine wpAny_call ?_
  k_dflt (refine' enter (binds := [(Str.ofString "head", .str head t), (Str.ofString "numbers", .ref Nl)]) ?k1 ?k2 ?k3 ?k4 ?k5 ?kA ?kF ?kK ?k6 ?k7 ?k8 ?k9 ?kB ?_ ?c2 ?c3 ?c4 ?c5; (case kA => exact rfl); (case kF => exact rfl); (case kK => assumption); (case k1 => k_asm); (case k2 => k_asm); (case k3 => k_asm); (case k4 => k_asm); (case k5 => k_asm); (case k6 => k_is); (case k7 => k_is); (case k8 => ktr_room); (case k9 => exact BindsTo.of_eq rfl); (case c5 => decide); (case kB => exact locs rfl); (case c2 => exact rfl); (case c3 => exact rfl); (case c4 => exact rfl); k_whole)
  intro g' L' h' hg' F' N' B' X' T' l0'
  dsimp only
  have hlc : (((strValues nl).length : Nat) : Int) = ((nl.length : Nat) : Int) := by unfold strValues; rw [List.length_map]
  by_cases hm : 1 < nl.length
  · have hm' : 1 < (nl.map (·.1)).length := by rw [List.length_map]; exact hm
    unfold wordL at hw hp hs
    unfold dueL at hs hok1 hok2
    rw [if_pos hm'] at hw hp hs hok1 hok2
    rw [if_pos hm'] at hs
    have hm2 : 1 < (nl.length : Int) := by omega
    have hb : (Txt.slice head none (some ((13 : Nat) : Int)) != Str.ofString "at tab sizes ") = false := by
      unfold bne; rw [show ((13 : Nat) : Int) = ((Str.ofString "at tab sizes ").length : Int) from rfl, hw, beq_self_eq_true]; rfl
    have rs := fun t0 t1 t2 t3 q hq => @replace_spec w p loose mg mb head (Str.ofString "at tab sizes ") (Str.ofString "") (Str.ofString ", ") q t t0 t1 t2 t3 (by omega) (by decide) (by decide) (by decide) hq
    have hl1 := hlen (Str.ofString "at tab sizes ") (Str.ofString "\n\n") (by decide) (by decide) (by decide)
    have hl2 := hlen (Str.ofString "at tab sizes ") (Str.ofString "\n") (by decide) (by decide) (by decide)
    repeat' (first
      | ((with_reducible show wpAny _ _ (call (Value.builtin "str.join") _) _ _ _); k_dflt (refine join_L (l := nl) (by k_asm) (by k_mem) rfl (by rw [List.length_map]; (try rw [show (Str.ofString "").length = 0 from rfl]); (try rw [show (Str.ofString "\n").length = 1 from rfl]); omega) ?_); intro t' k')
      | ((with_reducible show wpAny _ _ (call (Value.builtin "len") [Value.ref _]) _ _ _); k_dflt (refine len_L (by k_asm) (by k_mem) hlc (by omega) ?_); intro t' k')
      | ((with_reducible show wpAny _ _ (call (Value.ref 35) _) _ _ _); k_dflt (refine use2 (rs _ _ _ _ _ (by decide)) (by k_asm) (by k_asm) (by k_asm) (by k_asm) (fun _ h => nomatch h) (by k_asm) rfl (by ktr_room) (by ktr_units) ?_); rintro r9 h9 tk9 F9 M9 ⟨t9, rfl⟩; (obtain ⟨N9, _⟩ := M9 [] (fun _ h => nomatch h)); (rw [List.nil_append] at N9); clear M9)
      | ((with_reducible show wpAny _ _ (call (Value.ref 139) _) _ _ _); k_dflt (refine use2 (peel_spec _ _ (by omega)) (by k_asm) (by k_asm) (by k_asm) (by k_asm) (fun _ h => nomatch h) (by k_asm) rfl (by ktr_room) (by ktr_units) ?_); rintro r8 h8 tk8 F8 M8 ⟨D8, e8, hl8, rfl, eq8, nw8⟩; (obtain ⟨N8, _⟩ := M8 _ nw8); clear M8; (rw [List.singleton_append] at N8))
      | ((with_reducible show wpAny _ _ (compareOp CmpOp.NotEq (Value.ref _) (Value.ref _)) _ _ _); k_dflt (refine ne_strs (News.isList (by k_asm) (by k_mem)) (News.isList (by k_asm) (by k_mem)) (eq8.trans hp) hok (by ktr_units) ?_))
      | ((with_reducible show wpAny _ _ (compareOp CmpOp.Eq (Value.ref _) (Value.ref _)) _ _ _); k_dflt (refine eq_tup2 (News.get (by k_asm) (by k_mem)) (News.get (by k_asm) (by k_mem)) hok1 hok2 (by ktr_units) ?_))
      | ((with_reducible show wpAny _ _ (call (Value.ref 28) _) _ _ _); k_dflt (refine use2 (splitdoc_spec _ _ (by omega)) (by k_asm) (by k_asm) (by k_asm) (by k_asm) (fun _ h => nomatch h) (by k_asm) rfl (by ktr_room) (by ktr_units) ?_); rintro r7 h7 tk7 F7 M7 ⟨D7, u7, v7, rfl, f7, g7⟩; (rw [hs] at g7); (obtain ⟨N7, _⟩ := M7 _ (new_one f7 g7)); clear M7; (rw [List.singleton_append] at N7))
      | (k_unfold; (try dsimp only)) | walk1 | (dsimp only; walk1))
    exact hret _ _ _ (back hg' N F7 N7 (fun q hq => by rw [List.mem_singleton.mp hq]; k_mem)) rfl
  · have hm' : ¬ 1 < (nl.map (·.1)).length := by rw [List.length_map]; exact hm
    unfold wordL at hw hp hs
    unfold dueL at hs hok1 hok2
    rw [if_neg hm'] at hw hp hs hok1 hok2
    rw [if_neg hm'] at hs
    have hm2 : ¬ 1 < (nl.length : Int) := by omega
    have hb : (Txt.slice head none (some ((12 : Nat) : Int)) != Str.ofString "at tab size ") = false := by
      unfold bne; rw [show ((12 : Nat) : Int) = ((Str.ofString "at tab size ").length : Int) from rfl, hw, beq_self_eq_true]; rfl
    have rs := fun t0 t1 t2 t3 q hq => @replace_spec w p loose mg mb head (Str.ofString "at tab size ") (Str.ofString "") (Str.ofString ", ") q t t0 t1 t2 t3 (by omega) (by decide) (by decide) (by decide) hq
    have hl1 := hlen (Str.ofString "at tab size ") (Str.ofString "\n\n") (by decide) (by decide) (by decide)
    have hl2 := hlen (Str.ofString "at tab size ") (Str.ofString "\n") (by decide) (by decide) (by decide)
    repeat' (first
      | ((with_reducible show wpAny _ _ (call (Value.builtin "str.join") _) _ _ _); k_dflt (refine join_L (l := nl) (by k_asm) (by k_mem) rfl (by rw [List.length_map]; (try rw [show (Str.ofString "").length = 0 from rfl]); (try rw [show (Str.ofString "\n").length = 1 from rfl]); omega) ?_); intro t' k')
      | ((with_reducible show wpAny _ _ (call (Value.builtin "len") [Value.ref _]) _ _ _); k_dflt (refine len_L (by k_asm) (by k_mem) hlc (by omega) ?_); intro t' k')
      | ((with_reducible show wpAny _ _ (call (Value.ref 35) _) _ _ _); k_dflt (refine use2 (rs _ _ _ _ _ (by decide)) (by k_asm) (by k_asm) (by k_asm) (by k_asm) (fun _ h => nomatch h) (by k_asm) rfl (by ktr_room) (by ktr_units) ?_); rintro r9 h9 tk9 F9 M9 ⟨t9, rfl⟩; (obtain ⟨N9, _⟩ := M9 [] (fun _ h => nomatch h)); (rw [List.nil_append] at N9); clear M9)
      | ((with_reducible show wpAny _ _ (call (Value.ref 139) _) _ _ _); k_dflt (refine use2 (peel_spec _ _ (by omega)) (by k_asm) (by k_asm) (by k_asm) (by k_asm) (fun _ h => nomatch h) (by k_asm) rfl (by ktr_room) (by ktr_units) ?_); rintro r8 h8 tk8 F8 M8 ⟨D8, e8, hl8, rfl, eq8, nw8⟩; (obtain ⟨N8, _⟩ := M8 _ nw8); clear M8; (rw [List.singleton_append] at N8))
      | ((with_reducible show wpAny _ _ (compareOp CmpOp.NotEq (Value.ref _) (Value.ref _)) _ _ _); k_dflt (refine ne_strs (News.isList (by k_asm) (by k_mem)) (News.isList (by k_asm) (by k_mem)) (eq8.trans hp) hok (by ktr_units) ?_))
      | ((with_reducible show wpAny _ _ (compareOp CmpOp.Eq (Value.ref _) (Value.ref _)) _ _ _); k_dflt (refine eq_tup2 (News.get (by k_asm) (by k_mem)) (News.get (by k_asm) (by k_mem)) hok1 hok2 (by ktr_units) ?_))
      | ((with_reducible show wpAny _ _ (call (Value.ref 28) _) _ _ _); k_dflt (refine use2 (splitdoc_spec _ _ (by omega)) (by k_asm) (by k_asm) (by k_asm) (by k_asm) (fun _ h => nomatch h) (by k_asm) rfl (by ktr_room) (by ktr_units) ?_); rintro r7 h7 tk7 F7 M7 ⟨D7, u7, v7, rfl, f7, g7⟩; (rw [hs] at g7); (obtain ⟨N7, _⟩ := M7 _ (new_one f7 g7)); clear M7; (rw [List.singleton_append] at N7))
      | (k_unfold; (try dsimp only)) | walk1 | (dsimp only; walk1))
    exact hret _ _ _ (back hg' N F7 N7 (fun q hq => by rw [List.mem_singleton.mp hq]; k_mem)) rfl
end Mine

namespace Mine
section
variable {prog : Program} {w : World} {A : Around} {E : Value → Shared → Prop} {s : Shared} {h₀ : Heap} {L : Addr} {m : Str → Option Value} {news : List (Addr × Obj)}
theorem getItem_tuple_zero {t sl : Addr} {items : Array Value} {u : Tok} {Q : Value → Shared → Prop} (ht : IsTup s.heap t items) (hs : s.heap.IsSliceOf sl (.int (0 : Nat) u) .none .none)
    (h : Q (.ref t) s) : wpAny (model prog w) A (getItem (.ref t) (.ref sl)) Q E s := by
  obtain ⟨os, hos, hcs, hds⟩ := id hs
  have hTs : s.TypeIs (.ref sl) "slice" := ⟨os, hos, hcs⟩
  unfold getItem
  try with_reducible refine wpAny_holding ?_
  first | refine wpAny_bind (wpAny_pure ?_) | skip
  refine wpAny_bind (wpAny_sequenceKey ht.typeIs (by decide) ?_)
  refine wpAny_bind (wpAny_callSpecial?_slot (name := Str.ofString "__getitem__") ht.typeIs slot_tuple_getitem
    (wpAny_call_entry slot_tuple_getitem ht.typeIs entry_tuple_getitem ?_ (args_tuple_getitem _ _)))
  show wpAny _ _ (Builtin.Tuple.tupleItemsOf (.ref t) >>= _) _ _ s
  refine wpAny_bind (tupleItemsOf_ ht ?_)
  refine wpAny_bind (wpAny_typeOf hTs ?_)
  rw [if_pos (by decide)]
  refine wpAny_bind (sliceApplied_from hs (Nat.zero_le _) ?_)
  show wpAny _ _ (if (((0 : Nat) : Int) == 0 && (1 : Int) == 1 && (items.size - 0) == items.size) = true then _ else _) _ _ s
  rw [if_pos (by simp)]
  refine wpAny_bind ?_
  unfold Builtin.Tuple.tupleIsExact
  refine wpAny_bind (wpAny_typeOf ht.typeIs (wpAny_pure ?_))
  rw [if_pos (by decide)]
  refine wpAny_bind (wpAny_rule ?_)
  exact wpAny_pure ⟨_, rfl, wpAny_pure h⟩
theorem slice_tail {value slice : PySem.Expr} {t : Addr} {vals : List Value} {r : Nat} {u : Tok} {Q : Value → Shared → Prop} (ht : s.heap.get? t = some (tupOf vals)) (hr : r ≤ vals.length) (hz : vals.length ≤ 1000)
    (h0 : r = 0 → Q (.ref t) { s with heap := s.heap.push { cls := .type "slice", data := .fields #[.int r u, .none, .none] } })
    (h1 : 1 ≤ r → Q (.ref (s.heap.objs.size + 1)) { s with heap := (s.heap.push { cls := .type "slice", data := .fields #[.int r u, .none, .none] }).push (tupOf (vals.drop r)) })
    (hs : subscripted slice false (.ref t) (.ref s.heap.objs.size) = operate [.ref s.heap.objs.size, .ref t] (getItem (.ref t) (.ref s.heap.objs.size))) (hg : ∀ r, letTemporaryGo value (.ref t) r = pure ()) :
    wpAny (model prog w) A (subscriptTail value slice (.ref t) (.ref s.heap.objs.size)) Q E { s with heap := s.heap.push { cls := .type "slice", data := .fields #[.int r u, .none, .none] } } := by
  have ht' : IsTup (s.heap.push { cls := .type "slice", data := .fields #[.int r u, .none, .none] }) t vals.toArray := ⟨_, Heap.get?_push_of_some _ ht, rfl, _, rfl⟩
  refine subscriptTail_ops (s := { s with heap := s.heap.push { cls := .type "slice", data := .fields #[.int r u, .none, .none] } }) ht'.typeIs slot_tuple_getitem.lookup ?_ hs hg
  by_cases e : r = 0
  · subst e
    exact getItem_tuple_zero ht' (Heap.IsSliceOf.new ..) (h0 rfl)
  · refine getItem_tuple_from ht' (Heap.IsSliceOf.new ..) (by omega) (by rw [List.size_toArray]; exact hr) ?_ (by rw [List.size_toArray, sizeLine_eq]; omega)
    have := h1 (by omega)
    show Q (.ref (s.heap.push _).objs.size) _
    rw [Heap.size_push]
    exact this
end
def SliceG (h : Heap) (r : Nat) (v y : Value) (objs : List (Addr × Obj)) : Prop :=
  ∃ (a : Addr) (vals : List Value), v = .ref a ∧ h.get? a = some (tupOf vals) ∧ ((r = 0 ∧ y = v ∧ objs = []) ∨ (1 ≤ r ∧ ∃ T : Addr, y = .ref T ∧ objs = [(T, tupOf (vals.drop r))]))
def pickR (r : Nat) (t : Int × Int × Int) : Int := if r = 0 then t.1 else if r = 1 then t.2.1 else t.2.2
theorem slice_pairs {h : Heap} {r : Nat} (hr : r ≤ 2) : ∀ {rs : List Row} {zs : List Z}, (∀ q ∈ rs.map Row.obj, h.get? q.1 = some q.2) → Paired (fun v z => SliceG h r v z.1 z.2) (rs.map Row.ref) zs →
    ∃ r1s : List Row1, zs.map (·.1) = r1s.map Row1.ref ∧ r1s.map Row1.i = (rs.map Row.val).map (pickR r) ∧ ∀ q ∈ r1s.map Row1.obj, q ∈ zs.flatMap (·.2) ∨ q ∈ rs.map Row.obj
  | [], _, _, .nil => ⟨[], rfl, rfl, fun _ h => nomatch h⟩
  | row :: rs, _, hh, .cons hG hs => by
    obtain ⟨r1s, e1, e2, e3⟩ := slice_pairs hr (fun q hq => hh q (.tail _ hq)) hs
    obtain ⟨a, vals, ev, hv, hc⟩ := hG
    have ea : row.a = a := by injection ev
    subst ea
    have hrow := hh row.obj (.head _)
    have hrow' : h.get? row.a = some (tupOf [.int row.i row.ti, .int row.j row.tj, .int row.k row.tk]) := hrow
    rw [hrow'] at hv
    have evals : vals = [.int row.i row.ti, .int row.j row.tj, .int row.k row.tk] := by
      injection hv with hv
      injection hv with _ _ hv _
      injection hv with hv _
      exact (congrArg Array.toList hv).symm
    subst evals
    rename_i b l2
    obtain ⟨y, ob⟩ := b
    rcases hc with ⟨rfl, hy, ho⟩ | ⟨h1, T, hy, ho⟩
    · dsimp only at hy ho
      subst hy ho
      refine ⟨⟨row.a, row.i, row.ti, [.int row.j row.tj, .int row.k row.tk]⟩ :: r1s, ?_, ?_, ?_⟩
      · rw [List.map_cons, e1]; rfl
      · rw [List.map_cons, e2]; rfl
      · intro q hq
        rcases List.mem_cons.mp hq with rfl | hq
        · exact .inr (.head _)
        · rcases e3 q hq with h | h
          · exact .inl (by rw [List.flatMap_cons]; exact List.mem_append_right _ h)
          · exact .inr (.tail _ h)
    · dsimp only at hy ho
      subst hy ho
      have two : r = 1 ∨ r = 2 := by omega
      rcases two with rfl | rfl
      · refine ⟨⟨T, row.j, row.tj, [.int row.k row.tk]⟩ :: r1s, ?_, ?_, ?_⟩
        · rw [List.map_cons, e1]; rfl
        · rw [List.map_cons, e2]; rfl
        · intro q hq
          rcases List.mem_cons.mp hq with rfl | hq
          · exact .inl (by rw [List.flatMap_cons]; exact List.mem_append_left _ (.head _))
          · rcases e3 q hq with h | h
            · exact .inl (by rw [List.flatMap_cons]; exact List.mem_append_right _ h)
            · exact .inr (.tail _ h)
      · refine ⟨⟨T, row.k, row.tk, []⟩ :: r1s, ?_, ?_, ?_⟩
        · rw [List.map_cons, e1]; rfl
        · rw [List.map_cons, e2]; rfl
        · intro q hq
          rcases List.mem_cons.mp hq with rfl | hq
          · exact .inl (by rw [List.flatMap_cons]; exact List.mem_append_left _ (.head _))
          · rcases e3 q hq with h | h
            · exact .inl (by rw [List.flatMap_cons]; exact List.mem_append_right _ h)
            · exact .inr (.tail _ h)
theorem useG {w : World} {p : Program} {loose : List Str} {mg mb : Str → Option Value} {f : Addr} {args : List Value} {need news : List (Addr × Obj)} {d u : Nat} {Post : Value → Heap → Heap → Prop} (S : SpecG w p loose mg mb f args need d u Post)
    {dp un : Nat} {gd : Option (List Code)} {cn : Str} {cs : Scope} {a : Addr} {ccd : Value} {cl : List (Str × Addr)} {outer : List Env} {A₀ : Around} {base h₀ : Heap} {L : Addr} {m : Str → Option Value} {s : Shared} {Q E : Value → Shared → Prop} {ps : Array Value} {bm : Addr} {ob : Obj}
    (B : Below A₀ base outer h₀) (F : Fr h₀ L s.heap m) (X : (hd.heap_39 w.params).In h₀) (N : News h₀ L s.heap ((103, tabO ps) :: news)) (hs : ∀ q ∈ need, q ∈ news) (hne : ∀ q ∈ news, q.1 ≠ 103) (T : TopRead p loose mg mb h₀) (M : BMod h₀ mainGlobals mg bm ob) (ht : Tab 77 13 ps) (hg : AllBare s.gens)
    (hk : cs.kind = .function) (hd : dp + d < recursionLimit) (hu : un + u < cLine)
    (h : ∀ r h' tk' gens' ps', Fr h₀ L h' m → News h₀ L h' ((103, tabO ps') :: news) → Tab 77 13 ps' → AllBare gens' → (∀ b o, b ≠ 103 → s.heap.get? b = some o → h'.get? b = some o) → Post r s.heap h' → Q r { s with heap := h', gens := gens', toks := tk' }) :
    wpAny (model PySem.Challenge.rw_mj0163_01.prog w) (ktrTop dp un gd cn cs L a ccd cl outer) (call (.ref f) args) Q E s := by
  have h103 := N _ (.head _)
  refine S dp un gd cn cs a ccd cl outer A₀ base h₀ L m s Q E ps bm ob B F X (news_sub N fun q hq => ?_) T M ht hg (fun q hq => hne q (hs q hq)) hk hd hu fun r h' tk' gens' ps' hkp hp ht' hg' po => h r h' tk' gens' ps' ⟨?_, ?_, F.above⟩ ?_ ht' hg' hkp po
  · rcases List.mem_cons.mp hq with rfl | hq
    · exact .head _
    · exact .tail _ (hs q hq)
  · exact F.ns.at' fun o e => hkp _ _ (fun e' => h103.2.1 e'.symm) e
  · exact fun b o e => hkp b o (fun e' => by rw [e', h103.2.2] at e; cases e) (F.keep b o e)
  · intro q hq
    rcases List.mem_cons.mp hq with rfl | hq
    · exact ⟨hp, h103.2⟩
    · exact ⟨hkp _ _ (hne q hq) (N q (.tail _ hq)).1, (N q (.tail _ hq)).2⟩
end Mine

namespace Mine
def leadAt (one two : Str) (i : Nat) : Str := if i / 3 = 0 then one else two
def sepAt (i : Nat) : Str := if i % 3 = 0 then Str.ofString "" else if i % 3 = 1 then Str.ofString " " else Str.ofString "\t "
def witsAt (ra rb : List (Int × Int × Int)) (i : Nat) : List Int := (if i / 3 = 0 then ra else rb).map (pickR (i % 3))
def pageN (one two : Str) (ra rb : List (Int × Int × Int)) : Nat → Str
  | 0 => Str.ofString ""
  | i + 1 => pageN one two ra rb i ++ leadAt one two i ++ fmtL (witsAt ra rb i) ++ Str.ofString "\n" ++ sepAt i ++ Str.ofString "\n"
def pageL (one two : Str) (ra rb : List (Int × Int × Int)) : Str := pageN one two ra rb 6 ++ Str.ofString "z \n"
def PageJ (one two : Str) (t1 t2 : Tok) (ra rb : List (Int × Int × Int)) (Dl cp : Addr) (rest : List (Addr × Obj)) (i : Nat) (m : Str → Option Value) (nx : List (Addr × Obj)) (gens : Array GenState) : Prop :=
  ∃ (ps : Array Value) (oc : Obj) (v : Option Value) (tp : Tok), Has m [(Str.ofString "one", .str one t1), (Str.ofString "two", .str two t2), (Str.ofString "lists", .ref Dl), (Str.ofString "page", .str (pageN one two ra rb i) tp)] ∧ nx = (103, tabO ps) :: (cp, oc) :: rest ∧ oc.data = .cell v ∧ Tab 77 13 ps ∧ AllBare gens ∧ (pageN one two ra rb i).length ≤ i * 20000
theorem idx_q (i : Nat) (h : i < 6) : ((0 + (i : Int)).fdiv 3).toNat = i / 3 ∧ 0 ≤ (0 + (i : Int)).fdiv 3 ∧ (0 + (i : Int)).fdiv 3 < 2 := by
  rw [Int.fdiv_eq_ediv_of_nonneg _ (by decide)]
  omega
theorem idx_r (i : Nat) : ((0 + (i : Int)).fmod 3).toNat = i % 3 ∧ 0 ≤ (0 + (i : Int)).fmod 3 ∧ (0 + (i : Int)).fmod 3 < 3 := by
  rw [Int.fmod_eq_emod_of_nonneg _ (by decide)]
  omega
theorem div3 {i : Nat} (h : i < 6) : i / 3 = 0 ∨ i / 3 = 1 := by omega
theorem pick_lead {one two : Str} {t1 t2 : Tok} {i : Nat} (h : i < 6) : ∃ tl, [Value.str one t1, Value.str two t2][((0 + (i : Int)).fdiv 3).toNat]? = some (.str (leadAt one two i) tl) := by
  rw [(idx_q i h).1]
  unfold leadAt
  rcases div3 h with e | e <;> rw [e]
  · exact ⟨t1, rfl⟩
  · exact ⟨t2, rfl⟩
theorem pick_sep {t u v : Tok} {i : Nat} : ∃ t', [Value.str (Str.ofString "") t, Value.str (Str.ofString " ") u, Value.str (Str.ofString "\t ") v][((0 + (i : Int)).fmod 3).toNat]? = some (.str (sepAt i) t') := by
  rw [(idx_r i).1]
  unfold sepAt
  have h3 : i % 3 = 0 ∨ i % 3 = 1 ∨ i % 3 = 2 := by omega
  rcases h3 with e | e | e <;> rw [e]
  · exact ⟨t, rfl⟩
  · exact ⟨u, rfl⟩
  · exact ⟨v, rfl⟩
theorem fmtL_len (l : List Int) (h : ∀ i ∈ l, i.natAbs < 10 ^ 6) (hl : l.length ≤ 1000) : (fmtL l).length ≤ 10020 := by
  have := (nums_ok l h hl).2
  have h1 : (Str.ofString "at tab sizes").length = 12 := rfl
  have h2 : (Str.ofString "at tab size").length = 11 := rfl
  have h3 : (Str.ofString " ").length = 1 := rfl
  unfold fmtL
  rw [Str.length_append, Str.length_append]
  split <;> omega
theorem sepAt_len (i : Nat) : (sepAt i).length ≤ 2 := by
  unfold sepAt
  split
  · exact Nat.zero_le _
  · split
    · exact Nat.le_of_ble_eq_true rfl
    · exact Nat.le_of_ble_eq_true rfl
theorem len_turn {i a b c d : Nat} (h1 : a ≤ i * 20000) (h2 : b ≤ 100) (h3 : c ≤ 10020) (h4 : d ≤ 2) : a + b + c + 1 + d + 1 ≤ (i + 1) * 20000 := by omega
theorem fresh_size (h : Heap) (k : Nat) : h.get? (h.objs.size + k) = none := by
  cases e : h.get? (h.objs.size + k) with
  | none => rfl
  | some o => exact absurd (Heap.lt_size e) (Nat.not_lt.mpr (Nat.le_add_right _ _))
theorem push2_get {h : Heap} {a b : Obj} (hb : b.isFreed = false) : ((h.push a).push b).get? (h.objs.size + 1) = some b := by
  have := Heap.get?_push_size (h.push a) hb
  rw [Heap.size_push] at this
  exact this
theorem page_spec {w : World} {p : Program} {loose : List Str} {mg mb : Str → Option Value} {one two : Str} {t1 t2 : Tok} (h1 : one.length ≤ 100) (h2 : two.length ≤ 100) (hB : ∀ t ∈ witAll (wsOf (one ++ Str.ofString "a\t")) (wsOf two) (topL (wsOf (one ++ Str.ofString "a\t")) (wsOf two)).toNat, t.1.natAbs < 10 ^ 6 ∧ t.2.1.natAbs < 10 ^ 6 ∧ t.2.2.natAbs < 10 ^ 6) :
    SpecG w p loose mg mb 132 [.str one t1, .str two t2] [] 5 60 (fun r h h' => ∃ t, r = .str (pageL one two (nlL (wsOf (one ++ Str.ofString "a\t")) (wsOf two) (topL (wsOf (one ++ Str.ofString "a\t")) (wsOf two)).toNat) (neL (wsOf (one ++ Str.ofString "a\t")) (wsOf two) (topL (wsOf (one ++ Str.ofString "a\t")) (wsOf two)).toNat)) t) := by
  unfold SpecG; k_fill
  intro dp un gd cn cs a ccd cl outer A₀ base h₀ L m s Q E ps bm ob B F X N T M hps hgs hne0 hk hdp hun hret
  refine wpAny_call ?_
  k_dflt (refine' enterC (binds := [(Str.ofString "one", .str one t1), (Str.ofString "two", .str two t2)]) ?k1 ?k2 ?k3 ?k4 ?k5 ?kA ?kF ?kK ?k6 ?k7 ?k8 ?k9 ?kB ?kD ?_ ?c2 ?c3 ?c4; (case kA => exact rfl); (case kF => exact rfl); (case kK => assumption); (case k1 => k_asm); (case k2 => k_asm); (case k3 => k_asm); (case k4 => k_asm); (case k5 => k_asm); (case k6 => k_is); (case k7 => k_is); (case k8 => ktr_room); (case k9 => exact BindsTo.of_eq rfl); (case kB => exact rfl); (case kD => decide +kernel); (case c2 => exact rfl); (case c3 => exact rfl); (case c4 => exact rfl); k_whole)
  intro g' L' h' tk' cells' hg' F' N' Y' B' X' T' l0'
  obtain ⟨oc, rfl, dc⟩ := CellsAre.one Y'
  clear Y'
  change oc.data = .cell none at dc
  change News g' L' h' [(L' + 1, oc), (103, tabO ps)] at N'
  dsimp only
  have M' := M.keeps (stay_hid hg' F N)
  have hl1 : (one ++ Str.ofString "a\t").length = one.length + 2 := by rw [Str.length_append]; rfl
  have wA := @ws_spec w p loose mg mb (one ++ Str.ofString "a\t")
  have wB := @ws_spec w p loose mg mb two t2 (by omega)
  repeat' (first
    | (fail_if_success (with_reducible show wpAny _ _ (exec (Stmt.For _ _ _ _ _) _) _ _ _)); (first
      | ((with_reducible show wpAny _ _ (call (Value.ref 97) [Value.str (_ ++ _) _]) _ _ _); k_dflt (refine use2 (wA _ (by omega)) (by k_asm) (by k_asm) (by k_asm) (by k_asm) (fun _ h => nomatch h) (by k_asm) rfl (by ktr_room) (by ktr_units) ?_); rintro r9 h9 tk9 F9 M9 ⟨x1, objs1, rfl, ⟨dx1, Nn1, Cn1, vs1, b1, u1, u2, u3, u4, u5, u6, u7, u8, u9, rfl, hi1⟩, nw9⟩; (obtain ⟨N9, nn9⟩ := M9 _ nw9); clear M9 nw9; (simp only [List.cons_append, List.nil_append] at N9))
      | ((with_reducible show wpAny _ _ (call (Value.ref 97) [Value.str _ _]) _ _ _); k_dflt (refine use2 wB (by k_asm) (by k_asm) (by k_asm) (by k_asm) (fun _ h => nomatch h) (by k_asm) rfl (by ktr_room) (by ktr_units) ?_); rintro r8 h8 tk8 F8 M8 ⟨x2, objs2, rfl, ⟨dx2, Nn2, Cn2, vs2, b2, v1, v2, v3, v4, v5, v6, v7, v8, v9, rfl, hi2⟩, nw8⟩; (obtain ⟨N8, nn8⟩ := M8 _ nw8); clear M8 nw8; (simp only [List.cons_append, List.nil_append] at N8))
      | ((with_reducible show wpAny _ _ (call (Value.ref 94) _) _ _ _); k_dflt (refine use2 (nl_spec (by omega) (by omega) hi1 hi2) (by k_asm) (by k_asm) (by k_asm) (by k_asm) (by repeat' (first | exact List.forall_mem_nil _ | refine List.forall_mem_cons.mpr ⟨by k_mem, ?_⟩)) (by k_asm) rfl (by ktr_room) (by ktr_units) ?_); rintro r7 h7 tk7 F7 M7 ⟨D1, e1, rs1, rfl, hv1, nw7⟩; (obtain ⟨N7, nn7⟩ := M7 _ nw7); clear M7 nw7)
      | ((with_reducible show wpAny _ _ (call (Value.ref 80) _) _ _ _); k_dflt (refine use2 (ne_spec (by omega) (by omega) hi1 hi2) (by k_asm) (by k_asm) (by k_asm) (by k_asm) (by repeat' (first | exact List.forall_mem_nil _ | refine List.forall_mem_cons.mpr ⟨by k_mem, ?_⟩)) (by k_asm) rfl (by ktr_room) (by ktr_units) ?_); rintro r6 h6 tk6 F6 M6 ⟨D2, e2, rs2, rfl, hv2, nw6⟩; (obtain ⟨N6, nn6⟩ := M6 _ nw6); clear M6 nw6)
      | (k_unfold; (try dsimp only)) | walk1 | (dsimp only; walk1)))
  rename_i Dl _ lz _ _ Fz Nz
  have htp := top_bound (one ++ Str.ofString "a\t") two (n := 102) (by omega) (by omega)
  have hBa : ∀ t ∈ (nlL (wsOf (one ++ Str.ofString "a\t")) (wsOf two) (topL (wsOf (one ++ Str.ofString "a\t")) (wsOf two)).toNat), t.1.natAbs < 10 ^ 6 ∧ t.2.1.natAbs < 10 ^ 6 ∧ t.2.2.natAbs < 10 ^ 6 := fun t h => hB t (List.mem_filter.mp h).1
  have hBb : ∀ t ∈ (neL (wsOf (one ++ Str.ofString "a\t")) (wsOf two) (topL (wsOf (one ++ Str.ofString "a\t")) (wsOf two)).toNat), t.1.natAbs < 10 ^ 6 ∧ t.2.1.natAbs < 10 ^ 6 ∧ t.2.2.natAbs < 10 ^ 6 := fun t h => hB t (List.mem_filter.mp h).1
  have hwl : (witAll (wsOf (one ++ Str.ofString "a\t")) (wsOf two) (topL (wsOf (one ++ Str.ofString "a\t")) (wsOf two)).toNat).length ≤ 200 := by
    unfold witAll; rw [List.length_map, List.length_range]; omega
  have hla : (nlL (wsOf (one ++ Str.ofString "a\t")) (wsOf two) (topL (wsOf (one ++ Str.ofString "a\t")) (wsOf two)).toNat).length ≤ 200 := Nat.le_trans (List.length_filter_le _ _) hwl
  have hlb : (neL (wsOf (one ++ Str.ofString "a\t")) (wsOf two) (topL (wsOf (one ++ Str.ofString "a\t")) (wsOf two)).toNat).length ≤ 200 := Nat.le_trans (List.length_filter_le _ _) hwl
  generalize (nlL (wsOf (one ++ Str.ofString "a\t")) (wsOf two) (topL (wsOf (one ++ Str.ofString "a\t")) (wsOf two)).toNat) = ra at hv1 hBa hla hret
  generalize (neL (wsOf (one ++ Str.ofString "a\t")) (wsOf two) (topL (wsOf (one ++ Str.ofString "a\t")) (wsOf two)).toNat) = rb at hv2 hBb hlb hret
  clear hB hwl htp
  have l103 : 103 ≠ L' + 1 := Nat.ne_of_lt (Nat.lt_succ_of_lt (l0' _ (.head _)))
  have mem103 : ∀ (l1 l2 l3 : List (Addr × Obj)), (103, tabO ps) ∈ l1 ++ (l2 ++ (l3 ++ [(L' + 1, oc), (103, tabO ps)])) := fun l1 l2 l3 => List.mem_append_right _ (List.mem_append_right _ (List.mem_append_right _ (.tail _ (.head _))))
  have off : ∀ q ∈ (Dl, listOf [Value.ref D1, Value.ref D2].toArray 0) :: (D1, listOf (rs1.map Row.ref).toArray e1) :: (D2, listOf (rs2.map Row.ref).toArray e2) :: (rs1.map Row.obj ++ rs2.map Row.obj), q.1 ≠ 103 ∧ q.1 ≠ L' + 1 := by
    have o1 : ∀ q ∈ (D1, listOf (rs1.map Row.ref).toArray e1) :: rs1.map Row.obj, q.1 ≠ 103 ∧ q.1 ≠ L' + 1 := fun q hq => ⟨Ne.symm (nn7 (103, tabO ps) (by k_mem) q hq), Ne.symm (nn7 (L' + 1, oc) (by k_mem) q hq)⟩
    have o2 : ∀ q ∈ (D2, listOf (rs2.map Row.ref).toArray e2) :: rs2.map Row.obj, q.1 ≠ 103 ∧ q.1 ≠ L' + 1 := fun q hq => ⟨Ne.symm (nn6 (103, tabO ps) (by k_mem) q hq), Ne.symm (nn6 (L' + 1, oc) (by k_mem) q hq)⟩
    intro q hq
    rcases List.mem_cons.mp hq with rfl | hq
    · exact ⟨Nat.ne_of_gt (lz (103, tabO ps) (by k_mem)), Nat.ne_of_gt (lz (L' + 1, oc) (by k_mem))⟩
    rcases List.mem_cons.mp hq with rfl | hq
    · exact o1 _ (.head _)
    rcases List.mem_cons.mp hq with rfl | hq
    · exact o2 _ (.head _)
    rcases List.mem_append.mp hq with hq | hq
    · exact o1 _ (.tail _ hq)
    · exact o2 _ (.tail _ hq)
  have Nw := news_sub (l := (103, tabO ps) :: (L' + 1, oc) :: (Dl, listOf [Value.ref D1, Value.ref D2].toArray 0) :: (D1, listOf (rs1.map Row.ref).toArray e1) :: (D2, listOf (rs2.map Row.ref).toArray e2) :: (rs1.map Row.obj ++ rs2.map Row.obj)) Nz (by
    intro q hq
    rcases List.mem_cons.mp hq with rfl | hq
    · exact .tail _ (List.mem_append_right _ (List.mem_append_right _ (by k_mem)))
    rcases List.mem_cons.mp hq with rfl | hq
    · exact .tail _ (List.mem_append_right _ (List.mem_append_right _ (by k_mem)))
    rcases List.mem_cons.mp hq with rfl | hq
    · exact .head _
    rcases List.mem_cons.mp hq with rfl | hq
    · exact .tail _ (List.mem_append_right _ (List.mem_append_left _ (.head _)))
    rcases List.mem_cons.mp hq with rfl | hq
    · exact .tail _ (List.mem_append_left _ (.head _))
    rcases List.mem_append.mp hq with hq | hq
    · exact .tail _ (List.mem_append_right _ (List.mem_append_left _ (.tail _ hq)))
    · exact .tail _ (List.mem_append_left _ (.tail _ hq)))
  clear Nz nn6 nn7 nn8 nn9 lz
  refine wpAny_For ?_ (fun _ => rfl)
  repeat' (first | (fail_if_success (with_reducible show wpAny _ _ (pyIter _) _ _ _)); (first | (k_unfold; (try dsimp only)) | walk1 | (dsimp only; walk1)))
  rename IsRange _ _ _ _ _ _ _ _ => hR
  rename Fr _ _ _ _ => Fy
  rename News _ _ _ _ => Ny
  refine forG (n := 6) (PageJ one two t1 t2 ra rb Dl (L' + 1) ((Dl, listOf [Value.ref D1, Value.ref D2].toArray 0) :: (D1, listOf (rs1.map Row.ref).toArray e1) :: (D2, listOf (rs2.map Row.ref).toArray e2) :: (rs1.map Row.obj ++ rs2.map Row.obj))) rfl hR (by decide) (by decide) Fy Ny ?_ ?_ ?_ (by passes_own)
  · exact ⟨ps, oc, none, _, ⟨rfl, rfl, rfl, rfl, trivial⟩, rfl, dc, hps, hgs, Nat.zero_le _⟩
  · rintro i k t m₁ nx h gens tk I o hin rfl hI ⟨ps1, oc1, v1, tp, hm, rfl, dc1, tb1, ab1, pl1⟩ F₁ N₁
    rw [← ovr_eq hm] at F₁
    change Fr g' L' h _ at F₁
    change News g' L' h _ at N₁
    clear hm Fy Ny hR
    refine storeX_C F₁ N₁ rfl (UpdF.tail (Ne.symm (hI (L' + 1, oc1) (.tail _ (.head _)))) (UpdF.tail l103 (UpdF.head fun q hq => (off q hq).2))) dc1 ?_ rfl rfl
    intro h2 oc2 F₂ N₂ dc2
    clear F₁ N₁
    have hq := idx_q i hin
    have hr := idx_r i
    have er : (0 + (i : Int)).fmod 3 = ((i % 3 : Nat) : Int) := by rw [← hr.1]; omega
    obtain ⟨tl, hx1⟩ := @pick_lead one two t1 t2 i hin
    have hll : (leadAt one two i).length ≤ 100 := by unfold leadAt; split <;> omega
    obtain ⟨Dq, eq, rsq, hx2, hmq, hobj, hval, hbd, hlq⟩ : ∃ (Dq : Addr) (eq : Nat) (rsq : List Row), [Value.ref D1, Value.ref D2][((0 + (i : Int)).fdiv 3).toNat]? = some (.ref Dq) ∧
        (Dq, listOf (rsq.map Row.ref).toArray eq) ∈ (Dl, listOf [Value.ref D1, Value.ref D2].toArray 0) :: (D1, listOf (rs1.map Row.ref).toArray e1) :: (D2, listOf (rs2.map Row.ref).toArray e2) :: (rs1.map Row.obj ++ rs2.map Row.obj) ∧
        (∀ q ∈ rsq.map Row.obj, q ∈ (Dl, listOf [Value.ref D1, Value.ref D2].toArray 0) :: (D1, listOf (rs1.map Row.ref).toArray e1) :: (D2, listOf (rs2.map Row.ref).toArray e2) :: (rs1.map Row.obj ++ rs2.map Row.obj)) ∧
        (rsq.map Row.val).map (pickR (i % 3)) = witsAt ra rb i ∧ (∀ t ∈ rsq.map Row.val, t.1.natAbs < 10 ^ 6 ∧ t.2.1.natAbs < 10 ^ 6 ∧ t.2.2.natAbs < 10 ^ 6) ∧ rsq.length ≤ 200 := by
      rw [hq.1]
      unfold witsAt
      rcases div3 hin with e | e <;> rw [e]
      · exact ⟨D1, e1, rs1, rfl, .tail _ (.head _), fun q hq => .tail _ (.tail _ (.tail _ (List.mem_append_left _ hq))), by rw [hv1]; rfl, hv1 ▸ hBa, by rw [← hv1, List.length_map] at hla; exact hla⟩
      · exact ⟨D2, e2, rs2, rfl, .tail _ (.tail _ (.head _)), fun q hq => .tail _ (.tail _ (.tail _ (List.mem_append_right _ hq))), by rw [hv2]; rfl, hv2 ▸ hBb, by rw [← hv2, List.length_map] at hlb; exact hlb⟩
    generalize hrest : (Dl, listOf [Value.ref D1, Value.ref D2].toArray 0) :: (D1, listOf (rs1.map Row.ref).toArray e1) :: (D2, listOf (rs2.map Row.ref).toArray e2) :: (rs1.map Row.obj ++ rs2.map Row.obj) = rest at *
    have hmDl : (Dl, listOf [Value.ref D1, Value.ref D2].toArray 0) ∈ rest := hrest ▸ .head _
    have hget : ∀ row ∈ rsq, h2.get? row.a = some (tupOf [.int row.i row.ti, .int row.j row.tj, .int row.k row.tk]) := fun row hrow => (N₂ row.obj (.tail _ (.tail _ (.tail _ (hobj _ (List.mem_map_of_mem hrow)))))).1
    repeat' (first
      | (fail_if_success (with_reducible show wpAny _ _ (eval (Expr.ListComp _ _ _ _) _) _ _ _)); (first
        | ((with_reducible show wpAny _ _ (subscriptTail _ _ (Value.ref _) (Value.int _ _)) _ _ _); k_dflt (refine item_L (by k_asm) (by k_mem) (by omega) (by omega) hx1 ?_ (by with_unfolding_all rfl)))
        | (k_unfold; (try dsimp only)) | walk1 | (dsimp only; walk1)))
    rename Fr _ _ _ _ => F3
    rename News _ _ _ _ => N3
    have N3 := fun q hq => N3 q (.tail _ hq)
    change News g' L' _ ((I, o) :: (103, tabO ps1) :: (L' + 1, oc2) :: rest) at N3
    refine comp_own (cl := [(Str.ofString "place", L' + 1)]) (fun _ => true) (SliceG h2 (i % 3)) (by with_unfolding_all rfl) (by decide) rfl (by decide) rfl ?_ (fun _ => rfl)
    repeat' (first
      | (fail_if_success (with_reducible show wpAny _ _ (pyIter _) _ _ _)); (first
        | ((with_reducible show wpAny _ _ (subscriptTail _ _ (Value.ref _) (Value.int _ _)) _ _ _); k_dflt (refine item_L N3 (.tail _ (.tail _ (.tail _ hmDl))) (by omega) (by omega) hx2 ?_ (by with_unfolding_all rfl)))
        | (k_unfold; (try dsimp only)) | walk1 | (dsimp only; walk1)))
    refine src_list F3 N3 (.tail _ (.tail _ (.tail _ hmq))) rfl (by rw [List.length_map]; omega) ?_ ?_ ?_
    · intro C j v s₃ m₃ E' _ _ _ _
      exact wpAny_tests_nil ⟨rfl, ⟨_, _, rfl, fun _ _ e => e⟩⟩
    · intro C j v s₃ m₃ E' hv _ hns hm st
      obtain ⟨row, hrow, rfl⟩ : ∃ row ∈ rsq, v = Row.ref row := by
        rw [List.getElem?_map] at hv
        obtain ⟨row, hq', e⟩ := Option.map_eq_some_iff.mp hv
        exact ⟨row, List.mem_of_getElem? hq', e.symm⟩
      have N4 := news_stays N3 st
      have hro := (N4 row.obj (.tail _ (.tail _ (.tail _ (hobj _ (List.mem_map_of_mem hrow)))))).1
      have hro' : s₃.heap.get? row.a = some (tupOf [.int row.i row.ti, .int row.j row.tj, .int row.k row.tk]) := hro
      refine Subscript_ (cname_L hns hm ?_ rfl rfl)
      refine wpAny_Slice ?_
      show wpAny _ _ (eval (Expr.BinOp _ _ _ _) _) _ _ _
      clear F3 N3
      repeat' (first
        | (fail_if_success (with_reducible show wpAny _ _ (subscriptTail _ _ _ _) _ _ _)); (first
          | (k_unfold; (try dsimp only)) | walk1 | (dsimp only; walk1)))
      rw [er]
      refine slice_tail (s := { s₃ with toks := s₃.toks + 1 + 1 }) (vals := [.int row.i row.ti, .int row.j row.tj, .int row.k row.tk]) (r := i % 3) hro' (by show i % 3 ≤ 3; omega) (by show 3 ≤ 1000; omega) ?_ ?_ (by with_unfolding_all rfl) (by intro _; with_unfolding_all rfl)
      · intro e0
        exact ⟨⟨[], ⟨row.a, _, rfl, hget row hrow, .inl ⟨e0, rfl, rfl⟩⟩, fun _ h => nomatch h⟩, ⟨_, _, rfl, fun b o e => Heap.get?_push_of_some _ e⟩⟩
      · intro e0
        refine ⟨⟨[(s₃.heap.objs.size + 1, tupOf ([Value.int row.i row.ti, Value.int row.j row.tj, Value.int row.k row.tk].drop (i % 3)))], ⟨row.a, _, rfl, hget row hrow, .inr ⟨e0, _, rfl, rfl⟩⟩, fun q hq => ?_⟩, ⟨_, _, rfl, fun b o e => Heap.get?_push_of_some _ (Heap.get?_push_of_some _ e)⟩⟩
        rw [List.mem_singleton.mp hq]
        refine ⟨fresh_size _ 1, ?_⟩
        exact push2_get rfl
    · intro D9 ep9 h9 tk9 zs9 F9 N9 pr9 st9 nw9 ne9
      rw [List.filter_eq_self.mpr (fun _ _ => rfl)] at pr9
      obtain ⟨r1s, q1, q2, q3⟩ := slice_pairs (by omega) (fun q hq => by
        obtain ⟨row, hrow, rfl⟩ := List.mem_map.mp hq
        exact hget row hrow) pr9
      rw [hval] at q2
      rw [q1] at N9 nw9
      have hh103 := (N3 _ (.tail _ (.head _))).1
      have hne9 : ∀ q ∈ (D9, listOf (r1s.map Row1.ref).toArray ep9) :: (zs9.flatMap (·.2) ++ ((I, o) :: (L' + 1, oc2) :: rest)), q.1 ≠ 103 := by
        intro q hq
        have new103 : ∀ q ∈ (D9, listOf (r1s.map Row1.ref).toArray ep9) :: zs9.flatMap (·.2), q.1 ≠ 103 := fun q hq e => by
          have := (nw9 q hq).1
          rw [e, hh103] at this; cases this
        rcases List.mem_cons.mp hq with rfl | hq
        · exact new103 _ (.head _)
        rcases List.mem_append.mp hq with hq | hq
        · exact new103 _ (.tail _ hq)
        rcases List.mem_cons.mp hq with rfl | hq
        · exact fun e => hI (103, tabO ps1) (.head _) e.symm
        rcases List.mem_cons.mp hq with rfl | hq
        · exact fun e => l103 e.symm
        · exact (off q hq).1
      have Ng := news_sub (l := (103, tabO ps1) :: (D9, listOf (r1s.map Row1.ref).toArray ep9) :: (zs9.flatMap (·.2) ++ ((I, o) :: (L' + 1, oc2) :: rest))) N9 (by
        intro q hq
        rcases List.mem_cons.mp hq with rfl | hq
        · exact .tail _ (List.mem_append_right _ (.tail _ (.head _)))
        rcases List.mem_cons.mp hq with rfl | hq
        · exact .head _
        rcases List.mem_append.mp hq with hq | hq
        · exact .tail _ (List.mem_append_left _ hq)
        rcases List.mem_cons.mp hq with rfl | hq
        · exact .tail _ (List.mem_append_right _ (.head _))
        rcases List.mem_cons.mp hq with rfl | hq
        · exact .tail _ (List.mem_append_right _ (.tail _ (.tail _ (.head _))))
        · exact .tail _ (List.mem_append_right _ (.tail _ (.tail _ (.tail _ hq)))))
      have hlen1 : r1s.length ≤ 1000 := by
        have := congrArg List.length q2
        rw [← hval] at this
        simp only [List.length_map] at this
        omega
      have hbd1 : ∀ r ∈ r1s, r.i.natAbs < 10 ^ 6 := fun r hr => by
        have hmem : r.i ∈ witsAt ra rb i := q2 ▸ List.mem_map_of_mem hr
        rw [← hval] at hmem
        obtain ⟨t', ht', e'⟩ := List.mem_map.mp hmem
        have := hbd t' ht'
        rw [← e']
        unfold pickR
        split
        · exact this.1
        · split
          · exact this.2.1
          · exact this.2.2
      have fS := @fmt_spec w p loose mg mb D9 ep9 r1s hlen1 hbd1
      have hfl := fmtL_len (r1s.map Row1.i) (fun i hi => by obtain ⟨r, hr, rfl⟩ := List.mem_map.mp hi; exact hbd1 r hr) (by rw [List.length_map]; exact hlen1)
      rw [q2] at hfl
      clear N9 F3 N3
      repeat' (first
        | (fail_if_success (with_reducible show wpAny _ _ (call (Value.ref 108) _) _ _ _)); (first | (k_unfold; (try dsimp only)) | walk1 | (dsimp only; walk1)))
      k_dflt (refine useG fS B' F9 X' Ng ?_ hne9 T' M' tb1 ab1 rfl (by ktr_room) (by ktr_units) ?_)
      · intro q hq
        rcases List.mem_cons.mp hq with rfl | hq
        · exact .head _
        rcases q3 q hq with hq | hq
        · exact .tail _ (List.mem_append_left _ hq)
        · exact .tail _ (List.mem_append_right _ (.tail _ (.tail _ (hobj q hq))))
      rintro r8 h8 tk8 gens8 ps8 F8 N8 tb8 ab8 kp8 ⟨t8, rfl⟩
      rw [q2]
      have N7 := news_sub (l := (I, o) :: (103, tabO ps8) :: (L' + 1, oc2) :: rest) N8 (by
        intro q hq
        rcases List.mem_cons.mp hq with rfl | hq
        · exact .tail _ (.tail _ (List.mem_append_right _ (.head _)))
        rcases List.mem_cons.mp hq with rfl | hq
        · exact .head _
        · exact .tail _ (.tail _ (List.mem_append_right _ (.tail _ hq))))
      have hsl := sepAt_len i
      clear N8 Ng F9 kp8 nw9
      repeat' (first
        | ((with_reducible show wpAny _ _ (subscriptTail _ _ (Value.ref _) (Value.int _ _)) _ _ _); k_dflt (refine item_L (by k_asm) (by k_mem) (by omega) (by omega) (Exists.choose_spec pick_sep) ?_ (by with_unfolding_all rfl)))
        | (k_unfold; (try dsimp only)) | walk1 | (dsimp only; walk1))
      rename Fr _ _ _ _ => Fe
      rename News _ _ _ _ => Ne
      have hlf : (pageN one two ra rb (i + 1)).length ≤ (i + 1) * 20000 := by
        show (pageN one two ra rb i ++ leadAt one two i ++ fmtL (witsAt ra rb i) ++ Str.ofString "\n" ++ sepAt i ++ Str.ofString "\n").length ≤ _
        have hn : (Str.ofString "\n").length = 1 := rfl
        rw [Str.length_append, Str.length_append, Str.length_append, Str.length_append, Str.length_append, hn]
        exact len_turn pl1 hll hfl hsl
      refine ⟨_, _, _, _, (103, tabO ps8) :: (L' + 1, oc2) :: rest, rfl, Fe, fun q hq => Ne q (.tail _ hq), ?_, ⟨ps8, oc2, _, _, ⟨rfl, rfl, rfl, rfl, trivial⟩, rfl, dc2, tb8, ab8, hlf⟩⟩
      intro q hq
      rcases List.mem_cons.mp hq with rfl | hq
      · exact hI (103, tabO ps1) (.head _)
      rcases List.mem_cons.mp hq with rfl | hq
      · exact hI (L' + 1, oc1) (.tail _ (.head _))
      · exact hI q (.tail _ (.tail _ hq))
  · rintro m₁ nx h gens tk ⟨ps1, oc1, v1, tp, hm, rfl, dc1, tb1, ab1, pl1⟩ F₁ N₁
    rw [← ovr_eq hm] at F₁
    change Fr g' L' h _ at F₁
    change News g' L' h _ at N₁
    k_steps
    rename Fr _ _ _ _ => Fe
    rename News _ _ _ _ => Ne
    refine hret _ _ _ _ ps1 (fun b o hb e => ?_) (Ne _ (.head _)).1 tb1 ab1 ⟨_, rfl⟩
    exact Fe.keep _ _ (hg' b o e fun hm => hb (List.mem_singleton.mp hm))
end Mine

namespace Mine
section
open Builtin Builtin.Str StrLaws
abbrev cs (x : Str) : List Nat := x.cps.toList
theorem cs_inj {x y : Str} (h : cs x = cs y) : x = y := Str.ext' (Array.toList_inj.mp h)
theorem cs_app (x y : Str) : cs (x ++ y) = cs x ++ cs y := by
  show (x.cps ++ y.cps).toList = _
  exact Array.toList_append
theorem cs_len (x : Str) : (cs x).length = x.length := by simp [Str.length]
theorem str_nil {x : Str} (h : cs x = []) : x = Str.ofString "" := cs_inj h
theorem app_assoc (x y z : Str) : x ++ y ++ z = x ++ (y ++ z) := cs_inj (by simp only [cs_app, List.append_assoc])
theorem nil_app (x : Str) : Str.ofString "" ++ x = x := cs_inj (by rw [cs_app]; rfl)
theorem app_nil (x : Str) : x ++ Str.ofString "" = x := cs_inj (by rw [cs_app]; exact List.append_nil _)
theorem cs_getD (x : Str) (k : Nat) : x.cps.getD k 0 = (cs x).getD k 0 := (getD_list x k).symm
/-- strip -/
theorem strip_of {x : Str} {a b : List Nat} {m : List Nat} {c d : Nat} (e : cs x = a ++ (m ++ b)) (ha : ∀ k ∈ a, Unicode.isSpace k = true) (hb : ∀ k ∈ b, Unicode.isSpace k = true) (hc : m.head? = some c) (hc' : Unicode.isSpace c = false)
    (hd : m.getLast? = some d) (hd' : Unicode.isSpace d = false) : Txt.strip x = ⟨m.toArray⟩ := by
  obtain ⟨l1, l2, l3⟩ := lo_facts Unicode.isSpace x
  obtain ⟨h1, h2, h3, h4⟩ := hi_facts Unicode.isSpace x _ l1
  unfold Txt.strip
  rw [PyProof.Rows.stripBy_eq]
  have hm : m ≠ [] := by rintro rfl; cases hc
  have hml : 1 ≤ m.length := List.length_pos_iff.mpr hm
  have hl : x.length = a.length + (m.length + b.length) := by rw [← cs_len, e]; simp
  have at0 : (cs x).getD a.length 0 = c := by
    rw [e, List.getD_eq_getElem?_getD, List.getElem?_append_right (Nat.le_refl _), Nat.sub_self, List.getElem?_append_left (by omega), ← List.head?_eq_getElem?, hc]; rfl
  have at1 : (cs x).getD (a.length + m.length - 1) 0 = d := by
    rw [e, List.getD_eq_getElem?_getD, List.getElem?_append_right (by omega), List.getElem?_append_left (by omega), show a.length + m.length - 1 - a.length = m.length - 1 by omega, ← List.getLast?_eq_getElem?, hd]; rfl
  have ina : ∀ k, k < a.length → Unicode.isSpace ((cs x).getD k 0) = true := fun k hk => by
    rw [e, List.getD_eq_getElem?_getD, List.getElem?_append_left hk, List.getElem?_eq_getElem hk]
    exact ha _ (List.getElem_mem _)
  have inb : ∀ k, a.length + m.length ≤ k → k < x.length → Unicode.isSpace ((cs x).getD k 0) = true := fun k hk hk' => by
    rw [e, List.getD_eq_getElem?_getD, List.getElem?_append_right (by omega), List.getElem?_append_right (by omega), List.getElem?_eq_getElem (by omega)]
    exact hb _ (List.getElem_mem _)
  simp only [cs_getD] at l2 l3 h3 h4
  generalize stripLo Unicode.isSpace true x = lo at *
  have elo : lo = a.length := by
    rcases Nat.lt_trichotomy lo a.length with h | h | h
    · rcases l3 with l3 | l3
      · omega
      · rw [ina lo h] at l3; cases l3
    · exact h
    · have := l2 _ h; rw [at0, hc'] at this; cases this
  subst elo
  generalize stripHi Unicode.isSpace true x a.length = hi at *
  have ehi : hi = a.length + m.length := by
    rcases Nat.lt_trichotomy hi (a.length + m.length) with h | h | h
    · have := h3 (a.length + m.length - 1) (by omega) (by omega)
      rw [at1, hd'] at this; cases this
    · exact h
    · rcases h4 with h4 | h4
      · omega
      · rw [inb (hi - 1) (by omega) (by omega)] at h4; cases h4
  subst ehi
  apply cs_inj
  show (strSub x _ _).cps.toList = _
  rw [strSub_toList]
  show ((cs x).drop _).take _ = _
  rw [e, List.drop_left, show a.length + m.length - a.length = m.length by omega, List.take_left]
theorem strip_id {x : Str} {c d : Nat} (hc : (cs x).head? = some c) (hc' : Unicode.isSpace c = false) (hd : (cs x).getLast? = some d) (hd' : Unicode.isSpace d = false) : Txt.strip x = x := by
  have := strip_of (x := x) (a := []) (b := []) (m := cs x) (by simp) (by simp) (by simp) hc hc' hd hd'
  rw [this]
theorem rstrip_white {x : Str} (h : ∀ k ∈ cs x, Unicode.isSpace k = true) : (Txt.rstrip x).length = 0 := by
  have hlo : stripLo Unicode.isSpace false x = 0 := rfl
  obtain ⟨h1, h2, h3, h4⟩ := hi_facts Unicode.isSpace x 0 (Nat.zero_le _)
  unfold Txt.rstrip
  rw [PyProof.Rows.stripBy_eq, hlo]
  simp only [cs_getD] at h4
  generalize stripHi Unicode.isSpace true x 0 = hi at *
  have : hi = 0 := by
    rcases h4 with h4 | h4
    · exact h4
    · by_cases h0 : hi = 0
      · exact h0
      · exfalso
        have hlt : hi - 1 < (cs x).length := by rw [cs_len]; omega
        rw [List.getD_eq_getElem?_getD, List.getElem?_eq_getElem hlt] at h4
        rw [Option.getD_some, h _ (List.getElem_mem _)] at h4; cases h4
  subst this
  rw [← cs_len]
  show (strSub x 0 0).cps.toList.length = 0
  rw [strSub_toList]; simp
theorem rstrip_ink {x : Str} {d : Nat} (hd : (cs x).getLast? = some d) (hd' : Unicode.isSpace d = false) : (Txt.rstrip x).length ≠ 0 := by
  have hlo : stripLo Unicode.isSpace false x = 0 := rfl
  obtain ⟨h1, h2, h3, h4⟩ := hi_facts Unicode.isSpace x 0 (Nat.zero_le _)
  unfold Txt.rstrip
  rw [PyProof.Rows.stripBy_eq, hlo]
  have hx : cs x ≠ [] := by intro e; rw [e] at hd; cases hd
  have hxl : 1 ≤ x.length := by rw [← cs_len]; exact List.length_pos_iff.mpr hx
  simp only [cs_getD] at h3
  have : stripHi Unicode.isSpace true x 0 ≠ 0 := by
    intro e
    have := h3 (x.length - 1) (by omega) (by omega)
    rw [List.getD_eq_getElem?_getD, ← cs_len, ← List.getLast?_eq_getElem?, hd] at this
    rw [Option.getD_some, hd'] at this; cases this
  rw [← cs_len]
  show (strSub x 0 _).cps.toList.length ≠ 0
  rw [strSub_toList]
  show (((cs x).drop 0).take _).length ≠ 0
  rw [List.length_take, List.length_drop, cs_len]
  omega
/-- join, split by one sign -/
theorem cs_join1 (y a : Str) : cs (Str.join y [a]) = cs a := rfl
theorem cs_join2 (y a b : Str) (r : List Str) : cs (Str.join y (a :: b :: r)) = cs a ++ (cs y ++ cs (Str.join y (b :: r))) := by
  show cs (a ++ y ++ Str.join y (b :: r)) = _
  rw [cs_app, cs_app, List.append_assoc]
theorem txt_join (y : Str) (l : List Str) : Txt.join y l = Str.join y l := glued_eq_join y l
theorem join_app (y : Str) : ∀ (a : Str) (l : List Str) (b : Str) (r : List Str), Str.join y ((a :: l) ++ (b :: r)) = Str.join y (a :: l) ++ y ++ Str.join y (b :: r)
  | a, [], b, r => rfl
  | a, a' :: l, b, r => by
    have ih := join_app y a' l b r
    apply cs_inj
    show cs (a ++ y ++ Str.join y ((a' :: l) ++ (b :: r))) = cs ((a ++ y ++ Str.join y (a' :: l)) ++ y ++ Str.join y (b :: r))
    rw [ih]
    simp only [cs_app, List.append_assoc]
theorem cut_uniq {c : Nat} : ∀ {a a' r r' : List Nat}, c ∉ a → c ∉ a' → a ++ c :: r = a' ++ c :: r' → a = a' ∧ r = r'
  | [], [], r, r', _, _, h => ⟨rfl, (List.cons.inj h).2⟩
  | [], b :: a', r, r', _, h', h => absurd (List.cons.inj h).1 (fun e => h' (e ▸ .head _))
  | b :: a, [], r, r', h', _, h => absurd (List.cons.inj h).1 (fun e => h' (e ▸ .head _))
  | b :: a, b' :: a', r, r', h1, h2, h => by
    obtain ⟨e1, e2⟩ := List.cons.inj h
    obtain ⟨i1, i2⟩ := cut_uniq (fun m => h1 (.tail _ m)) (fun m => h2 (.tail _ m)) e2
    exact ⟨by rw [e1, i1], i2⟩
theorem join_inj {y : Str} {c : Nat} {t : List Nat} (hy : cs y = c :: t) : ∀ {a : Str} {l : List Str} {b : Str} {r : List Str}, (∀ p ∈ a :: l, c ∉ cs p) → (∀ p ∈ b :: r, c ∉ cs p) → Str.join y (a :: l) = Str.join y (b :: r) → a :: l = b :: r
  | a, [], b, [], _, _, h => by
    have : a = b := h
    rw [this]
  | a, [], b, b' :: r, h1, h2, h => by
    have := congrArg cs h
    rw [cs_join1, cs_join2, hy] at this
    exact absurd (this ▸ List.mem_append_right _ (.head _)) (h1 a (.head _))
  | a, a' :: l, b, [], h1, h2, h => by
    have := congrArg cs h
    rw [cs_join1, cs_join2, hy] at this
    exact absurd (this ▸ List.mem_append_right _ (.head _)) (h2 b (.head _))
  | a, a' :: l, b, b' :: r, h1, h2, h => by
    have := congrArg cs h
    rw [cs_join2, cs_join2, hy] at this
    obtain ⟨e1, e2⟩ := cut_uniq (h1 a (.head _)) (h2 b (.head _)) this
    have e3 := List.append_cancel_left e2
    have := join_inj hy (fun p hp => h1 p (.tail _ hp)) (fun p hp => h2 p (.tail _ hp)) (cs_inj e3)
    rw [cs_inj e1, this]
theorem split_ne (x y : Str) : Txt.split x y ≠ [] := by
  intro e
  have := split_pos x y
  rw [e] at this
  simp at this
theorem split_join {c : Nat} {a : Str} {l : List Str} (h : ∀ p ∈ a :: l, c ∉ cs p) : Txt.split (Str.join ⟨#[c]⟩ (a :: l)) ⟨#[c]⟩ = a :: l := by
  have h1 := join_split (Str.join ⟨#[c]⟩ (a :: l)) ⟨#[c]⟩
  have h2 := split_free (Str.join ⟨#[c]⟩ (a :: l)) c
  have h3 := split_ne (Str.join ⟨#[c]⟩ (a :: l)) ⟨#[c]⟩
  revert h1 h2 h3
  generalize Txt.split (Str.join ⟨#[c]⟩ (a :: l)) ⟨#[c]⟩ = ps
  intro h1 h2 h3
  cases ps with
  | nil => exact absurd rfl h3
  | cons b r => exact join_inj (t := []) rfl h2 h h1
/-- split by a longer sign -/
theorem split_parts {x y : Str} (hy : 1 ≤ y.length) (hk : y.cps.all (· < 256) = true) : Txt.split x y = partsFrom x y.length 0 (occurrences x y 0 x.length (x.length + 1)) := by
  obtain ⟨f, hG, hn⟩ := occ_tight x y hy
  have kk : ¬ Builtin.Str.strKind x < Builtin.Str.strKind y := by
    have e : Builtin.Str.strKind y = 1 := by unfold Builtin.Str.strKind; rw [if_pos hk]
    have : 1 ≤ Builtin.Str.strKind x := by unfold Builtin.Str.strKind; split <;> (try split) <;> omega
    omega
  have none : occurrences x y 0 x.length (x.length + 1) = [] → [x] = partsFrom x y.length 0 (occurrences x y 0 x.length (x.length + 1)) := fun e => by
    rw [e]
    show [x] = [strSub x 0 x.length]
    rw [sub_whole]
  unfold Txt.split
  split
  · rename_i hc
    rw [Bool.or_eq_true, decide_eq_true_eq, decide_eq_true_eq] at hc
    refine none ?_
    rcases hc with hc | hc
    · cases e : occurrences x y 0 x.length (x.length + 1) with
      | nil => rfl
      | cons k r =>
        rw [e] at hG
        have := hG.2.1.1
        omega
    · exact absurd hc kk
  · split
    · rename_i he
      exact none (List.isEmpty_iff.mp he)
    · exact partsBetween_eq _ _ _
theorem split_none {x y : Str} (hy : 1 ≤ y.length) (hk : y.cps.all (· < 256) = true) (h : ∀ k, ¬ At x y x.length k) : Txt.split x y = [x] := by
  obtain ⟨f, hG, hn⟩ := occ_tight x y hy
  rw [split_parts hy hk]
  cases e : occurrences x y 0 x.length (x.length + 1) with
  | nil =>
    show [strSub x 0 x.length] = [x]
    rw [sub_whole]
  | cons k r =>
    rw [e] at hG
    exact absurd hG.2.1 (h k)
theorem sub_shift {x r : Str} {d a b : Nat} (e : (cs x).drop d = cs r) : strSub x (d + a) (d + b) = strSub r a b := by
  apply cs_inj
  show (strSub x _ _).cps.toList = (strSub r _ _).cps.toList
  rw [strSub_toList, strSub_toList]
  show ((cs x).drop _).take _ = ((cs r).drop _).take _
  rw [← e, List.drop_drop, show d + b - (d + a) = b - a by omega]
theorem parts_shift {x r y : Str} {d : Nat} (e : (cs x).drop d = cs r) (hl : x.length = d + r.length) (hA : ∀ k, At r y r.length k ↔ At x y x.length (d + k)) : ∀ {cuts cuts' : List Nat} {a f f' : Nat}, ChainG x y x.length (d + a) cuts f → (∀ k, f ≤ k → ¬ At x y x.length k) →
    ChainG r y r.length a cuts' f' → (∀ k, f' ≤ k → ¬ At r y r.length k) → partsFrom x y.length (d + a) cuts = partsFrom r y.length a cuts'
  | [], [], a, f, f', _, _, _, _ => by
    show [strSub x (d + a) x.length] = [strSub r a r.length]
    rw [hl, sub_shift e]
  | [], k :: cs', a, f, f', h1, h2, h3, h4 => by
    have e1 : f = d + a := h1
    have := (hA k).mp h3.2.1
    exact absurd this (h2 _ (by have := h3.1; omega))
  | k :: cs', [], a, f, f', h1, h2, h3, h4 => by
    have e1 : f' = a := h3
    have l1 := h1.1
    have := (hA (k - d)).mpr (by rw [show d + (k - d) = k by omega]; exact h1.2.1)
    exact absurd this (h4 _ (by omega))
  | k :: c1, k' :: c2, a, f, f', h1, h2, h3, h4 => by
    have l1 := h1.1
    have l2 := h3.1
    have ek : k = d + k' := by
      rcases Nat.lt_trichotomy k (d + k') with h | h | h
      · exact absurd ((hA (k - d)).mpr (by rw [show d + (k - d) = k by omega]; exact h1.2.1)) (h3.2.2.1 _ (by omega) (by omega))
      · exact h
      · exact absurd ((hA k').mp h3.2.1) (h1.2.2.1 _ (by omega) (by omega))
    subst ek
    show strSub x (d + a) (d + k') :: partsFrom x y.length (d + k' + y.length) c1 = strSub r a k' :: partsFrom r y.length (k' + y.length) c2
    have h1' := h1.2.2.2
    rw [Nat.add_assoc] at h1' ⊢
    rw [sub_shift e, parts_shift e hl hA h1' h2 h3.2.2.2 h4]
theorem split_first {x y p r : Str} (hy : 1 ≤ y.length) (hk : y.cps.all (· < 256) = true) (e : cs x = cs p ++ (cs y ++ cs r)) (hp : ∀ k, k < p.length → ¬ At x y x.length k) : Txt.split x y = p :: Txt.split r y := by
  obtain ⟨f, hG, hn⟩ := occ_tight x y hy
  obtain ⟨f', hG', hn'⟩ := occ_tight r y hy
  rw [split_parts hy hk, split_parts hy hk]
  have hl : x.length = p.length + y.length + r.length := by rw [← cs_len, e, List.length_append, List.length_append, cs_len, cs_len, cs_len]; omega
  have hd : (cs x).drop (p.length + y.length) = cs r := by
    rw [e, ← List.append_assoc, ← cs_len p, ← cs_len y, ← List.length_append, List.drop_left]
  have hA : ∀ k, At r y r.length k ↔ At x y x.length (p.length + y.length + k) := fun k => by
    unfold At
    rw [subAt_eq, subAt_eq]
    show _ ∧ (((cs r).drop k).take y.length == cs y) = true ↔ _ ∧ (((cs x).drop _).take y.length == cs y) = true
    rw [← hd, List.drop_drop]
    constructor
    · rintro ⟨h1, h2⟩; exact ⟨by omega, h2⟩
    · rintro ⟨h1, h2⟩; exact ⟨by omega, h2⟩
  have hat : At x y x.length p.length := by
    unfold At
    rw [subAt_eq, beq_iff_eq]
    refine ⟨by omega, ?_⟩
    show ((cs x).drop _).take y.length = cs y
    rw [e, ← cs_len p, List.drop_left, ← cs_len y, List.take_left]
  cases ec : occurrences x y 0 x.length (x.length + 1) with
  | nil =>
    rw [ec] at hG
    have : f = 0 := hG
    exact absurd hat (hn _ (by omega))
  | cons k c1 =>
    rw [ec] at hG
    have ek : k = p.length := by
      rcases Nat.lt_trichotomy k p.length with h | h | h
      · exact absurd hG.2.1 (hp k h)
      · exact h
      · exact absurd hat (hG.2.2.1 _ (Nat.zero_le _) h)
    subst ek
    show strSub x 0 p.length :: partsFrom x y.length (p.length + y.length) c1 = _
    have h3 := hG.2.2.2
    have := parts_shift (a := 0) hd hl hA h3 hn hG' hn'
    rw [Nat.add_zero] at this
    rw [this]
    congr 1
    apply cs_inj
    show (strSub x _ _).cps.toList = _
    rw [strSub_toList]
    show ((cs x).drop 0).take _ = _
    rw [e, List.drop_zero, Nat.sub_zero, ← cs_len p, List.take_left]
theorem at_head {x y : Str} {c : Nat} {t : List Nat} (hy : cs y = c :: t) {k : Nat} (h : At x y x.length k) : (cs x)[k]? = some c := by
  have h2 := h.2
  rw [subAt_eq, beq_iff_eq] at h2
  change ((cs x).drop k).take y.length = cs y at h2
  have hl : y.length = t.length + 1 := by rw [← cs_len, hy]; rfl
  rw [hy, hl] at h2
  have : ((cs x).drop k)[0]? = some c := by
    have := congrArg (fun l : List Nat => l[0]?) h2
    rw [List.getElem?_take_of_lt (by omega)] at this
    exact this
  rw [List.getElem?_drop] at this
  exact this
theorem split_off {x y : Str} {c : Nat} {t : List Nat} (hy : cs y = c :: t) (hk : y.cps.all (· < 256) = true) (h : c ∉ cs x) : Txt.split x y = [x] := by
  refine split_none (by rw [← cs_len, hy]; simp) hk fun k hA => h ?_
  exact List.mem_of_getElem? (at_head hy hA)
theorem split_joinW {y : Str} {c : Nat} {t : List Nat} (hy : cs y = c :: t) (hk : y.cps.all (· < 256) = true) : ∀ {a : Str} {l : List Str}, (∀ p ∈ a :: l, c ∉ cs p) → Txt.split (Str.join y (a :: l)) y = a :: l
  | a, [], h => split_off hy hk (h a (.head _))
  | a, b :: l, h => by
    have e := cs_join2 y a b l
    rw [split_first (p := a) (r := Str.join y (b :: l)) (by rw [← cs_len, hy]; simp) hk e, split_joinW hy hk fun p hp => h p (.tail _ hp)]
    intro k hk hA
    have := at_head hy hA
    rw [e, List.getElem?_append_left (by rw [cs_len]; exact hk)] at this
    exact h a (.head _) (List.mem_of_getElem? this)
/-- slices -/
theorem slice_pre {x p : Str} {r : List Nat} (e : cs x = cs p ++ r) {n : Nat} (hn : n = p.length) : Txt.slice x none (some (n : Int)) = p := by
  subst hn
  have hl : (cs x).length = p.length + r.length := by rw [e, List.length_append, cs_len]
  have := eq_of_beq (slice_closes_to (x := x) (j := (p.length : Int)) ⟨by omega, by rw [show x.cps.toList.length = p.length + r.length from hl]; omega⟩)
  rw [this]
  apply cs_inj
  show ((cs x).drop 0).take ((p.length : Int) - 0).toNat = cs p
  rw [e, List.drop_zero, show ((p.length : Int) - 0).toNat = (cs p).length by rw [cs_len]; omega, List.take_left]
end
end Mine

namespace Mine
section
open Builtin Builtin.Str StrLaws
def Num (x : Str) : Prop := cs x ≠ [] ∧ ∀ c ∈ cs x, 48 ≤ c ∧ c ≤ 57
theorem digit_ink {c : Nat} (h : 48 ≤ c ∧ c ≤ 57) : Unicode.isSpace c = false := by
  have key : ∀ k : Fin 10, Unicode.isSpace (48 + k.val) = false := by decide +kernel
  have := key ⟨c - 48, by omega⟩
  rwa [show 48 + (c - 48) = c by omega] at this
theorem Num.head {x : Str} (h : Num x) : ∃ c, (cs x).head? = some c ∧ 48 ≤ c ∧ c ≤ 57 := by
  cases e : cs x with
  | nil => exact absurd e h.1
  | cons c r => exact ⟨c, rfl, h.2 c (e ▸ .head _)⟩
theorem Num.last {x : Str} (h : Num x) : ∃ c, (cs x).getLast? = some c ∧ 48 ≤ c ∧ c ≤ 57 := by
  obtain ⟨c, hc⟩ := Option.isSome_iff_exists.mp (List.getLast?_isSome.mpr h.1)
  exact ⟨c, hc, h.2 c (List.mem_of_getLast? hc)⟩
theorem Num.off {x : Str} (h : Num x) {c : Nat} (hc : c < 48 ∨ 57 < c) : c ∉ cs x := fun m => by have := h.2 c m; omega
abbrev nlS : Str := Str.ofString "\n"
theorem joinE (y : Str) : Str.join y [] = Str.ofString "" := rfl
theorem join_head {y : Str} : ∀ {a : Str} {l : List Str}, Num a → ∃ c, (cs (Str.join y (a :: l))).head? = some c ∧ 48 ≤ c ∧ c ≤ 57
  | a, [], h => h.head
  | a, b :: l, h => by
    obtain ⟨c, hc, hc'⟩ := h.head
    refine ⟨c, ?_, hc'⟩
    rw [cs_join2, List.head?_append, hc]; rfl
theorem join_last {y : Str} : ∀ {a : Str} {l : List Str}, (∀ p ∈ a :: l, Num p) → ∃ c, (cs (Str.join y (a :: l))).getLast? = some c ∧ 48 ≤ c ∧ c ≤ 57
  | a, [], h => (h a (.head _)).last
  | a, b :: l, h => by
    obtain ⟨c, hc, hc'⟩ := join_last (y := y) (a := b) (l := l) fun p hp => h p (.tail _ hp)
    refine ⟨c, ?_, hc'⟩
    rw [cs_join2, List.getLast?_append, List.getLast?_append, hc]; rfl
theorem join_strip {y : Str} {a : Str} {l : List Str} (h : ∀ p ∈ a :: l, Num p) : Txt.strip (Str.join y (a :: l)) = Str.join y (a :: l) := by
  obtain ⟨c, hc, hc'⟩ := join_head (y := y) (l := l) (h a (.head _))
  obtain ⟨d, hd, hd'⟩ := join_last (y := y) h
  exact strip_id hc (digit_ink hc') hd (digit_ink hd')
/-- two line ends as a join of lines -/
def dblL : List Str → List Str
  | [] => []
  | [a] => [a]
  | a :: b :: r => a :: Str.ofString "" :: dblL (b :: r)
theorem dbl_cons (b : Str) (r : List Str) : ∃ t, dblL (b :: r) = b :: t := by
  cases r with
  | nil => exact ⟨_, rfl⟩
  | cons c r => exact ⟨_, rfl⟩
theorem join_dblL : ∀ l : List Str, Str.join (Str.ofString "\n\n") l = Str.join nlS (dblL l)
  | [] => rfl
  | [a] => rfl
  | a :: b :: r => by
    have ih := join_dblL (b :: r)
    obtain ⟨t, ht⟩ := dbl_cons b r
    apply cs_inj
    rw [cs_join2, ih]
    show _ = cs (Str.join nlS (a :: Str.ofString "" :: dblL (b :: r)))
    rw [ht, cs_join2, cs_join2]
    rfl
theorem dblL_off : ∀ {l : List Str}, (∀ p ∈ l, Num p) → ∀ p ∈ dblL l, 10 ∉ cs p
  | [], _, _, h => nomatch h
  | [a], h, p, hp => by
    rw [List.mem_singleton.mp hp]
    exact (h a (.head _)).off (by omega)
  | a :: b :: r, h, p, hp => by
    rcases List.mem_cons.mp hp with rfl | hp
    · exact (h p (.head _)).off (by omega)
    rcases List.mem_cons.mp hp with rfl | hp
    · exact fun m => nomatch m
    · exact dblL_off (fun q hq => h q (.tail _ hq)) p hp
theorem splitdoc_two {a : Str} {l : List Str} (h : ∀ p ∈ a :: l, Num p) : splitdocL (Str.join (Str.ofString "\n\n") (a :: l)) = (a, Str.join (Str.ofString "\n\n") l) := by
  unfold splitdocL
  rw [join_strip h, join_dblL]
  cases l with
  | nil =>
    rw [show Txt.split (Str.join nlS (dblL [a])) (Str.ofString "\n") = [a] from split_join (c := 10) (dblL_off h)]
    rfl
  | cons b r =>
    have e : Txt.split (Str.join nlS (dblL (a :: b :: r))) (Str.ofString "\n") = a :: Str.ofString "" :: dblL (b :: r) := split_join (c := 10) (dblL_off h)
    rw [e]
    dsimp only
    rw [if_pos (rstrip_white (x := Str.ofString "") (fun _ h => nomatch h)), txt_join, join_dblL]
theorem splitdoc_one {nums : List Str} (h : ∀ p ∈ nums, Num p) : splitdocL (Str.join nlS nums) = dueL nums := by
  cases nums with
  | nil => rfl
  | cons a l =>
    have e : Txt.split (Str.join nlS (a :: l)) (Str.ofString "\n") = a :: l := split_join (c := 10) fun p hp => (h p hp).off (by omega)
    unfold splitdocL
    rw [join_strip h, e]
    cases l with
    | nil =>
      unfold dueL
      rw [if_neg (by simp)]
      rfl
    | cons b r =>
      obtain ⟨d, hd, hd'⟩ := (h b (.tail _ (.head _))).last
      dsimp only
      rw [if_neg (rstrip_ink hd (digit_ink hd'))]
      unfold dueL
      rw [if_pos (by simp)]
theorem peel_nums {nums : List Str} (h : ∀ p ∈ nums, Num p) : ∀ i, peelN (Str.join (Str.ofString "\n\n") nums) i = (nums.take i, Str.join (Str.ofString "\n\n") (nums.drop i))
  | 0 => by simp [peelN]
  | i + 1 => by
    show peelStep (peelN _ i) = _
    rw [peel_nums h i]
    unfold peelStep
    dsimp only
    cases e : nums.drop i with
    | nil =>
      have hl : nums.length ≤ i := List.drop_eq_nil_iff.mp e
      rw [if_pos (by rfl), List.take_of_length_le hl, List.take_of_length_le (by omega), List.drop_of_length_le (by omega)]
    | cons a l =>
      have hm : ∀ p ∈ a :: l, Num p := fun p hp => h p (List.mem_of_mem_drop (e ▸ hp))
      have hil : i < nums.length := by
        rcases Nat.lt_or_ge i nums.length with q | q
        · exact q
        · rw [List.drop_of_length_le q] at e; cases e
      obtain ⟨c, hc, _⟩ := join_head (y := Str.ofString "\n\n") (l := l) (hm a (.head _))
      rw [if_neg, splitdoc_two hm]
      · have e1 : nums.drop (i + 1) = l := by rw [← List.drop_drop, e]; rfl
        have e2 : nums[i]? = some a := by
          have := congrArg (fun l : List Str => l[0]?) e
          simpa [List.getElem?_drop] using this
        rw [e1, List.take_add_one, e2]; rfl
      · rw [← cs_len]
        intro z
        rw [List.length_eq_zero_iff.mp z] at hc; cases hc
theorem peelL_nums {nums : List Str} (h : ∀ p ∈ nums, Num p) (hl : nums.length ≤ 9) : peelL (Str.join (Str.ofString "\n\n") nums) = nums := by
  unfold peelL
  rw [peel_nums h, List.take_of_length_le hl]
theorem commas {nums : List Str} (h : ∀ p ∈ nums, Num p) : ∀ c ∈ cs (Str.join (Str.ofString ", ") nums), c = 44 ∨ c = 32 ∨ 48 ≤ c ∧ c ≤ 57 := by
  induction nums with
  | nil => intro c hc; nomatch hc
  | cons a l ih =>
    intro c hc
    cases l with
    | nil => exact .inr (.inr ((h a (.head _)).2 c hc))
    | cons b r =>
      rw [cs_join2] at hc
      rcases List.mem_append.mp hc with hc | hc
      · exact .inr (.inr ((h a (.head _)).2 c hc))
      rcases List.mem_append.mp hc with hc | hc
      · have : c ∈ [44, 32] := hc
        simp at this
        omega
      · exact ih (fun p hp => h p (.tail _ hp)) c hc
theorem split_nums {nums : List Str} (h : ∀ p ∈ nums, Num p) (q : Str) : Txt.join q (Txt.split (Str.join (Str.ofString ", ") nums) (Str.ofString ", ")) = Str.join q nums := by
  rw [txt_join]
  cases nums with
  | nil => rw [split_off (c := 44) (t := [32]) rfl (by decide +kernel) (fun m => List.not_mem_nil m)]; rfl
  | cons a l => rw [split_joinW (c := 44) (t := [32]) rfl (by decide +kernel) fun p hp => (h p hp).off (by omega)]
theorem repl_nums {nums : List Str} (h : ∀ p ∈ nums, Num p) {word : Str} {t : List Nat} (hw : cs word = 97 :: t) (hk : word.cps.all (· < 256) = true) (q : Str) :
    replL (word ++ Str.join (Str.ofString ", ") nums) word (Str.ofString "") (Str.ofString ", ") q = Str.join q nums := by
  have e1 : Txt.split (word ++ Str.join (Str.ofString ", ") nums) word = [Str.ofString "", Str.join (Str.ofString ", ") nums] := by
    rw [split_first (p := Str.ofString "") (r := Str.join (Str.ofString ", ") nums) (by rw [← cs_len, hw]; simp) hk (by rw [cs_app]; rfl) (fun k hk => absurd hk (Nat.not_lt_zero _)), split_off hw hk]
    intro m
    have := commas h 97 m
    omega
  unfold replL
  rw [e1]
  have e2 : Txt.join (Str.ofString "") [Str.ofString "", Str.join (Str.ofString ", ") nums] = Str.join (Str.ofString ", ") nums := by
    rw [txt_join]
    apply cs_inj
    rw [cs_join2]
    rfl
  rw [e2, split_nums h]
theorem wordL_cases (nums : List Str) : ∃ t, cs (wordL nums) = 97 :: t ∧ (wordL nums).cps.all (· < 256) = true ∧ (10 ∉ t) ∧ (wordL nums).length ≤ 13 := by
  unfold wordL
  split
  · exact ⟨_, rfl, by decide +kernel, by decide +kernel, by decide +kernel⟩
  · exact ⟨_, rfl, by decide +kernel, by decide +kernel, by decide +kernel⟩
theorem fmtL_word (ns : List Int) : fmtL ns = wordL (ns.map numS) ++ Str.join (Str.ofString ", ") (ns.map numS) := by
  unfold fmtL wordL
  rw [txt_join, List.length_map]
  congr 1
  split
  · rw [if_pos (by omega)]; rfl
  · rw [if_neg (by omega)]; rfl
theorem head_reads {nums : List Str} (h : ∀ p ∈ nums, Num p) (hl : nums.length ≤ 9) {head : Str} (hh : head = wordL nums ++ Str.join (Str.ofString ", ") nums) :
    Txt.slice head none (some ((wordL nums).length : Int)) = wordL nums ∧ peelL (replL head (wordL nums) (Str.ofString "") (Str.ofString ", ") (Str.ofString "\n\n")) = nums ∧
    splitdocL (replL head (wordL nums) (Str.ofString "") (Str.ofString ", ") (Str.ofString "\n")) = dueL nums := by
  subst hh
  obtain ⟨t, hw, hk, _, _⟩ := wordL_cases nums
  refine ⟨slice_pre (cs_app _ _) rfl, ?_, ?_⟩
  · rw [repl_nums h hw hk, peelL_nums h hl]
  · rw [repl_nums h hw hk, splitdoc_one h]
theorem ok_of {x : Str} (h : ∀ c ∈ cs x, c < 1114112) : PyData.strOk x = true := by
  unfold PyData.strOk
  rw [← Array.all_toList]
  exact List.all_eq_true.mpr fun c hc => decide_eq_true (h c hc)
theorem join_mem {y : Str} : ∀ {l : List Str} {c : Nat}, c ∈ cs (Str.join y l) → c ∈ cs y ∨ ∃ p ∈ l, c ∈ cs p
  | [], _, h => nomatch h
  | [a], _, h => .inr ⟨a, .head _, h⟩
  | a :: b :: r, c, h => by
    rw [cs_join2] at h
    rcases List.mem_append.mp h with h | h
    · exact .inr ⟨a, .head _, h⟩
    rcases List.mem_append.mp h with h | h
    · exact .inl h
    · rcases join_mem h with h | ⟨p, hp, h⟩
      · exact .inl h
      · exact .inr ⟨p, .tail _ hp, h⟩
theorem ok_join {y : Str} {l : List Str} (hy : ∀ c ∈ cs y, c < 1114112) (h : ∀ p ∈ l, Num p) : PyData.strOk (Txt.join y l) = true := by
  rw [txt_join]
  refine ok_of fun c hc => ?_
  rcases join_mem hc with hc | ⟨p, hp, hc⟩
  · exact hy c hc
  · have := (h p hp).2 c hc; omega
theorem nums_oks {nums : List Str} (h : ∀ p ∈ nums, Num p) : nums.all PyData.strOk = true ∧ PyData.strOk (dueL nums).1 = true ∧ PyData.strOk (dueL nums).2 = true := by
  refine ⟨List.all_eq_true.mpr fun p hp => ok_of fun c hc => by have := (h p hp).2 c hc; omega, ?_, ?_⟩
  · unfold dueL
    split
    · show PyData.strOk (Str.ofString "") = true
      decide +kernel
    · exact ok_join (fun c hc => nomatch hc) h
  · unfold dueL
    split
    · exact ok_join (fun c hc => by have : c ∈ [10] := hc; simp at this; omega) h
    · show PyData.strOk (Str.ofString "") = true
      decide +kernel
/-- a page's first row -/
theorem wsGo_n : ∀ (l : List Nat) (c : Nat) (r : List Nat) (st : WS), (∀ k ∈ l, k = 32 ∨ k = 9) → c ≠ 32 → c ≠ 9 → (wsGo (l ++ c :: r) st).n = st.n + l.length
  | [], c, r, st, _, h1, h2 => by
    show (if c = 32 then _ else if c = 9 then _ else st).n = _
    rw [if_neg h1, if_neg h2]; rfl
  | k :: l, c, r, st, h, h1, h2 => by
    show (if k = 32 then wsGo (l ++ c :: r) (wsBlank st) else if k = 9 then wsGo (l ++ c :: r) (wsTab st) else st).n = _
    have ih := fun st => wsGo_n l c r st (fun j hj => h j (.tail _ hj)) h1 h2
    rcases h k (.head _) with e | e
    · rw [if_pos e, ih]; show st.n + 1 + l.length = _; rw [List.length_cons]; omega
    · rw [if_neg (by omega), if_pos e, ih]; show st.n + 1 + l.length = _; rw [List.length_cons]; omega
theorem wsGo_stop : ∀ (l : List Nat) (r : List Nat) (st : WS), wsGo (l ++ 97 :: r) st = wsGo l st
  | [], r, st => rfl
  | k :: l, r, st => by
    show (if k = 32 then wsGo (l ++ 97 :: r) (wsBlank st) else if k = 9 then wsGo (l ++ 97 :: r) (wsTab st) else st) = (if k = 32 then wsGo l (wsBlank st) else if k = 9 then wsGo l (wsTab st) else st)
    rw [wsGo_stop l r, wsGo_stop l r]
theorem wsOf_mark (one : Str) : wsOf (one ++ Str.ofString "a\t") = wsOf one := by
  unfold wsOf
  have : (one ++ Str.ofString "a\t").cps.toList = one.cps.toList ++ 97 :: [9] := cs_app one _
  rw [this, wsGo_stop]
theorem page_step {x lead f sep b : Str} {r : List Str} {tail t : List Nat} (e : cs x = cs (Str.join nlS ((lead ++ f) :: sep :: b :: r)) ++ tail) (ht : ∀ c ∈ tail, Unicode.isSpace c = true) (hl : ∀ c ∈ cs lead, c = 32 ∨ c = 9) (hf : cs f = 97 :: t) (hf' : 10 ∉ cs f)
    (hs : ∀ c ∈ cs sep, c = 32 ∨ c = 9) (hr : ∀ p ∈ b :: r, 10 ∉ cs p) (hz : (cs (Str.join nlS (b :: r))).getLast? = some 122) :
    Txt.slice x none (some ((wsOf x).n : Int)) = lead ∧ splitdocL x = (f, Str.join nlS (b :: r)) := by
  have white : ∀ c, c = 32 ∨ c = 9 → Unicode.isSpace c = true := fun c h => by rcases h with rfl | rfl <;> decide +kernel
  have e' : cs x = cs lead ++ (cs (Str.join nlS (f :: sep :: b :: r)) ++ tail) := by
    rw [e, cs_join2, cs_join2, cs_app]
    simp only [List.append_assoc]
    rw [cs_join2 nlS f, cs_join2 nlS sep]
    simp only [List.append_assoc]
  refine ⟨?_, ?_⟩
  · refine slice_pre e' ?_
    have : (cs (Str.join nlS (f :: sep :: b :: r)) ++ tail) = 97 :: (t ++ (cs nlS ++ cs (Str.join nlS (sep :: b :: r))) ++ tail) := by rw [cs_join2, hf]; rfl
    unfold wsOf
    rw [show x.cps.toList = cs x from rfl, e', this, wsGo_n _ _ _ _ hl (by decide) (by decide), cs_len]
    exact Nat.zero_add _
  · have h0 : (cs (Str.join nlS (f :: sep :: b :: r))).head? = some 97 := by rw [cs_join2, hf]; rfl
    have h1 : (cs (Str.join nlS (f :: sep :: b :: r))).getLast? = some 122 := by rw [cs_join2, cs_join2, List.getLast?_append, List.getLast?_append, List.getLast?_append, List.getLast?_append, hz]; rfl
    have es := strip_of e' (fun c hc => white c (hl c hc)) ht h0 (by decide +kernel) h1 (by decide +kernel)
    have es' : Txt.strip x = Str.join nlS (f :: sep :: b :: r) := es
    have ep : Txt.split (Str.join nlS (f :: sep :: b :: r)) (Str.ofString "\n") = f :: sep :: b :: r := split_join (c := 10) fun p hp => by
      rcases List.mem_cons.mp hp with rfl | hp
      · exact hf'
      rcases List.mem_cons.mp hp with rfl | hp
      · exact fun m => by have := hs 10 m; omega
      · exact hr p hp
    unfold splitdocL
    rw [es', ep]
    dsimp only
    rw [if_pos (rstrip_white fun c hc => white c (hs c hc)), txt_join]
end
end Mine

namespace Mine
def runs (r : Str) : List Int := (Txt.split r (Str.ofString "\t")).map fun p => (p.length : Int)
def rowOk (r : Str) : Bool := (cs r).all (fun c => c == 32 || c == 9) && decide (r.length ≤ 7) &&
  (List.range 5).all (fun (j : Nat) => decide (ilL (wsOf r) (1 + (j : Int)) = colL r (1 + (j : Int))) && decide (0 ≤ colL r (1 + (j : Int))) && decide (colL r (1 + (j : Int)) < 100)) &&
  decide (lrsL (wsOf r) = maxL (runs r)) && decide (0 ≤ lrsL (wsOf r)) && decide (lrsL (wsOf r) ≤ 4)
structure GoodRow (r : Str) : Prop where
  white : ∀ c ∈ cs r, c = 32 ∨ c = 9
  len : r.length ≤ 7
  il : ∀ j : Nat, j < 5 → ilL (wsOf r) (1 + (j : Int)) = colL r (1 + (j : Int))
  bd : ∀ j : Nat, j < 5 → 0 ≤ colL r (1 + (j : Int)) ∧ colL r (1 + (j : Int)) < 100
  lrs : lrsL (wsOf r) = maxL (runs r)
  lo : 0 ≤ lrsL (wsOf r)
  hi : lrsL (wsOf r) ≤ 4
theorem rowOk_good {r : Str} (h : rowOk r = true) : GoodRow r := by
  unfold rowOk at h
  simp only [Bool.and_eq_true, List.all_eq_true, decide_eq_true_eq, Bool.or_eq_true, beq_iff_eq, List.mem_range] at h
  obtain ⟨⟨⟨⟨⟨h1, h2⟩, h3⟩, h4⟩, h5⟩, h6⟩ := h
  exact ⟨h1, h2, fun j hj => (h3 j hj).1.1, fun j hj => ⟨(h3 j hj).1.2, (h3 j hj).2⟩, h4, h5, h6⟩
theorem rows54 : (List.range 54).all (fun (y : Nat) => rowOk (rowOf (y : Int))) = true := by decide +kernel
theorem rows2 : rowOk (Str.ofString "   \t  ") = true ∧ rowOk (Str.ofString " \t \t") = true := by decide +kernel
theorem rowsL_good (ns : List Int) : ∀ r ∈ rowsL ns, GoodRow r := by
  intro r hr
  unfold rowsL at hr
  rcases List.mem_append.mp hr with hr | hr
  · rcases List.mem_cons.mp hr with rfl | hr
    · exact rowOk_good rows2.1
    · rw [List.mem_singleton.mp hr]; exact rowOk_good rows2.2
  · obtain ⟨x, _, rfl⟩ := List.mem_map.mp hr
    have h0 : 0 ≤ x.fmod 54 := by rw [Int.fmod_eq_emod_of_nonneg _ (by decide)]; omega
    have h1 : x.fmod 54 < 54 := by rw [Int.fmod_eq_emod_of_nonneg _ (by decide)]; omega
    have := List.all_eq_true.mp rows54 (x.fmod 54).toNat (List.mem_range.mpr (by omega))
    rw [show (((x.fmod 54).toNat : Nat) : Int) = x.fmod 54 by omega] at this
    exact rowOk_good this
theorem rowsL_len (ns : List Int) : 2 ≤ (rowsL ns).length ∧ (rowsL ns).length ≤ 6 := by
  unfold rowsL
  rw [List.length_append, List.length_map, List.length_take]
  show 2 ≤ 2 + _ ∧ 2 + _ ≤ 6
  omega
theorem split_tab (one two : Str) : Txt.split ((one ++ Str.ofString "\t") ++ two) (Str.ofString "\t") = Txt.split one (Str.ofString "\t") ++ Txt.split two (Str.ofString "\t") := by
  have a1 := StrLaws.join_split one (Str.ofString "\t")
  have a2 := StrLaws.join_split two (Str.ofString "\t")
  have f1 := StrLaws.split_free one 9
  have f2 := StrLaws.split_free two 9
  have n1 := split_ne one (Str.ofString "\t")
  have n2 := split_ne two (Str.ofString "\t")
  change ∀ p ∈ Txt.split one (Str.ofString "\t"), 9 ∉ cs p at f1
  change ∀ p ∈ Txt.split two (Str.ofString "\t"), 9 ∉ cs p at f2
  revert a1 a2 f1 f2 n1 n2
  generalize Txt.split one (Str.ofString "\t") = p1
  generalize Txt.split two (Str.ofString "\t") = p2
  intro a1 a2 n1 n2 f1 f2
  cases p1 with
  | nil => exact absurd rfl n1
  | cons a l =>
    cases p2 with
    | nil => exact absurd rfl n2
    | cons b r =>
      have := join_app (Str.ofString "\t") a l b r
      rw [a1, a2] at this
      rw [← this]
      exact split_join (c := 9) (a := a) (l := l ++ b :: r) fun p hp => by
        rcases List.mem_append.mp (show p ∈ (a :: l) ++ (b :: r) from hp) with hp | hp
        · exact f1 p hp
        · exact f2 p hp
theorem maxL_nonneg : ∀ l : List Int, 0 ≤ maxL l
  | [] => Int.le_refl _
  | a :: l => by
    have := maxL_nonneg l
    show 0 ≤ max a (maxL l)
    omega
theorem maxL_app : ∀ a b : List Int, maxL (a ++ b) = max (maxL a) (maxL b)
  | [], b => by
    have := maxL_nonneg b
    show maxL b = max 0 (maxL b)
    omega
  | x :: a, b => by
    show max x (maxL (a ++ b)) = max (max x (maxL a)) (maxL b)
    rw [maxL_app a b, Int.max_assoc]
theorem runsL_app (one two : Str) : runsL one two = runs one ++ runs two := by
  unfold runsL runs
  rw [split_tab, List.map_append]
theorem top_same {one two : Str} (g1 : GoodRow one) (g2 : GoodRow two) : topL (wsOf (one ++ Str.ofString "a\t")) (wsOf two) = topT one two ∧ 1 ≤ topT one two ∧ topT one two ≤ 5 := by
  have e1 := g1.lrs
  have e2 := g2.lrs
  have l1 := g1.lo
  have l2 := g2.lo
  have h1 := g1.hi
  have h2 := g2.hi
  unfold topL topT
  rw [wsOf_mark, runsL_app, maxL_app, ← e1, ← e2]
  split <;> omega
abbrev topN (one two : Str) : Nat := (topT one two).toNat
theorem topN_le {one two : Str} (g1 : GoodRow one) (g2 : GoodRow two) : topN one two ≤ 5 := by
  have := (top_same g1 g2).2
  unfold topN
  omega
theorem wit_tab {one two : Str} (g1 : GoodRow one) (g2 : GoodRow two) : witAll (wsOf (one ++ Str.ofString "a\t")) (wsOf two) (topL (wsOf (one ++ Str.ofString "a\t")) (wsOf two)).toNat = tabL one two (topN one two) := by
  rw [(top_same g1 g2).1, wsOf_mark]
  unfold witAll tabL
  refine List.map_congr_left fun j hj => ?_
  have hj := List.mem_range.mp hj
  have hn := topN_le g1 g2
  unfold topN at hn
  rw [g1.il j (by omega), g2.il j (by omega)]
def duA (one two : Str) : List (Int × Int × Int) := (tabL one two (topN one two)).filter fun t => decide (t.2.1 ≥ t.2.2)
def duB (one two : Str) : List (Int × Int × Int) := (tabL one two (topN one two)).filter fun t => decide (t.2.1 ≠ t.2.2)
theorem nl_du {one two : Str} (g1 : GoodRow one) (g2 : GoodRow two) : nlL (wsOf (one ++ Str.ofString "a\t")) (wsOf two) (topL (wsOf (one ++ Str.ofString "a\t")) (wsOf two)).toNat = duA one two := by
  unfold nlL duA
  rw [wit_tab g1 g2]
theorem ne_du {one two : Str} (g1 : GoodRow one) (g2 : GoodRow two) : neL (wsOf (one ++ Str.ofString "a\t")) (wsOf two) (topL (wsOf (one ++ Str.ofString "a\t")) (wsOf two)).toNat = duB one two := by
  unfold neL duB
  rw [wit_tab g1 g2]
theorem tab_bd {one two : Str} (g1 : GoodRow one) (g2 : GoodRow two) : ∀ t ∈ tabL one two (topN one two), (0 ≤ t.1 ∧ t.1 < 100) ∧ (0 ≤ t.2.1 ∧ t.2.1 < 100) ∧ 0 ≤ t.2.2 ∧ t.2.2 < 100 := by
  intro t ht
  unfold tabL at ht
  obtain ⟨j, hj, rfl⟩ := List.mem_map.mp ht
  have hj := List.mem_range.mp hj
  have hn := topN_le g1 g2
  exact ⟨by dsimp only; omega, g1.bd j (by omega), g2.bd j (by omega)⟩
theorem tab_len {one two : Str} (g1 : GoodRow one) (g2 : GoodRow two) : (tabL one two (topN one two)).length ≤ 5 := by
  unfold tabL
  rw [List.length_map, List.length_range]
  exact topN_le g1 g2
theorem wits_bd {one two : Str} (g1 : GoodRow one) (g2 : GoodRow two) (i : Nat) : (∀ n ∈ witsAt (duA one two) (duB one two) i, 0 ≤ n ∧ n < 100) ∧ (witsAt (duA one two) (duB one two) i).length ≤ 5 := by
  have key : ∀ l : List (Int × Int × Int), (∀ t ∈ l, t ∈ tabL one two (topN one two)) → ∀ n ∈ l.map (pickR (i % 3)), 0 ≤ n ∧ n < 100 := by
    intro l hl n hn
    obtain ⟨t, ht, rfl⟩ := List.mem_map.mp hn
    have := tab_bd g1 g2 t (hl t ht)
    unfold pickR
    split
    · exact this.1
    · split
      · exact this.2.1
      · exact this.2.2
  have hl := tab_len g1 g2
  unfold witsAt
  rw [List.length_map]
  split
  · exact ⟨key _ fun t ht => (List.mem_filter.mp ht).1, Nat.le_trans (List.length_filter_le _ _) hl⟩
  · exact ⟨key _ fun t ht => (List.mem_filter.mp ht).1, Nat.le_trans (List.length_filter_le _ _) hl⟩
theorem num100 : (List.range 100).all (fun (n : Nat) => decide (cs (numS (n : Int)) ≠ []) && (cs (numS (n : Int))).all (fun c => decide (48 ≤ c) && decide (c ≤ 57)) && decide ((numS (n : Int)).length ≤ 2)) = true := by decide +kernel
theorem numS_num {n : Int} (h : 0 ≤ n ∧ n < 100) : Num (numS n) ∧ (numS n).length ≤ 2 := by
  have := List.all_eq_true.mp num100 n.toNat (List.mem_range.mpr (by omega))
  rw [show ((n.toNat : Nat) : Int) = n by omega] at this
  simp only [Bool.and_eq_true, List.all_eq_true, decide_eq_true_eq] at this
  exact ⟨⟨this.1.1, this.1.2⟩, this.2⟩
/-- the page, row by row -/
def lineAt (one two : Str) (i : Nat) : Str := leadAt one two i ++ fmtL (witsAt (duA one two) (duB one two) i)
def linesN (one two : Str) : Nat → List Str
  | 0 => [Str.ofString "z"]
  | n + 1 => lineAt one two (5 - n) :: sepAt (5 - n) :: linesN one two n
def restAt (one two : Str) (i : Nat) : Str := if i = 0 then pageL one two (duA one two) (duB one two) else Str.join nlS (linesN one two (6 - i))
theorem lines_cons (one two : Str) (n : Nat) : ∃ b r, linesN one two n = b :: r := by
  cases n with
  | zero => exact ⟨_, _, rfl⟩
  | succ n => exact ⟨_, _, rfl⟩
theorem page_lines (one two : Str) : cs (pageL one two (duA one two) (duB one two)) = cs (Str.join nlS (linesN one two 6)) ++ [32, 10] := by
  have hz : cs (Str.ofString "z \n") = [122, 32, 10] := rfl
  have hz' : cs (Str.ofString "z") = [122] := rfl
  have hn : cs (Str.ofString "\n") = [10] := rfl
  have h0 : cs (Str.ofString "") = [] := rfl
  unfold pageL
  simp only [linesN, lineAt, pageN, cs_app, cs_join2, cs_join1, hz, hz', hn, h0, List.append_assoc, List.nil_append, List.cons_append]
theorem lead_white {one two : Str} (g1 : GoodRow one) (g2 : GoodRow two) (i : Nat) : (∀ c ∈ cs (leadAt one two i), c = 32 ∨ c = 9) ∧ (leadAt one two i).length ≤ 7 := by
  unfold leadAt
  split
  · exact ⟨g1.white, g1.len⟩
  · exact ⟨g2.white, g2.len⟩
theorem sep_white (i : Nat) : ∀ c ∈ cs (sepAt i), c = 32 ∨ c = 9 := by
  unfold sepAt
  split
  · intro c hc; exact absurd hc (List.not_mem_nil)
  · split
    · intro c hc
      have : c ∈ [32] := hc
      simp at this; exact .inl this
    · intro c hc
      have : c ∈ [9, 32] := hc
      simp at this; omega
theorem fmt_shape {one two : Str} (g1 : GoodRow one) (g2 : GoodRow two) (i : Nat) : (∃ t, cs (fmtL (witsAt (duA one two) (duB one two) i)) = 97 :: t) ∧ 10 ∉ cs (fmtL (witsAt (duA one two) (duB one two) i)) := by
  have hb := (wits_bd g1 g2 i).1
  generalize witsAt (duA one two) (duB one two) i = ns at *
  have hN : ∀ p ∈ ns.map numS, Num p := fun p hp => by
    obtain ⟨n, hn, rfl⟩ := List.mem_map.mp hp
    exact (numS_num (hb n hn)).1
  obtain ⟨t, hw, _, ht, _⟩ := wordL_cases (ns.map numS)
  rw [fmtL_word, cs_app, hw]
  refine ⟨⟨_, rfl⟩, fun m => ?_⟩
  rcases List.mem_append.mp m with m | m
  · rcases List.mem_cons.mp m with m | m
    · omega
    · exact ht m
  · have := commas hN 10 m
    omega
theorem lines_free {one two : Str} (g1 : GoodRow one) (g2 : GoodRow two) : ∀ n, ∀ p ∈ linesN one two n, 10 ∉ cs p
  | 0, p, hp => by
    rw [List.mem_singleton.mp hp]
    exact fun m => by have : (10 : Nat) ∈ [122] := m; simp at this
  | n + 1, p, hp => by
    rcases List.mem_cons.mp hp with rfl | hp
    · intro m
      unfold lineAt at m
      rw [cs_app] at m
      rcases List.mem_append.mp m with m | m
      · have := (lead_white g1 g2 (5 - n)).1 10 m; omega
      · exact (fmt_shape g1 g2 (5 - n)).2 m
    rcases List.mem_cons.mp hp with rfl | hp
    · intro m
      have := sep_white (5 - n) 10 m; omega
    · exact lines_free g1 g2 n p hp
theorem lines_z (one two : Str) : ∀ n, (cs (Str.join nlS (linesN one two n))).getLast? = some 122
  | 0 => rfl
  | n + 1 => by
    obtain ⟨b, r, e⟩ := lines_cons one two n
    have ih := lines_z one two n
    show (cs (Str.join nlS (lineAt one two (5 - n) :: sepAt (5 - n) :: linesN one two n))).getLast? = _
    rw [e] at ih ⊢
    rw [cs_join2, cs_join2, List.getLast?_append, List.getLast?_append, List.getLast?_append, List.getLast?_append, ih]; rfl
theorem rest_step {one two : Str} (g1 : GoodRow one) (g2 : GoodRow two) {i : Nat} (h : i < 6) :
    Txt.slice (restAt one two i) none (some ((wsOf (restAt one two i)).n : Int)) = leadAt one two i ∧ splitdocL (restAt one two i) = (fmtL (witsAt (duA one two) (duB one two) i), restAt one two (i + 1)) := by
  obtain ⟨b, r, e⟩ := lines_cons one two (5 - i)
  obtain ⟨⟨t, hf⟩, hf'⟩ := fmt_shape g1 g2 i
  have hfree := lines_free g1 g2 (5 - i)
  have hz := lines_z one two (5 - i)
  have e6 : linesN one two (6 - i) = lineAt one two i :: sepAt i :: linesN one two (5 - i) := by
    rw [show 6 - i = (5 - i) + 1 by omega]
    show lineAt one two (5 - (5 - i)) :: sepAt (5 - (5 - i)) :: linesN one two (5 - i) = _
    rw [show 5 - (5 - i) = i by omega]
  have hx : ∃ tail, cs (restAt one two i) = cs (Str.join nlS (linesN one two (6 - i))) ++ tail ∧ ∀ c ∈ tail, Unicode.isSpace c = true := by
    unfold restAt
    split
    · rename_i h0
      subst h0
      refine ⟨_, page_lines one two, ?_⟩
      intro c hc
      simp at hc
      rcases hc with rfl | rfl <;> decide +kernel
    · exact ⟨[], (List.append_nil _).symm, fun c hc => absurd hc List.not_mem_nil⟩
  obtain ⟨tail, hx1, hx2⟩ := hx
  have er : restAt one two (i + 1) = Str.join nlS (linesN one two (5 - i)) := by
    unfold restAt
    rw [if_neg (by omega), show 6 - (i + 1) = 5 - i by omega]
  rw [er]
  rw [e] at hfree hz ⊢
  rw [e6, e] at hx1
  exact page_step hx1 hx2 (lead_white g1 g2 i).1 hf hf' (sep_white i) hfree hz
theorem rest_end (one two : Str) : restAt one two 6 = Str.ofString "z" := rfl
theorem wits_nums {one two : Str} (g1 : GoodRow one) (g2 : GoodRow two) (i : Nat) : (∀ p ∈ (witsAt (duA one two) (duB one two) i).map numS, Num p) ∧ (∀ p ∈ (witsAt (duA one two) (duB one two) i).map numS, p.length ≤ 2) ∧ ((witsAt (duA one two) (duB one two) i).map numS).length ≤ 5 := by
  obtain ⟨h1, h2⟩ := wits_bd g1 g2 i
  refine ⟨fun p hp => ?_, fun p hp => ?_, by rw [List.length_map]; exact h2⟩
  · obtain ⟨n, hn, rfl⟩ := List.mem_map.mp hp
    exact (numS_num (h1 n hn)).1
  · obtain ⟨n, hn, rfl⟩ := List.mem_map.mp hp
    exact (numS_num (h1 n hn)).2
theorem sum_le {l : List Str} {k : Nat} (h : ∀ p ∈ l, p.length ≤ k) : (l.map (·.length)).sum ≤ k * l.length := by
  induction l with
  | nil => simp
  | cons a l ih =>
    have := ih fun p hp => h p (.tail _ hp)
    have := h a (.head _)
    rw [List.map_cons, List.sum_cons, List.length_cons, Nat.mul_add]
    omega
theorem fmt_len {one two : Str} (g1 : GoodRow one) (g2 : GoodRow two) (i : Nat) : (fmtL (witsAt (duA one two) (duB one two) i)).length ≤ 100 := by
  obtain ⟨_, h2, h3⟩ := wits_nums g1 g2 i
  rw [fmtL_word]
  revert h2 h3
  generalize (witsAt (duA one two) (duB one two) i).map numS = nums
  intro h2 h3
  obtain ⟨_, _, _, _, hw⟩ := wordL_cases nums
  have hj := join_len (Str.ofString ", ") nums
  have hs := sum_le h2
  have hc : (Str.ofString ", ").length = 2 := rfl
  rw [txt_join, hc] at hj
  rw [Str.length_append]
  omega
theorem line_len {one two : Str} (g1 : GoodRow one) (g2 : GoodRow two) (i : Nat) : (lineAt one two i).length ≤ 110 := by
  have h1 := fmt_len g1 g2 i
  have h2 := (lead_white g1 g2 i).2
  unfold lineAt
  rw [Str.length_append]
  omega
theorem lines_len {one two : Str} (g1 : GoodRow one) (g2 : GoodRow two) : ∀ n, (Str.join nlS (linesN one two n)).length ≤ 114 * n + 1
  | 0 => Nat.le_refl _
  | n + 1 => by
    obtain ⟨b, r, e⟩ := lines_cons one two n
    have ih := lines_len g1 g2 n
    have h1 := line_len g1 g2 (5 - n)
    have h2 := sepAt_len (5 - n)
    have h3 : (cs nlS).length = 1 := rfl
    rw [← cs_len] at ih ⊢
    show (cs (Str.join nlS (lineAt one two (5 - n) :: sepAt (5 - n) :: linesN one two n))).length ≤ _
    rw [e] at ih ⊢
    rw [cs_join2, cs_join2]
    simp only [List.length_append, h3, cs_len] at ih ⊢
    omega
theorem rest_len {one two : Str} (g1 : GoodRow one) (g2 : GoodRow two) (i : Nat) : (restAt one two i).length ≤ 1000 := by
  unfold restAt
  split
  · have := lines_len g1 g2 6
    rw [← cs_len] at this
    rw [← cs_len, page_lines, List.length_append]
    show _ + 2 ≤ 1000
    omega
  · have := lines_len g1 g2 (6 - i)
    omega
end Mine

namespace Mine
section
variable {prog : Program} {w : World} {s : Shared} {K : Frag}
  {p : Program} {loose : List Str} {mg mb : Str → Option Value}
  {R : Result → Shared → Prop} {name qual : Str} {params : Arguments} {body : List Stmt} {scope : Scope} {dV kV doc pm cdv ct oc : Value} {an od : Option Addr} {osl : Array (Option Value)} {f : Addr} {args : Args} {binds : List (Str × Value)}
theorem hid_ns {h : Heap} {a b : Addr} {m : Str → Option Value} (x : h.Ns a m) (hb : a ≠ b) : (hideAll h [b]).Ns a m :=
  x.at' fun o e => hideAll_get _ e fun hm => hb (List.mem_singleton.mp hm)
theorem topRead_hid {h : Heap} (T : TopRead p loose mg mb h) {b : Addr} (h1 : mainGlobals ≠ b) (h2 : builtinsNs ≠ b) (h3 : cStatics ≠ b) : TopRead p loose mg mb (hideAll h [b]) := by
  obtain ⟨t1, t2, t3, t4, t5⟩ := T
  refine ⟨hid_ns t1 h1, hid_ns t2 h2, ?_, t4, t5⟩
  obtain ⟨mc, q, r⟩ := t3
  exact ⟨mc, hid_ns q h3, r⟩
theorem in_hid {h : Heap} (X : K.In h) {b : Addr} (hb : K.lookup b = none) : K.In (hideAll h [b]) := fun a o e => hideAll_get _ (X a o e) fun hm => by
  rw [List.mem_singleton.mp hm, hb] at e; cases e
theorem bmod_hid {h : Heap} {g bm b : Addr} {ob : Obj} (M : BMod h g mg bm ob) (h1 : g ≠ b) (h2 : bm ≠ b) : BMod (hideAll h [b]) g mg bm ob :=
  ⟨hid_ns M.ns h1, M.name, M.ne, hideAll_get _ M.obj fun hm => h2 (List.mem_singleton.mp hm), M.cls, M.dict, M.data⟩
theorem enterTop (X : K.In s.heap) (T : TopRead p loose mg mb s.heap) (h103 : s.heap.get? 103 = some (tabO #[]))
    (ho : K.lookup f = some ⟨oc, od, .func (fnOf name qual params body scope dV kV doc pm an cdv ct), osl⟩) (hcd : codeIn K cdv qual = true)
    (hbind : BindsTo s (fnOf name qual params body scope dV kV doc pm an cdv ct) args binds) (hkind : (binds.all fun y => scope.names.lookup y.1 == some .local || scope.names.lookup y.1 == some .cell) = true)
    (hnd : ((cellsFrom 0 scope.names []).map (·.1)).Nodup)
    (h : ∀ L' h₁ tk cells, Fr (hideAll s.heap [103]) L' h₁ (bindL (envOfC qual scope L' f cdv).kindOf binds fun _ => none) → News (hideAll s.heap [103]) L' h₁ (cells ++ [(103, tabO #[])]) →
      CellsAre (bindC (envOfC qual scope L' f cdv).kindOf binds fun _ => none) (cellsFrom (L' + 1) scope.names []) cells → 103 < L' →
      wpAny (model prog w) (callerA.deeper (envOfC qual scope L' f cdv)) (execs body (envOfC qual scope L' f cdv))
        (fun fl s' => R (.ok (.ret (match fl with | .ret v => v | _ => .none))) s') (fun _ _ => False)
        { s with heap := h₁, toks := tk })
    (hco : scope.isCoroutine = false) (hgen : scope.isGenerator = false) (hk : scope.kind = .function) : codeAny (model prog w) callerA (.call (.ref f) args) R s := by
  have hlim := T.nolimit
  refine codeAny_call_function (by decide) (X _ _ ho) rfl hco hgen rfl (codeRec_of X hcd) (hbind _ _ _ _ ?_)
  refine wpAny_newFunctionEnv_cells hk (kindsX hkind _) fun env' he s' x => ?_
  subst he
  have keep := x.toInCall.keep
  refine ⟨hlim.keeps keep, codeAny_func ?_⟩
  obtain ⟨h₁, tk, rfl, _⟩ := x.done
  have nd := cellsFrom_names scope.names 0 (s.heap.objs.size + 1) [] [] rfl ▸ hnd
  obtain ⟨cells, NC, Y⟩ := Cl.news (h₀ := s.heap) (Nat.le_refl _) fun n c hm => ⟨x.cell n c (lookup_of_mem_nodup nd hm), x.above n c hm⟩
  have lt103 := Heap.lt_size h103
  have NN : News (hideAll s.heap [103]) s.heap.objs.size h₁ (cells ++ [(103, tabO #[])]) := by
    intro q hq
    rcases List.mem_append.mp hq with hq | hq
    · obtain ⟨a1, a2, a3⟩ := NC q hq
      refine ⟨a1, a2, ?_⟩
      cases e : (hideAll s.heap [103]).get? q.1 with
      | none => rfl
      | some o => rw [of_hideAll _ e] at a3; cases a3
    · rw [List.mem_singleton.mp hq]
      exact ⟨keep _ _ h103, Nat.ne_of_lt lt103, hideAll_none _ (.head _)⟩
  exact wpAny_mono (h s.heap.objs.size h₁ tk cells ⟨x.toInCall.ns, fun b o e => keep b o (of_hideAll _ e), Nat.le_of_eq (hideAll_size _ _)⟩ NN Y lt103) (fun _ _ hl => hl) fun _ _ y => y.elim
end
theorem oldK_tab {h h' : Heap} {c : Addr} {ps : Array Value} (ht : h.TableAt c 103 #[]) (hk : ∀ b o, b ≠ 103 → h.get? b = some o → h'.get? b = some o) (h103 : h'.get? 103 = some (tabO ps)) : OldK h h' := by
  refine ⟨fun b o e => ?_, fun b o e => ?_⟩
  · by_cases hb : b = 103
    · subst hb
      have := ht.2
      rw [e] at this
      cases this
      exact .inr (.inl ⟨ht.isCodeTable, rfl, #[], ps, rfl, by rw [h103, Array.empty_append]⟩)
    · exact .inl (hk b o hb e)
  · by_cases hb : b = 103
    · subst hb; exact ⟨_, h103⟩
    · exact ⟨_, hk b o hb e⟩
end Mine

namespace Mine
theorem useP {w : World} {p : Program} {loose : List Str} {mg mb : Str → Option Value} {f : Addr} {args : List Value} {Pre : Heap → Prop} {need news : List (Addr × Obj)} {d u : Nat} {Post : Value → Heap → Heap → Prop} (S : SpecP w p loose mg mb f args Pre need d u Post)
    {dp un : Nat} {gd : Option (List Code)} {cn : Str} {cs : Scope} {a : Addr} {ccd : Value} {cl : List (Str × Addr)} {outer : List Env} {A₀ : Around} {base h₀ : Heap} {L : Addr} {m : Str → Option Value} {s : Shared} {Q E : Value → Shared → Prop}
    (P : Pre h₀) (B : Below A₀ base outer h₀) (F : Fr h₀ L s.heap m) (X : (hd.heap_39 w.params).In h₀) (N : News h₀ L s.heap news) (hs : ∀ q ∈ need, q ∈ news) (T : TopRead p loose mg mb h₀) (hk : cs.kind = .function) (hd : dp + d < recursionLimit) (hu : un + u < cLine)
    (h : ∀ r h' tk', Fr h₀ L h' m → (∀ objs, New s.heap h' objs → News h₀ L h' (objs ++ news) ∧ ∀ q ∈ news, ∀ o ∈ objs, q.1 ≠ o.1) → Post r s.heap h' → Q r { s with heap := h', toks := tk' }) :
    wpAny (model PySem.Challenge.rw_mj0163_01.prog w) (ktrTop dp un gd cn cs L a ccd cl outer) (call (.ref f) args) Q E s :=
  S dp un gd cn cs a ccd cl outer A₀ base h₀ L m s Q E P B F X (news_sub N hs) T hk hd hu fun r h' tk' st po => h r h' tk' (fr_stays F st) (fun objs hn => ⟨news_new F N st hn, fun q hq o ho => ne_new N (hn o ho).1 q hq⟩) po
/-- comprehensions that keep some rows -/
def KeepG (v y : Value) (objs : List (Addr × Obj)) : Prop := y = v ∧ objs = []
theorem keep_pairs : ∀ {vs : List Value} {zs : List Z}, Paired (fun v z => KeepG v z.1 z.2) vs zs → zs.map (·.1) = vs ∧ zs.flatMap (·.2) = []
  | [], _, .nil => ⟨rfl, rfl⟩
  | v :: vs, _, .cons (b := z) h hs => by
    obtain ⟨i1, i2⟩ := keep_pairs hs
    exact ⟨by rw [List.map_cons, i1, h.1], by rw [List.flatMap_cons, i2, h.2]; rfl⟩
def cmpH (f : Int → Int → Bool) (h : Heap) (v : Value) : Bool := match v with
  | .ref a => match h.get? a with
    | some o => match o.data with
      | .seq vs _ => match vs.toList with
        | [_, .int j _, .int k _] => f j k
        | _ => false
      | _ => false
    | none => false
  | _ => false
theorem cmpH_row {f : Int → Int → Bool} {h : Heap} {row : Row} (e : h.get? row.a = some row.obj.2) : cmpH f h row.ref = f row.j row.k := by
  unfold cmpH Row.ref
  dsimp only
  rw [e]
  rfl
theorem filt_rows {f : Int → Int → Bool} {h : Heap} : ∀ {rs : List Row}, (∀ row ∈ rs, h.get? row.a = some row.obj.2) → (rs.map Row.ref).filter (cmpH f h) = (rs.filter fun r => f r.j r.k).map Row.ref
  | [], _ => rfl
  | r :: rs, hh => by
    have ih := filt_rows (f := f) (h := h) (rs := rs) fun row hr => hh row (.tail _ hr)
    rw [List.map_cons, List.filter_cons, List.filter_cons, cmpH_row (hh r (.head _)), ih]
    split
    · rfl
    · rfl
theorem filt_vals {f : Int → Int → Bool} : ∀ (rs : List Row), (rs.filter fun r => f r.j r.k).map Row.val = (rs.map Row.val).filter fun t => f t.2.1 t.2.2
  | [] => rfl
  | r :: rs => by
    have ih := filt_vals (f := f) rs
    rw [List.map_cons, List.filter_cons, List.filter_cons]
    show _ = if f r.j r.k = true then _ else _
    split
    · rw [List.map_cons, ih]
    · exact ih
def NumG (h : Heap) (r : Nat) (v y : Value) (objs : List (Addr × Obj)) : Prop := objs = [] ∧ ∃ (row : Row) (t : Tok), v = row.ref ∧ h.get? row.a = some row.obj.2 ∧ y = .str (numS (pickR r row.val)) t
theorem num_pairs {h : Heap} {r : Nat} : ∀ {rs : List Row} {zs : List Z}, (∀ row ∈ rs, h.get? row.a = some row.obj.2) → Paired (fun v z => NumG h r v z.1 z.2) (rs.map Row.ref) zs →
    ∃ nl : List (Str × Tok), zs.map (·.1) = strValues nl ∧ nl.map (·.1) = ((rs.map Row.val).map (pickR r)).map numS ∧ zs.flatMap (·.2) = []
  | [], _, _, .nil => ⟨[], rfl, rfl, rfl⟩
  | row :: rs, _, hh, .cons (b := z) hG hs => by
    obtain ⟨nl, e1, e2, e3⟩ := num_pairs (fun q hq => hh q (.tail _ hq)) hs
    obtain ⟨h1, row', t, h2, h3, h4⟩ := hG
    have ha : row.a = row'.a := by
      unfold Row.ref at h2
      injection h2
    have ho := hh row (.head _)
    rw [ha, h3] at ho
    have hv : row'.val = row.val := by
      unfold Row.obj at ho
      injection ho with ho
      dsimp only at ho
      injection ho with _ _ ho _
      injection ho with ho _
      have ho := congrArg Array.toList ho
      unfold Row.val
      dsimp only at ho
      injection ho with o1 ho
      injection ho with o2 ho
      injection ho with o3 _
      injection o1 with o1 _
      injection o2 with o2 _
      injection o3 with o3 _
      rw [o1, o2, o3]
    rw [hv] at h4
    refine ⟨(numS (pickR r row.val), t) :: nl, ?_, ?_, ?_⟩
    · rw [List.map_cons, e1, h4]; rfl
    · rw [List.map_cons, e2]; rfl
    · rw [List.flatMap_cons, e3, h1]; rfl
theorem seq3 : ∀ r : Nat, r < 3 → seqIndex? (r : Int) 3 = some r := by decide +kernel
theorem range_n {n : Nat} (h : 1 ≤ n) : Builtin.Range.rangeSize 0 ((n : Int) - 1) 1 = ((n - 1 : Nat) : Int) := by
  rw [show (n : Int) - 1 = ((n - 1 : Nat) : Int) by omega, rangeSize_one (Int.le_refl _) (Int.natCast_nonneg _), Int.toNat_natCast]
  rfl
theorem idx_k {i : Nat} (h : i < 6) : (0 ≤ 0 + (i : Int) ∧ 0 + (i : Int) < 2 ^ 62) ∧ 0 ≤ 0 + (i : Int) + 1 ∧ 0 + (i : Int) + 1 < 2 ^ 62 := by omega
theorem idx_kj {i j : Nat} (h : i < 6) (hj : j < 6) : (0 + (i : Int) + (0 + (j : Int)).fdiv 3).toNat = i + j / 3 ∧ 0 ≤ 0 + (i : Int) + (0 + (j : Int)).fdiv 3 ∧ 0 + (i : Int) + (0 + (j : Int)).fdiv 3 < 2 ^ 62 := by
  have := idx_q j hj
  omega
end Mine

namespace Mine
abbrev LawEnd (s : Shared) (R : Result → Shared → Prop) : Prop :=
  ∀ h' gens tk ps, (∀ b o, b ≠ 103 → s.heap.get? b = some o → h'.get? b = some o) → h'.get? 103 = some (tabO ps) → AllBare gens → R (.ok (.ret (.bool true))) { s with heap := h', gens := gens, toks := tk }
abbrev LawSpec (w : World) (p : Program) (loose : List Str) (mg mb : Str → Option Value) : Prop :=
  ∀ (s : Shared) (bm : Addr) (ob : Obj) (S : Addr) (vs : List Value) (ns : List Int) (R : Result → Shared → Prop), (hd.heap_39 w.params).In s.heap → TopRead p loose mg mb s.heap → BMod s.heap mainGlobals mg bm ob → s.heap.get? 103 = some (tabO #[]) →
    s.heap.IsList S vs.toArray → IntsAre vs ns → ns.length ≤ 63 → AllBare s.gens → LawEnd s R → codeAny (model PySem.Challenge.rw_mj0163_01.prog w) callerA (.call (.ref 151) ⟨[.ref S], []⟩) R s
def LawJ (Dr cp : Addr) (ro : Obj) (i : Nat) (m : Str → Option Value) (nx : List (Addr × Obj)) (gens : Array GenState) : Prop :=
  ∃ (ps : Array Value) (oc : Obj) (v : Option Value), Has m [(Str.ofString "rows", .ref Dr)] ∧ nx = [(103, tabO ps), (cp, oc), (Dr, ro)] ∧ oc.data = .cell v ∧ Tab 77 13 ps ∧ AllBare gens
def InJ (one two : Str) (Dr Dd cp : Addr) (kk : Int) (tk : Tok) (rest : List (Addr × Obj)) (j : Nat) (m : Str → Option Value) (nx : List (Addr × Obj)) (gens : Array GenState) : Prop :=
  ∃ (ps : Array Value) (oc : Obj) (v : Option Value) (tr : Tok), Has m [(Str.ofString "rows", .ref Dr), (Str.ofString "k", .int kk tk), (Str.ofString "due", .ref Dd), (Str.ofString "rest", .str (restAt one two j) tr)] ∧ nx = (103, tabO ps) :: (cp, oc) :: rest ∧ oc.data = .cell v ∧ Tab 77 13 ps ∧ AllBare gens
theorem law_spec {w : World} {p : Program} {loose : List Str} {mg mb : Str → Option Value} : LawSpec w p loose mg mb := by
  unfold LawSpec; k_fill
  intro s bm ob S vs ns R X T M h103 hS hi hl hgs hret
  have hS3 : S ≠ 103 := fun e => by
    obtain ⟨o, ho, hc, _⟩ := hS
    rw [e, h103] at ho; cases ho; cases hc
  have hb3 : bm ≠ 103 := fun e => by
    have ho := M.obj
    have hc := M.cls
    rw [e, h103] at ho; cases ho; cases hc
  have X' := in_hid (b := 103) X rfl
  have T' := topRead_hid (b := 103) T (by decide) (by decide) (by decide)
  have M' := bmod_hid (b := 103) M (by decide) hb3
  have B' := below_caller (hideAll s.heap [103])
  have hS' : (hideAll s.heap [103]).IsList S vs.toArray := hS.at fun o e => hideAll_get _ e fun hm => hS3 (List.mem_singleton.mp hm)
  have hk' : ∀ b o, b ≠ 103 → s.heap.get? b = some o → (hideAll s.heap [103]).get? b = some o := fun b o hb e => hideAll_get _ e fun hm => hb (List.mem_singleton.mp hm)
  k_dflt (refine' enterTop (binds := [(Str.ofString "script", .ref S)]) ?k1 ?k2 ?k3 ?k6 ?k7 ?k9 ?kB ?kD ?_ ?c2 ?c3 ?c4; (case k1 => exact X); (case k2 => exact T); (case k3 => exact h103); (case k6 => k_is); (case k7 => k_is); (case k9 => exact BindsTo.of_eq rfl); (case kB => exact rfl); (case kD => decide +kernel); (case c2 => exact rfl); (case c3 => exact rfl); (case c4 => exact rfl); k_whole)
  intro L' h' tk' cells' F' N' Y' l0'
  obtain ⟨oc, rfl, dc⟩ := CellsAre.one Y'
  clear Y' X T M hS
  generalize hideAll s.heap [103] = g' at *
  change oc.data = .cell none at dc
  change News g' L' h' [(L' + 1, oc), (103, tabO #[])] at N'
  have wR := @rows_spec w p loose mg mb S vs ns hi hl
  repeat' (first
    | (fail_if_success (with_reducible show wpAny _ _ (exec (Stmt.For _ _ _ _ _) _) _ _ _)); (first
      | ((with_reducible show wpAny _ _ (call (Value.ref 115) _) _ _ _); k_dflt (refine useP wR hS' (by k_asm) (by k_asm) (by k_asm) (by k_asm) (fun _ h => nomatch h) (by k_asm) rfl (by ktr_room) (by ktr_units) ?_); rintro r9 h9 tk9 F9 M9 ⟨Dr, er, rl, rfl, hrl, nw9⟩; (obtain ⟨N9, nn9⟩ := M9 _ nw9); clear M9 nw9; (rw [List.singleton_append] at N9))
      | (k_unfold; (try dsimp only)) | walk1 | (dsimp only; walk1)))
  have hR2 := rowsL_len ns
  have hRG := rowsL_good ns
  rw [← hrl] at hR2 hRG
  rw [List.length_map] at hR2
  have hlc : (((strValues rl).length : Nat) : Int) = ((rl.length : Nat) : Int) := by unfold strValues; rw [List.length_map]
  have nD3 : Dr ≠ 103 := fun e => nn9 (103, tabO #[]) (.tail _ (.head _)) _ (.head _) e.symm
  have nDc : Dr ≠ L' + 1 := fun e => nn9 (L' + 1, oc) (.head _) _ (.head _) e.symm
  have l103 : 103 ≠ L' + 1 := Nat.ne_of_lt (Nat.lt_succ_of_lt l0')
  clear nn9
  refine wpAny_For ?_ (fun _ => rfl)
  repeat' (first | (fail_if_success (with_reducible show wpAny _ _ (pyIter _) _ _ _)); (first
    | ((with_reducible show wpAny _ _ (call (Value.builtin "len") [Value.ref _]) _ _ _); k_dflt (refine len_L (by k_asm) (by k_mem) hlc (by omega) ?_); intro t' k')
    | (k_unfold; (try dsimp only)) | walk1 | (dsimp only; walk1)))
  rename IsRange _ _ _ _ _ _ _ _ => hR
  rename Fr _ _ _ _ => Fy
  rename News _ _ _ _ => Ny
  have Nw := news_sub (l := [(103, tabO #[]), (L' + 1, oc), (Dr, listOf (strValues rl).toArray er)]) Ny (by
    intro q hq
    rcases List.mem_cons.mp hq with rfl | hq
    · k_mem
    rcases List.mem_cons.mp hq with rfl | hq
    · k_mem
    rw [List.mem_singleton.mp hq]; k_mem)
  refine forG (n := rl.length - 1) (LawJ Dr (L' + 1) (listOf (strValues rl).toArray er)) rfl hR (small_one (by omega) (by omega) (by omega) (by omega)) (range_n (by omega)) Fy Nw ?_ ?_ ?_ (by passes_own)
  · exact ⟨_, oc, none, ⟨rfl, trivial⟩, rfl, dc, .inl rfl, hgs⟩
  · rintro i k t m₁ nx h gens tk I o hin rfl hI ⟨ps1, oc1, v1, hm, rfl, dc1, tb1, ab1⟩ F₁ N₁
    rw [← ovr_eq hm] at F₁
    change Fr g' L' h _ at F₁
    change News g' L' h _ at N₁
    clear hm Fy Ny Nw hR
    obtain ⟨one, t1, two, t2, hr1, hr2⟩ : ∃ one t1 two t2, rl[i]? = some (one, t1) ∧ rl[i + 1]? = some (two, t2) :=
      ⟨_, _, _, _, List.getElem?_eq_getElem (show i < rl.length by omega), List.getElem?_eq_getElem (show i + 1 < rl.length by omega)⟩
    have g1 : GoodRow one := hRG one (List.mem_map.mpr ⟨_, List.mem_of_getElem? hr1, rfl⟩)
    have g2 : GoodRow two := hRG two (List.mem_map.mpr ⟨_, List.mem_of_getElem? hr2, rfl⟩)
    have hl1 := g1.len
    have hl2 := g2.len
    obtain ⟨⟨ik1, ik2⟩, ik3, ik4⟩ := idx_k (show i < 6 by omega)
    have hx1 : (strValues rl)[(0 + (i : Int)).toNat]? = some (.str one t1) := by
      unfold strValues
      rw [show (0 + (i : Int)).toNat = i by omega, List.getElem?_map, hr1]; rfl
    have hx2 : (strValues rl)[(0 + (i : Int) + 1).toNat]? = some (.str two t2) := by
      unfold strValues
      rw [show (0 + (i : Int) + 1).toNat = i + 1 by omega, List.getElem?_map, hr2]; rfl
    have tS := @table_spec w p loose mg mb one two t1 t2 (by omega) (by omega)
    repeat' (first
      | (fail_if_success (with_reducible show wpAny _ _ (eval (Expr.ListComp _ _ _ _) _) _ _ _)); (first
        | ((with_reducible show wpAny _ _ (subscriptTail _ _ (Value.ref _) (Value.int _ _)) _ _ _); k_dflt (first | refine item_L (by k_asm) (by k_mem) ik1 ik2 hx1 ?_ (by with_unfolding_all rfl) | refine item_L (by k_asm) (by k_mem) ik3 ik4 hx2 ?_ (by with_unfolding_all rfl)))
        | ((with_reducible show wpAny _ _ (call (Value.ref 127) _) _ _ _); k_dflt (refine use2 tS (by k_asm) (by k_asm) (by k_asm) (by k_asm) (fun _ h => nomatch h) (by k_asm) rfl (by ktr_room) (by ktr_units) ?_); rintro r9 h9 tk9 F9 M9 ⟨Dt, et, rs, rfl, hrv, nw9⟩; (obtain ⟨N9, nn9⟩ := M9 _ nw9); clear M9)
        | (k_unfold; (try dsimp only)) | walk1 | (dsimp only; walk1)))
    rename Heap => hz
    rename Fr _ _ _ _ => Fz
    rename News _ _ _ _ => Nz
    have hget : ∀ row ∈ rs, hz.get? row.a = some row.obj.2 := fun row hrow => (Nz row.obj (.tail _ (List.mem_append_left _ (List.mem_map_of_mem hrow)))).1
    have hrl5 : rs.length ≤ 5 := by
      have := congrArg List.length hrv
      rw [List.length_map] at this
      rw [this]; exact tab_len g1 g2
    refine comp_own (cl := []) (cmpH (fun j k => decide (j ≥ k)) hz) KeepG rfl (by decide) rfl (by decide) rfl ?_ (fun _ => rfl)
    repeat' (first
      | (fail_if_success (with_reducible show wpAny _ _ (pyIter _) _ _ _)); (first
        | (k_unfold; (try dsimp only)) | walk1 | (dsimp only; walk1)))
    refine src_list Fz Nz (.head _) rfl (by rw [List.length_map]; omega) ?_ ?_ ?_
    · intro C j v s₃ m₃ E' hv hns hm st
      obtain ⟨row, hrow, rfl⟩ : ∃ row ∈ rs, v = Row.ref row := by
        rw [List.getElem?_map] at hv
        obtain ⟨row, hq', e⟩ := Option.map_eq_some_iff.mp hv
        exact ⟨row, List.mem_of_getElem? hq', e.symm⟩
      have ho : s₃.heap.get? row.a = some (tupOf [.int row.i row.ti, .int row.j row.tj, .int row.k row.tk]) := st _ _ (hget row hrow)
      rw [cmpH_row (hget row hrow)]
      refine wpAny_tests_one (wpAny_isTrue_Compare1 ?_)
      refine Subscript_ (cname_L hns hm ?_ rfl rfl)
      refine wpAny_Constant_int (item_tupleT (l := [.int row.i row.ti, .int row.j row.tj, .int row.k row.tk]) ⟨_, ho, rfl, _, rfl⟩ (by decide) (by decide) (j := 1) ?_ rfl ?_ (by with_unfolding_all rfl))
      · simp [seqIndex?]
      refine Subscript_ (cname_L hns hm ?_ rfl rfl)
      refine wpAny_Constant_int (item_tupleT (l := [.int row.i row.ti, .int row.j row.tj, .int row.k row.tk]) ⟨_, ho, rfl, _, rfl⟩ (by decide) (by decide) (j := 2) ?_ rfl ?_ (by with_unfolding_all rfl))
      · simp [seqIndex?]
      exact PySem.P.ge_int (wpAny_truthy_bool ⟨rfl, ⟨_, _, rfl, fun _ _ e => e⟩⟩)
    · intro C j v s₃ m₃ E' hv _ hns hm st
      refine cname_L hns hm ?_ rfl rfl
      exact ⟨⟨[], ⟨rfl, rfl⟩, fun _ h => nomatch h⟩, ⟨_, _, rfl, fun _ _ e => e⟩⟩
    intro D1 e1 h8 tk8 zs8 F8 N8 pr8 st8 nw8 ne8
    rw [filt_rows hget] at pr8
    obtain ⟨q1, q2⟩ := keep_pairs pr8
    rw [q1, q2] at N8 nw8
    clear pr8 ne8 q1 q2 Fz
    rw [List.nil_append] at N8
    have m103 : (103, tabO ps1) ∈ (Dt, listOf (rs.map Row.ref).toArray et) :: rs.map Row.obj ++ [(I, o), (103, tabO ps1), (L' + 1, oc1), (Dr, listOf (strValues rl).toArray er)] := List.mem_append_right _ (.tail _ (.head _))
    have mcell : (L' + 1, oc1) ∈ (Dt, listOf (rs.map Row.ref).toArray et) :: rs.map Row.obj ++ [(I, o), (103, tabO ps1), (L' + 1, oc1), (Dr, listOf (strValues rl).toArray er)] := List.mem_append_right _ (.tail _ (.tail _ (.head _)))
    have h3z : hz.get? 103 = some (tabO ps1) := (Nz _ m103).1
    have hcz : hz.get? (L' + 1) = some oc1 := (Nz _ mcell).1
    have n13 : D1 ≠ 103 := fun e => by
      have hf : hz.get? D1 = none := (nw8 _ (.head _)).1
      rw [e, h3z] at hf; cases hf
    have n1c : D1 ≠ L' + 1 := fun e => by
      have hf : hz.get? D1 = none := (nw8 _ (.head _)).1
      rw [e, hcz] at hf; cases hf
    clear nw8
    repeat' (first
      | (fail_if_success (with_reducible show wpAny _ _ (eval (Expr.ListComp _ _ _ _) _) _ _ _)); (first
        | (k_unfold; (try dsimp only)) | walk1 | (dsimp only; walk1)))
    refine comp_own (cl := []) (cmpH (fun j k => j != k) hz) KeepG rfl (by decide) rfl (by decide) rfl ?_ (fun _ => rfl)
    repeat' (first
      | (fail_if_success (with_reducible show wpAny _ _ (pyIter _) _ _ _)); (first
        | (k_unfold; (try dsimp only)) | walk1 | (dsimp only; walk1)))
    refine src_list F8 N8 (.tail _ (.head _)) rfl (by rw [List.length_map]; omega) ?_ ?_ ?_
    · intro C j v s₃ m₃ E' hv hns hm st
      obtain ⟨row, hrow, rfl⟩ : ∃ row ∈ rs, v = Row.ref row := by
        rw [List.getElem?_map] at hv
        obtain ⟨row, hq', e⟩ := Option.map_eq_some_iff.mp hv
        exact ⟨row, List.mem_of_getElem? hq', e.symm⟩
      have ho : s₃.heap.get? row.a = some (tupOf [.int row.i row.ti, .int row.j row.tj, .int row.k row.tk]) := st _ _ (st8 _ _ (hget row hrow))
      rw [cmpH_row (hget row hrow)]
      refine wpAny_tests_one (wpAny_isTrue_Compare1 ?_)
      refine Subscript_ (cname_L hns hm ?_ rfl rfl)
      refine wpAny_Constant_int (item_tupleT (l := [.int row.i row.ti, .int row.j row.tj, .int row.k row.tk]) ⟨_, ho, rfl, _, rfl⟩ (by decide) (by decide) (j := 1) ?_ rfl ?_ (by with_unfolding_all rfl))
      · simp [seqIndex?]
      refine Subscript_ (cname_L hns hm ?_ rfl rfl)
      refine wpAny_Constant_int (item_tupleT (l := [.int row.i row.ti, .int row.j row.tj, .int row.k row.tk]) ⟨_, ho, rfl, _, rfl⟩ (by decide) (by decide) (j := 2) ?_ rfl ?_ (by with_unfolding_all rfl))
      · simp [seqIndex?]
      exact PySem.P.ne_int (wpAny_truthy_bool ⟨rfl, ⟨_, _, rfl, fun _ _ e => e⟩⟩)
    · intro C j v s₃ m₃ E' hv _ hns hm st
      refine cname_L hns hm ?_ rfl rfl
      exact ⟨⟨[], ⟨rfl, rfl⟩, fun _ h => nomatch h⟩, ⟨_, _, rfl, fun _ _ e => e⟩⟩
    intro D2 e2 h7 tk7 zs7 F7 N7 pr7 st7 nw7 ne7
    rw [filt_rows hget] at pr7
    obtain ⟨q1, q2⟩ := keep_pairs pr7
    rw [q1, q2] at N7 nw7
    clear pr7 ne7 q1 q2 F8
    rw [List.nil_append] at N7
    have n23 : D2 ≠ 103 := fun e => by
      have hf : h8.get? D2 = none := (nw7 _ (.head _)).1
      rw [e, st8 _ _ h3z] at hf; cases hf
    have n2c : D2 ≠ L' + 1 := fun e => by
      have hf : h8.get? D2 = none := (nw7 _ (.head _)).1
      rw [e, st8 _ _ hcz] at hf; cases hf
    clear nw7
    have hva : (rs.filter fun r => decide (r.j ≥ r.k)).map Row.val = duA one two := by
      rw [filt_vals (f := fun j k => decide (j ≥ k)), hrv]; rfl
    have hvb : (rs.filter fun r => r.j != r.k).map Row.val = duB one two := by
      rw [filt_vals (f := fun j k => j != k), hrv]
      refine List.filter_congr fun t _ => ?_
      show (t.2.1 != t.2.2) = decide (t.2.1 ≠ t.2.2)
      by_cases e : t.2.1 = t.2.2 <;> simp [e]
    have hsa : ∀ row ∈ rs.filter (fun r => decide (r.j ≥ r.k)), row ∈ rs := fun row h => (List.mem_filter.mp h).1
    have hsb : ∀ row ∈ rs.filter (fun r => r.j != r.k), row ∈ rs := fun row h => (List.mem_filter.mp h).1
    have hla : (rs.filter (fun r => decide (r.j ≥ r.k))).length ≤ 5 := Nat.le_trans (List.length_filter_le _ _) hrl5
    have hlb : (rs.filter (fun r => r.j != r.k)).length ≤ 5 := Nat.le_trans (List.length_filter_le _ _) hrl5
    revert hva hvb hsa hsb hla hlb
    revert N7
    revert N8
    generalize rs.filter (fun r => decide (r.j ≥ r.k)) = ra
    generalize rs.filter (fun r => r.j != r.k) = rb
    intro N8 N7 hva hvb hsa hsb hla hlb
    repeat' (first
      | (fail_if_success (with_reducible show wpAny _ _ (subscriptTail _ _ _ _) _ _ _)); (first
        | (k_unfold; (try dsimp only)) | walk1 | (dsimp only; walk1)))
    rename_i Dd _ lz _ Fy Ny
    have lzA := allLt_all lz.2.2
    have off : ∀ q ∈ (I, o) :: (Dr, listOf (strValues rl).toArray er) :: (Dd, listOf [Value.ref D1, Value.ref D2].toArray 0) :: (D1, listOf (ra.map Row.ref).toArray e1) :: (D2, listOf (rb.map Row.ref).toArray e2) :: rs.map Row.obj, q.1 ≠ 103 ∧ q.1 ≠ L' + 1 := by
      intro q hq
      rcases List.mem_cons.mp hq with rfl | hq
      · exact ⟨fun e => hI (103, tabO ps1) (.head _) e.symm, fun e => hI (L' + 1, oc1) (.tail _ (.head _)) e.symm⟩
      rcases List.mem_cons.mp hq with rfl | hq
      · exact ⟨nD3, nDc⟩
      rcases List.mem_cons.mp hq with rfl | hq
      · exact ⟨Nat.ne_of_gt (lzA _ m103), Nat.ne_of_gt (lzA _ mcell)⟩
      rcases List.mem_cons.mp hq with rfl | hq
      · exact ⟨n13, n1c⟩
      rcases List.mem_cons.mp hq with rfl | hq
      · exact ⟨n23, n2c⟩
      · exact ⟨Ne.symm (nn9 (103, tabO ps1) (.tail _ (.head _)) q (.tail _ hq)), Ne.symm (nn9 (L' + 1, oc1) (.tail _ (.tail _ (.head _))) q (.tail _ hq))⟩
    have Nw := news_sub (l := (103, tabO ps1) :: (L' + 1, oc1) :: (I, o) :: (Dr, listOf (strValues rl).toArray er) :: (Dd, listOf [Value.ref D1, Value.ref D2].toArray 0) :: (D1, listOf (ra.map Row.ref).toArray e1) :: (D2, listOf (rb.map Row.ref).toArray e2) :: rs.map Row.obj) Ny (by
      intro q hq
      rcases List.mem_cons.mp hq with rfl | hq
      · exact .tail _ (.tail _ (.tail _ m103))
      rcases List.mem_cons.mp hq with rfl | hq
      · exact .tail _ (.tail _ (.tail _ mcell))
      rcases List.mem_cons.mp hq with rfl | hq
      · exact .tail _ (.tail _ (.tail _ (List.mem_append_right _ (.head _))))
      rcases List.mem_cons.mp hq with rfl | hq
      · exact .tail _ (.tail _ (.tail _ (List.mem_append_right _ (.tail _ (.tail _ (.tail _ (.head _)))))))
      rcases List.mem_cons.mp hq with rfl | hq
      · exact .head _
      rcases List.mem_cons.mp hq with rfl | hq
      · exact .tail _ (.tail _ (.head _))
      rcases List.mem_cons.mp hq with rfl | hq
      · exact .tail _ (.head _)
      · exact .tail _ (.tail _ (.tail _ (List.mem_append_left _ (.tail _ hq)))))
    clear Ny lz lzA m103 mcell nw9 nn9 st8 st7 hget h3z hcz n13 n1c n23 n2c tS
    generalize hrest : (I, o) :: (Dr, listOf (strValues rl).toArray er) :: (Dd, listOf [Value.ref D1, Value.ref D2].toArray 0) :: (D1, listOf (ra.map Row.ref).toArray e1) :: (D2, listOf (rb.map Row.ref).toArray e2) :: rs.map Row.obj = rest at off Nw
    have hmI : (I, o) ∈ rest := hrest ▸ .head _
    have hmDr : (Dr, listOf (strValues rl).toArray er) ∈ rest := hrest ▸ .tail _ (.head _)
    have hmDd : (Dd, listOf [Value.ref D1, Value.ref D2].toArray 0) ∈ rest := hrest ▸ .tail _ (.tail _ (.head _))
    have hmD1 : (D1, listOf (ra.map Row.ref).toArray e1) ∈ rest := hrest ▸ .tail _ (.tail _ (.tail _ (.head _)))
    have hmD2 : (D2, listOf (rb.map Row.ref).toArray e2) ∈ rest := hrest ▸ .tail _ (.tail _ (.tail _ (.tail _ (.head _))))
    have hmrs : ∀ row ∈ rs, row.obj ∈ rest := fun row hrow => hrest ▸ .tail _ (.tail _ (.tail _ (.tail _ (.tail _ (List.mem_map_of_mem hrow)))))
    clear hrest
    have pS := @page_spec w p loose mg mb one two t1 t2 (by omega) (by omega) (fun t ht => by
      rw [wit_tab g1 g2] at ht
      have := tab_bd g1 g2 t ht
      omega)
    rw [nl_du g1 g2, ne_du g1 g2] at pS
    have hne0 : ∀ q ∈ (L' + 1, oc1) :: rest, q.1 ≠ 103 := fun q hq => by
      rcases List.mem_cons.mp hq with rfl | hq
      · exact fun e => l103 e.symm
      · exact (off q hq).1
    repeat' (first
      | (fail_if_success (with_reducible show wpAny _ _ (call (Value.ref 132) _) _ _ _)); (first
        | ((with_reducible show wpAny _ _ (subscriptTail _ _ (Value.ref _) (Value.int _ _)) _ _ _); k_dflt (first | refine item_L Nw (.tail _ (.tail _ hmDr)) ik1 ik2 hx1 ?_ (by with_unfolding_all rfl) | refine item_L Nw (.tail _ (.tail _ hmDr)) ik3 ik4 hx2 ?_ (by with_unfolding_all rfl)))
        | (k_unfold; (try dsimp only)) | walk1 | (dsimp only; walk1)))
    k_dflt (refine useG pS B' Fy X' Nw (fun _ h => nomatch h) hne0 T' M' tb1 ab1 rfl (by ktr_room) (by ktr_units) ?_)
    rintro r6 h6 tk6 gens6 ps6 F6 N6 tb6 ab6 kp6 ⟨t6, rfl⟩
    clear Fy Nw kp6 tb1 ab1 pS
    repeat' (first
      | (fail_if_success (with_reducible show wpAny _ _ (exec (Stmt.For _ _ _ _ _) _) _ _ _)); (first
        | (k_unfold; (try dsimp only)) | walk1 | (dsimp only; walk1)))
    refine wpAny_For ?_ (fun _ => rfl)
    repeat' (first | (fail_if_success (with_reducible show wpAny _ _ (pyIter _) _ _ _)); (first
      | (k_unfold; (try dsimp only)) | walk1 | (dsimp only; walk1)))
    rename IsRange _ _ _ _ _ _ _ _ => hR
    rename Fr _ _ _ _ => Fy
    rename News _ _ _ _ => Ny
    refine forG (n := 6) (InJ one two Dr Dd (L' + 1) (0 + (i : Int)) t rest) rfl hR (by decide) (by decide) Fy Ny ?_ ?_ ?_ (by passes_own)
    · exact ⟨ps6, oc1, v1, _, ⟨rfl, rfl, rfl, rfl, trivial⟩, rfl, dc1, tb6, ab6⟩
    · rintro j k t7 m₂ nx h5 gens5 tk5 I2 o2 hjn rfl hI2 ⟨ps5, oc5, v5, tr, hm, rfl, dc5, tb5, ab5⟩ F₂ N₂
      rw [← ovr_eq hm] at F₂
      change Fr g' L' h5 _ at F₂
      change News g' L' h5 _ at N₂
      clear hm Fy Ny hR
      refine storeX_C F₂ N₂ rfl (UpdF.tail (Ne.symm (hI2 (L' + 1, oc5) (.tail _ (.head _)))) (UpdF.tail l103 (UpdF.head fun q hq => (off q hq).2))) dc5 ?_ rfl rfl
      intro h4 oc4 F₄ N₄ dc4
      clear F₂ N₂
      have hq := idx_q j hjn
      have hr := idx_r j
      have er' : (0 + (j : Int)).fmod 3 = ((j % 3 : Nat) : Int) := by rw [← hr.1]; omega
      obtain ⟨hsl, hsd⟩ := rest_step g1 g2 hjn
      have hlen := rest_len g1 g2 j
      have hnb : (wsOf (restAt one two j)).n ≤ (restAt one two j).length := (wsOf_ok (restAt one two j)).2.1
      have wS := @ws_spec w p loose mg mb (restAt one two j) tr (by omega)
      have dS := @splitdoc_spec w p loose mg mb (restAt one two j) tr (by omega)
      have hb : (Txt.slice (restAt one two j) none (some ((wsOf (restAt one two j)).n : Int)) != leadAt one two j) = false := by
        unfold bne; rw [hsl, beq_self_eq_true]; rfl
      obtain ⟨tl, hxr⟩ : ∃ tl, (strValues rl)[(0 + (i : Int) + (0 + (j : Int)).fdiv 3).toNat]? = some (.str (leadAt one two j) tl) := by
        rw [(idx_kj (show i < 6 by omega) hjn).1]
        unfold strValues leadAt
        rw [List.getElem?_map]
        rcases div3 hjn with e | e <;> rw [e]
        · exact ⟨t1, by rw [Nat.add_zero, hr1]; rfl⟩
        · exact ⟨t2, by rw [hr2]; rfl⟩
      repeat' (first
        | (fail_if_success (with_reducible show wpAny _ _ (subscriptTail _ _ (Value.ref _) (Value.int _ _)) _ _ _)); (first
          | ((with_reducible show wpAny _ _ (call (Value.ref 97) _) _ _ _); k_dflt (refine use2 wS (by k_asm) (by k_asm) (by k_asm) (by k_asm) (fun _ h => nomatch h) (by k_asm) rfl (by ktr_room) (by ktr_units) ?_); rintro r9 h9 tk9 F9 M9 ⟨x1, objs1, rfl, ⟨dx1, Nn1, Cn1, vs1, b1, u1, u2, u3, u4, u5, u6, u7, u8, u9, rfl, hi1⟩, nw9⟩; (obtain ⟨N9, nn9⟩ := M9 _ nw9); clear M9 nw9; (simp only [List.cons_append, List.nil_append] at N9))
          | ((with_reducible show wpAny _ _ (call (Value.ref 28) _) _ _ _); k_dflt (refine use2 dS (by k_asm) (by k_asm) (by k_asm) (by k_asm) (fun _ h => nomatch h) (by k_asm) rfl (by ktr_room) (by ktr_units) ?_); rintro r8 h8 tk8 F8 M8 ⟨D8, u8, v8, rfl, f8, g8⟩; (rw [hsd] at g8); (dsimp only at g8); (obtain ⟨N8, nn8⟩ := M8 _ (new_one f8 g8)); clear M8; (rw [List.singleton_append] at N8))
          | (k_unfold; (try dsimp only)) | walk1 | (dsimp only; walk1)))
      rename Fr _ _ _ _ => Fz
      rename News _ _ _ _ => Nz
      rename Heap => hz2
      refine item_L Nz (.tail _ (.tail _ (.tail _ (.tail _ (.tail _ (.tail _ (.tail _ (.tail _ hmDr)))))))) (idx_kj (show i < 6 by omega) hjn).2.1 (idx_kj (show i < 6 by omega) hjn).2.2 hxr ?_ (by with_unfolding_all rfl)
      repeat' (first
        | (fail_if_success (with_reducible show wpAny _ _ (eval (Expr.ListComp _ _ _ _) _) _ _ _)); (first
          | (k_unfold; (try dsimp only)) | walk1 | (dsimp only; walk1)))
      have N3 := news_sub (l := (I2, o2) :: (103, tabO ps5) :: (L' + 1, oc4) :: rest) Nz (fun q hq => .tail _ (.tail _ (.tail _ (.tail _ (.tail _ hq)))))
      clear Nz nn8 nn9 f8 g8 hb hsl hsd wS dS
      have hgt : ∀ row ∈ rs, hz2.get? row.a = some row.obj.2 := fun row hrow => (N3 row.obj (.tail _ (.tail _ (.tail _ (hmrs row hrow))))).1
      obtain ⟨hwb, hwl⟩ := wits_bd g1 g2 j
      obtain ⟨Dq, eq, rsq, hx3, hmq, hsub, hval, hlq⟩ : ∃ (Dq : Addr) (eq : Nat) (rsq : List Row), [Value.ref D1, Value.ref D2][((0 + (j : Int)).fdiv 3).toNat]? = some (.ref Dq) ∧ (Dq, listOf (rsq.map Row.ref).toArray eq) ∈ rest ∧ (∀ row ∈ rsq, row ∈ rs) ∧
          (rsq.map Row.val).map (pickR (j % 3)) = witsAt (duA one two) (duB one two) j ∧ rsq.length ≤ 5 := by
        rw [hq.1]
        unfold witsAt
        rcases div3 hjn with e | e <;> rw [e]
        · exact ⟨D1, e1, ra, rfl, hmD1, hsa, by rw [hva]; rfl, hla⟩
        · exact ⟨D2, e2, rb, rfl, hmD2, hsb, by rw [hvb]; rfl, hlb⟩
      have mstr : mg (Str.ofString "str") = none := mg_none_of X' T'.g (by k_is)
      refine comp_own (cl := [(Str.ofString "place", L' + 1)]) (fun _ => true) (NumG hz2 (j % 3)) (by with_unfolding_all rfl) (by decide) rfl (by decide) rfl ?_ (fun _ => rfl)
      repeat' (first
        | (fail_if_success (with_reducible show wpAny _ _ (pyIter _) _ _ _)); (first
          | ((with_reducible show wpAny _ _ (subscriptTail _ _ (Value.ref _) (Value.int _ _)) _ _ _); k_dflt (refine item_L N3 (.tail _ (.tail _ (.tail _ hmDd))) (by omega) (by omega) hx3 ?_ (by with_unfolding_all rfl)))
          | (k_unfold; (try dsimp only)) | walk1 | (dsimp only; walk1)))
      refine src_list Fz N3 (.tail _ (.tail _ (.tail _ hmq))) rfl (by rw [List.length_map]; omega) ?_ ?_ ?_
      · intro C k v s₃ m₃ E' _ _ _ _
        exact wpAny_tests_nil ⟨rfl, ⟨_, _, rfl, fun _ _ e => e⟩⟩
      · intro C k v s₃ m₃ E' hv _ hns hm st
        obtain ⟨row, hrow, rfl⟩ : ∃ row ∈ rsq, v = Row.ref row := by
          rw [List.getElem?_map] at hv
          obtain ⟨row, hq', e⟩ := Option.map_eq_some_iff.mp hv
          exact ⟨row, List.mem_of_getElem? hq', e.symm⟩
        have F4 := fr_stays Fz st
        have N4 := news_stays N3 st
        have hrow0 := hgt row (hsub row hrow)
        have ho : s₃.heap.get? row.a = some (tupOf [.int row.i row.ti, .int row.j row.tj, .int row.k row.tk]) := st _ _ hrow0
        have hpb := hwb (pickR (j % 3) row.val) (hval ▸ List.mem_map_of_mem (List.mem_map_of_mem hrow))
        refine Call_Name1 (cname_B F4 T' mstr boot_str (by decide) ?_ rfl rfl rfl rfl) rfl
        refine callWith_type1 (Subscript_ (cname_L hns hm ?_ rfl rfl))
        clear Fz N3
        repeat' (first
          | (fail_if_success (with_reducible show wpAny _ _ (subscriptTail _ _ _ _) _ _ _)); (first
            | (k_unfold; (try dsimp only)) | walk1 | (dsimp only; walk1)))
        obtain ⟨tt, hxp⟩ : ∃ tt, [Value.int row.i row.ti, Value.int row.j row.tj, Value.int row.k row.tk][j % 3]? = some (.int (pickR (j % 3) row.val) tt) := by
          have h3 : j % 3 = 0 ∨ j % 3 = 1 ∨ j % 3 = 2 := by omega
          rcases h3 with e | e | e <;> rw [e]
          · exact ⟨row.ti, rfl⟩
          · exact ⟨row.tj, rfl⟩
          · exact ⟨row.tk, rfl⟩
        refine item_tupleT (l := [.int row.i row.ti, .int row.j row.tj, .int row.k row.tk]) ⟨_, ho, rfl, _, rfl⟩ (by omega) (by omega) (j := j % 3) ?_ hxp ?_ (by with_unfolding_all rfl)
        · rw [er']
          exact seq3 _ (Nat.mod_lt _ (by decide))
        · refine str_of_int_fit (N := 1000000) ?_ (by decide) fun _ => ?_
          · split <;> omega
          · exact ⟨⟨[], ⟨rfl, row, _, rfl, hrow0, rfl⟩, fun _ h => nomatch h⟩, ⟨_, _, rfl, fun _ _ e => e⟩⟩
      · intro D9 e9 h9 tk9 zs9 F9 N9 pr9 st9 nw9 ne9
        rw [List.filter_eq_self.mpr (fun _ _ => rfl)] at pr9
        obtain ⟨nl, q1, q2, q3⟩ := num_pairs (fun row hrow => hgt row (hsub row hrow)) pr9
        rw [q1, q3] at N9
        rw [hval] at q2
        rw [List.nil_append] at N9
        clear pr9 q1 q3 ne9 nw9 st9
        obtain ⟨wn1, wn2, wn3⟩ := wits_nums g1 g2 j
        obtain ⟨hd1, hd2, hd3⟩ := head_reads wn1 (by omega) (fmtL_word (witsAt (duA one two) (duB one two) j))
        obtain ⟨ok1, ok2, ok3⟩ := nums_oks wn1
        have hfl := fmt_len g1 g2 j
        have hsum := sum_le wn2
        rw [← q2] at wn3 hd1 hd2 hd3 ok1 ok2 ok3 hsum
        rw [List.length_map] at wn3 hsum
        have rS := @reads_spec w p loose mg mb (fmtL (witsAt (duA one two) (duB one two) j)) u8 D9 nl e9 (by omega) (by omega) (by omega) hd1 hd2 hd3 ok1 ok2 ok3
        repeat' (first
          | (fail_if_success (with_reducible show wpAny _ _ (call (Value.ref 146) _) _ _ _)); (first
            | (k_unfold; (try dsimp only)) | walk1 | (dsimp only; walk1)))
        k_dflt (refine use rS B' F9 X' N9 (fun q hq => by rw [List.mem_singleton.mp hq]; exact .head _) T' rfl (by ktr_room) (by ktr_units) ?_)
        rintro r8 h8 tk8 F8 N8 st8 rfl
        have N7 := news_sub (l := (I2, o2) :: (103, tabO ps5) :: (L' + 1, oc4) :: rest) N8 (fun q hq => .tail _ hq)
        clear N8 N9 F9 Fz N3
        repeat' (first
          | (k_unfold; (try dsimp only)) | walk1 | (dsimp only; walk1))
        rename Fr _ _ _ _ => Fe
        rename News _ _ _ _ => Ne
        refine ⟨_, _, _, _, (103, tabO ps5) :: (L' + 1, oc4) :: rest, rfl, Fe, Ne, ?_, ⟨ps5, oc4, _, _, ⟨rfl, rfl, rfl, rfl, trivial⟩, rfl, dc4, tb5, ab5⟩⟩
        intro q hq
        rcases List.mem_cons.mp hq with rfl | hq
        · exact hI2 (103, tabO ps5) (.head _)
        rcases List.mem_cons.mp hq with rfl | hq
        · exact hI2 (L' + 1, oc5) (.tail _ (.head _))
        · exact hI2 q (.tail _ (.tail _ hq))
    · rintro m₂ nx h5 gens5 tk5 ⟨ps5, oc5, v5, tr, hm, rfl, dc5, tb5, ab5⟩ F₂ N₂
      rw [← ovr_eq hm] at F₂
      change Fr g' L' h5 _ at F₂
      change News g' L' h5 _ at N₂
      clear hm Fy Ny hR
      rw [rest_end] at F₂
      k_steps
      rename Fr _ _ _ _ => Fe
      rename News _ _ _ _ => Ne
      refine ⟨_, _, _, _, [(103, tabO ps5), (L' + 1, oc5), (Dr, listOf (strValues rl).toArray er)], rfl, Fe, fun q hq => ?_, fun q hq => ?_, ⟨ps5, oc5, v5, ⟨rfl, trivial⟩, rfl, dc5, tb5, ab5⟩⟩
      · rcases List.mem_cons.mp hq with rfl | hq
        · exact Ne _ (.tail _ (.tail _ hmI))
        rcases List.mem_cons.mp hq with rfl | hq
        · exact Ne _ (.head _)
        rcases List.mem_cons.mp hq with rfl | hq
        · exact Ne _ (.tail _ (.head _))
        rw [List.mem_singleton.mp hq]
        exact Ne _ (.tail _ (.tail _ hmDr))
      · rcases List.mem_cons.mp hq with rfl | hq
        · exact hI (103, tabO ps1) (.head _)
        rcases List.mem_cons.mp hq with rfl | hq
        · exact hI (L' + 1, oc1) (.tail _ (.head _))
        rw [List.mem_singleton.mp hq]
        exact hI _ (.tail _ (.tail _ (.head _)))
  · rintro m₁ nx h gens tk ⟨ps1, oc1, v1, hm, rfl, dc1, tb1, ab1⟩ F₁ N₁
    rw [← ovr_eq hm] at F₁
    change Fr g' L' h _ at F₁
    change News g' L' h _ at N₁
    k_steps
    rename Fr _ _ _ _ => Fe
    rename News _ _ _ _ => Ne
    exact hret _ _ _ ps1 (fun b o hb e => Fe.keep _ _ (hk' b o hb e)) (Ne _ (.head _)).1 ab1
end Mine

namespace Mine
theorem table_at {p : Program} {loose : List Str} {mean : ExcName → Option Value} {mg mb : Str → Option Value} {h : Heap} {K : Frag} {name : Str} {d : DefRec} {oc : Value} {od od' : Option Addr} {fd : FuncData} {sl sl' : Array (Option Value)} {vs : Array Value} {f c P : Addr}
    (T : Top p loose mean mg mb h) (X : K.In h) (hf : (recsOf p).find? (fun e => e.name == name) = some d) (e0 : mg name = some (.ref f)) (e1 : K.lookup f = some ⟨oc, od, .func fd, sl⟩) (hc : fd.code = .ref c) (e2 : K.lookup c = some ⟨.type "code", od', .fields vs, sl'⟩) (e3 : vs[11]? = some (.ref P)) : h.TableAt c P #[] := by
  obtain ⟨c', P', hcode, B⟩ := based_of_top T hf e0 (X _ _ e1) rfl
  rw [hc] at hcode
  cases hcode
  have tab := B.tab
  obtain ⟨⟨o, ws, ho, _, hd', hv⟩, _⟩ := id tab
  rw [X _ _ e2] at ho
  cases ho
  cases hd'
  rw [e3] at hv
  cases hv
  exact tab
end Mine
theorem PySem.Challenge.cw_mj0163_01_holds : PySem.Challenge.rw_mj0163_01.Holds := by
  refine Mine.hd ?_
  k_fill
  intro w s₀ s₁ mg mb G Y fa o pm cd doc dV kV ho hd0 hcd hD hmg hg args vals as hpre hlay hrd hwl hlo
  have KX := kIn_of Y
  refine Ground.open G ?_
  intro T B D TE TW
  try (refine guard_noD D (by decide +kernel) ?_; clear D)
  obtain ⟨bm, ob, M⟩ := bmod_of_top T
  wrow_args hpre hlay hrd hwl hlo
  all_goals (first | refine callC_kw (enter_call ?_) | refine enter_call ?_)
  have e151 : mg (Str.ofString "law") = some (.ref 151) := mg_of KX T.g (by k_is)
  have hfa : fa = 151 := by
    have h : mg (Str.ofString "law") = some (.ref fa) := hmg
    rw [e151] at h
    injection h with h
    injection h with h
    exact h.symm
  subst hfa
  have e108 : mg (Str.ofString "format_witnesses") = some (.ref 108) := mg_of KX T.g (by k_is)
  have tab := Mine.table_at (f := 108) (c := 107) (P := 103) T KX rfl e108 (by k_is) rfl (by k_is) rfl
  rename IntsAre _ _ => hI
  rename Heap.IsList _ _ _ => hL
  refine Mine.law_spec s₁ bm ob _ _ _ _ KX (topRead_of T) M tab.2 hL hI (by omega) (.of_eq hg) ?_
  intro h' gens tk ps hk h103 hab
  exact ⟨.inl ⟨_, _, [], rfl, fun _ => rfl, ReadsW.bool true, by first | rfl | wrow_post, fun _ => ⟨List.nodup_nil, fun _ hm => nomatch hm⟩⟩, Mine.oldK_tab tab hk h103, rfl, hab⟩

