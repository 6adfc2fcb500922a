import PyProof.Rows.All
import Wide.All
import OpenK.AllK
import Wide.FinOn
import PySem.Challenge.RW_pe0060_01
set_option Elab.async false
open PySem PySem.W PyProof.Rows
local macro_rules | `(tactic| walk_at $s:str) => `(tactic| k_extra $s)
local macro_rules | `(tactic| k_all) => `(tactic| k_extra "k_all")
local macro_rules | `(tactic| k_inst) => `(tactic| k_extra "k_inst")
local macro_rules | `(tactic| k_ne) => `(tactic| k_extra "k_ne")
local macro_rules | `(tactic| x_close) => `(tactic| k_extra "x_close")
section
open PySem PySem.W PyProof.Rows
namespace Mine
set_option maxRecDepth 100000
set_option maxHeartbeats 8000000
local macro_rules | `(tactic| o_head ($_ $k $a $e)) => `(tactic| o_head (kmHook $k $a $e [107, 114]))
open_top hd for PySem.Challenge.rw_pe0060_01
end Mine
end
section
open PySem PySem.W PyProof.Rows
namespace Mine
theorem fresh0 : True ∧ True := by
  k_with_none
  first | (walk1; fail) | (w_top off; exact ⟨trivial, trivial⟩)
end Mine
end
section
open PySem PySem.W PyProof.Rows PySem.Calls
namespace Mine
section
variable {prog : Program} {w : World} {A₀ A : Around} {s : Shared} {base h₀ : Heap} {L : Addr} {m : Str → Option Value} {env : Env} {news : List (Addr × Obj)} {K : Frag} {p : Program} {loose : List Str} {mean : ExcName → Option Value} {mg mb : Str → Option Value}
  {R : Result → Shared → Prop} {name qual : Str} {params : Arguments} {body : List Stmt} {scope : Scope} {dV kV doc pm cdv ct oc : Value} {an od : Option Addr} {osl : Array (Option Value)} {f : Addr} {args : Args} {binds : List (Str × Value)}
/-- a def is entered from a frame that may bear cells; a frame's slots may turn under way -/
theorem enterS0 (B : Below A₀ base [] h₀) (F : Fr h₀ L s.heap m) (X₀ : K.In h₀) (N : News h₀ L s.heap news) (T : Top p loose mean mg mb h₀) (hA : A.frames = some [env]) (hf : env.frame = some L) (hke : env.scope.kind = .function)
    (ho : K.lookup f = some ⟨oc, od, .func (fnOf name qual params body scope dV kV doc pm an cdv ct), osl⟩) (hcd : codeIn K cdv qual = true) (hroom : A.depth < recursionLimit)
    (hbind : BindsTo s (fnOf name qual params body scope dV kV doc pm an cdv ct) args binds) (hloc : ∀ y ∈ binds, scope.names.lookup y.1 = some .local)
    (h : ∀ g L' h₁, Fr h₀ L g m → Fr g L' h₁ (fun y => binds.reverse.lookup y) → News g L' h₁ news → Below A base [env] g → K.In g → Top p loose mean mg mb g → KtsDicts ([env].filterMap (·.frame)) g →
      wpAny (model prog w) (A.deeper (envOf qual scope L' f cdv)) (execs body (envOf qual scope L' f cdv))
        (fun fl s' => LeaveS0 ([env].filterMap (·.frame)) h₀ L m g R (match fl with | .ret v => v | _ => .none) s')
        (fun e s' => wpAny (model prog w) (A.deeper (envOf qual scope L' f cdv)) (leaving (envOf qual scope L' f cdv) e) (fun _ s'' => R (.error e) s'') (fun e' s'' => R (.error e') s'') s')
        { s with heap := h₁, toks := s.toks + binds.length })
    (hco : scope.isCoroutine = false) (hgen : scope.isGenerator = false) (hk : scope.kind = .function)
    (hcell : ∀ x ∈ scope.names, x.2 ≠ .cell) : codeAny (model prog w) A (.call (.ref f) args) R s := by
  have X := X₀.keeps F.keep
  have hfs : [env].filterMap (·.frame) = [L] := by simp [hf]
  obtain ⟨FG, BG, st, -⟩ := groundX (R := R) B F N hA hf hke
  refine codeAny_call_def (fd := fnOf name qual params body scope dV kV doc pm an cdv ct) (body := body) (binds := binds) hroom (X _ _ ho) rfl (T.nolimit.keeps F.keep) (codeRec_of X hcd) rfl hbind hcell hloc (fun h₁ hns hk₁ => ?_) hco hgen hk
  obtain ⟨oL, es, ep, hLg, hLd, hLk, hLm⟩ := FG.ns
  refine wpAny_mono (h _ s.heap.objs.size h₁ FG ⟨hns, fun b o e => hk₁ b o (of_hideAll _ e), Nat.le_of_eq (hideAll_size _ _)⟩
    (fun p hp => ⟨hk₁ _ _ (N p hp).1, Nat.ne_of_lt (Heap.lt_size (N p hp).1), hideAll_none _ (List.mem_map_of_mem hp)⟩) BG (X₀.keeps st) (T.keeps st) ?_) (fun fl s' hl => ?_) fun _ _ y => y
  · rw [hfs]
    intro b hb
    obtain rfl : b = L := by simpa using hb
    exact ⟨oL, es, ep, hLg, hLd⟩
  · obtain ⟨g', L', m', news', T', F', N', k⟩ := hl
    rw [hfs] at T'
    have nL : h₀.get? L = none := by
      cases q : h₀.get? L with
      | none => rfl
      | some o => exact absurd (Heap.lt_size q) (Nat.not_lt.mpr F.above)
    obtain ⟨sl, hs⟩ := T'.frame L oL hLg (by simp)
    refine k ⟨⟨_, es, ep, F'.keep _ _ hs, hLd, hLk, hLm⟩, fun b o e => F'.keep b o (T'.other b o (st b o e) fun q => ?_), F.above⟩ fun p hp => ⟨(N' p hp).1, fun q => ?_, ?_⟩
    · obtain rfl : b = L := by simpa using q
      rw [nL] at e; cases e
    · have := (N' p hp).2.2
      rw [q, hs] at this; cases this
    · cases q : h₀.get? p.1 with
      | none => rfl
      | some o =>
        have hne : p.1 ∉ [L] := fun z => by
          have z' : p.1 = L := by simpa using z
          rw [z', nL] at q; cases q
        have := (N' p hp).2.2
        rw [T'.other _ _ (st _ _ q) hne] at this; cases this
end
end Mine
end
section
open PySem PySem.W PyProof.Rows
namespace Mine
theorem fresh1 : True ∧ True := by
  k_with_none
  first | (walk1; fail) | (w_top off; exact ⟨trivial, trivial⟩)
end Mine
end
section
open PySem PySem.W PySem.W.X PyProof.Rows PySem.Calls
namespace Mine
set_option maxRecDepth 100000
set_option maxHeartbeats 8000000
noncomputable abbrev rowObj (items : Array Value) (n : Nat) (dx : Addr) : Obj := ⟨.ref 145, some dx, .seq items n, #[]⟩
noncomputable abbrev dEnt (P : Params) (size : Int) (tk tk' : Tok) : DictEntry := ⟨PyData.keyHash P (Str.ofString "_initial_size"), .str (Str.ofString "_initial_size") tk, .int size tk'⟩
noncomputable abbrev tupObj (a b : Value) : Obj := { cls := .type "tuple", data := .seq #[a, b] }
section
variable {w : World} {A : Around} {E : Value → Shared → Prop} {s : Shared} {h₀ : Heap} {L : Addr} {m : Str → Option Value} {news news' : List (Addr × Obj)}
   {row dx : Addr} {items : Array Value} {n : Nat} {od : Obj}
theorem inst_row {h : Heap} (N : News h₀ L h news) (h1 : (row, rowObj items n dx) ∈ news) (h2 : (dx, od) ∈ news) : InstAt h row (rowObj items n dx) 145 (some od) :=
  ⟨(N _ h1).1, rfl, rfl, (N _ h2).1⟩
/-- a built-in method of the base, by the method form -/
theorem method_bi {prog : Program} {K : Frag} {name : Str} {x C : Addr} {ox : Obj} {oi : Option Obj} {id ga : String} {tv : Value} {pl : Sem Bool} {Q : Value × List Value → Shared → Prop} (X : K.In s.heap) (I : InstAt s.heap x ox C oi)
    (hga : findIn K (.ref C) "__getattribute__" = some (some (.builtin ga))) (hcan : (Manifest.canonical ga != "object.__getattribute__") = false) (hk : findIn K (.ref C) "__getattr__" = some none)
    (hf : findIn K (.ref C) name = some (some (.builtin id))) (ht : typeIn K (.builtin id) = some tv) (htn : (tv != .type "function" && tv != .type "method_descriptor" && tv != .type "wrapper_descriptor") = false)
    (hs : shadowIn oi name = some false) (h : Q (.builtin id, [.ref x]) s) :
    wpAny (model prog w) A (getMethod (.ref x) name pl) Q E s := by
  unfold getMethod specialOf
  refine wpAny_bind (wpAny_bind (I.type.here ((looks_findIn X hga).here ?_)))
  dsimp only
  rw [hcan, if_neg Bool.false_ne_true]
  refine wpAny_bind (wpAny_bind (I.type.here ((looks_findIn X hk).here ?_)))
  refine wpAny_bind (wpAny_bind (I.type.here ((looks_findIn X hf).here (wpAny_bind ((looks_typeIn X ht).here ?_)))))
  rw [htn, if_neg (by decide)]
  refine wpAny_bind (wpAny_loadPart I.at_ ?_)
  have hd := I.dict
  cases e : ox.dict with
  | none => exact wpAny_bind (wpAny_rule (wpAny_pure h))
  | some dy =>
    cases oi with
    | none => rw [e] at hd; exact hd.elim
    | some o =>
      rw [e] at hd
      unfold shadowIn at hs
      obtain ⟨r, hr, hr'⟩ := Option.map_eq_some_iff.mp hs
      have hl : nsLook name o = pure r := nsLook_of hr
      cases r with
      | some v => cases hr'
      | none =>
        refine wpAny_bind ?_
        unfold nsGet
        refine wpAny_bind (wpAny_loadPart hd ?_)
        rw [hl]
        exact wpAny_pure (wpAny_bind (wpAny_rule (wpAny_pure h)))
/-- a method of its own -/
theorem method_own {prog : Program} {K : Frag} {name : Str} {x C : Addr} {ox : Obj} {oi : Option Obj} {f : Addr} {ga : String} {tv : Value} {pl : Sem Bool} {Q : Value × List Value → Shared → Prop} (X : K.In s.heap) (I : InstAt s.heap x ox C oi)
    (hga : findIn K (.ref C) "__getattribute__" = some (some (.builtin ga))) (hcan : (Manifest.canonical ga != "object.__getattribute__") = false) (hk : findIn K (.ref C) "__getattr__" = some none)
    (hf : findIn K (.ref C) name = some (some (.ref f))) (ht : typeIn K (.ref f) = some tv) (htn : (tv != .type "function" && tv != .type "method_descriptor" && tv != .type "wrapper_descriptor") = false)
    (hs : shadowIn oi name = some false) (h : Q (.ref f, [.ref x]) s) :
    wpAny (model prog w) A (getMethod (.ref x) name pl) Q E s := by
  unfold getMethod specialOf
  refine wpAny_bind (wpAny_bind (I.type.here ((looks_findIn X hga).here ?_)))
  dsimp only
  rw [hcan, if_neg Bool.false_ne_true]
  refine wpAny_bind (wpAny_bind (I.type.here ((looks_findIn X hk).here ?_)))
  refine wpAny_bind (wpAny_bind (I.type.here ((looks_findIn X hf).here (wpAny_bind ((looks_typeIn X ht).here ?_)))))
  rw [htn, if_neg (by decide)]
  refine wpAny_bind (wpAny_loadPart I.at_ ?_)
  have hd := I.dict
  cases e : ox.dict with
  | none => exact wpAny_bind (wpAny_rule (wpAny_pure h))
  | some dy =>
    cases oi with
    | none => rw [e] at hd; exact hd.elim
    | some o =>
      rw [e] at hd
      unfold shadowIn at hs
      obtain ⟨r, hr, hr'⟩ := Option.map_eq_some_iff.mp hs
      have hl : nsLook name o = pure r := nsLook_of hr
      cases r with
      | some v => cases hr'
      | none =>
        refine wpAny_bind ?_
        unfold nsGet
        refine wpAny_bind (wpAny_loadPart hd ?_)
        rw [hl]
        exact wpAny_pure (wpAny_bind (wpAny_rule (wpAny_pure h)))
theorem sub_list {M : Model} {h : Heap} {x : Addr} {ox : Obj} {oi : Option Obj} (X : (hd.heap_39 w.params).In h) (I : InstAt h x ox 145 oi) : Looks M h (isInstance (.ref x) (.type "list")) true :=
  I.type.andThen (looks_mroIn X (by rfl))
theorem check_meth {M : Model} {i owner nm : String} {self : Value} {rest : List Value} {kw : List (Str × Value)} {Q : Unit → Shared → Prop}
    (hk : builtinKind i = some .method) (hs : splitId i = some (owner, nm)) (hi : Looks M s.heap (isInstance self (.type owner)) true) (ha : argsOk i ⟨self :: rest, kw⟩) (q : Q () s) :
    wpAny M A (checkBuiltinCall i ⟨self :: rest, kw⟩) Q E s := by
  unfold checkBuiltinCall
  simp only [hk, hs]
  refine wpAny_bind (Looks.here hi ?_)
  rw [Bool.not_true, if_neg Bool.false_ne_true]
  unfold argsOk at ha
  split at ha
  · rename_i sg e
    simp only [e]
    exact wpAny_of_eq ha q
  · rename_i e
    simp only [e]
    exact wpAny_pure q
theorem append_row {prog : Program} {x : Value} {Q : Value → Shared → Prop} (F : Fr h₀ L s.heap m) (X : (hd.heap_39 w.params).In h₀) (N : News h₀ L s.heap news) (U : Upd row (rowObj items n dx) (rowObj (items.push x) (n + 1) dx) news news')
    (hd : (dx, od) ∈ news)
    (h : ∀ h', Fr h₀ L h' m → News h₀ L h' news' → Q .none { s with heap := h' }) (hsz : items.size ≤ sizeLine := by size_fits) : wpAny (model prog w) A (call (.builtin "list.append") [.ref row, x]) Q E s := by
  obtain ⟨pre, post, rfl, rfl, a, b⟩ := U.split
  have hmem : (row, rowObj items n dx) ∈ pre ++ (row, rowObj items n dx) :: post := List.mem_append.mpr (.inr (.head _))
  have z := N (row, rowObj items n dx) hmem
  have I := inst_row N hmem hd
  have sub := sub_list (M := model prog w) (X.keeps F.keep) I
  refine wpAny_call (codeAny_call_builtin (by decide +kernel) entry_list_append (check_meth (by decide +kernel) (by decide +kernel : splitId "list.append" = some ("list", "append")) sub (args_list_append _ _) ?_))
  show wpAny _ _ (updateSeq row (·.push x) >>= fun _ => ret .none) _ _ s
  refine wpAny_bind (wpAny_updateSeq z.1 rfl ?_)
  have e : Obj.mapSeq (·.push x) (rowObj items n dx) = rowObj (items.push x) (n + 1) dx := by
    simp [Obj.mapSeq]
  obtain ⟨F', N'⟩ := news_upd (f := Obj.mapSeq (·.push x)) F N a b e rfl
  exact wpAny_pure (h _ F' N')
end
end Mine
end
section
open PySem PySem.W PyProof.Rows
namespace Mine
theorem fresh2 : True ∧ True := by
  k_with_none
  first | (walk1; fail) | (w_top off; exact ⟨trivial, trivial⟩)
end Mine
end
section
open PySem PySem.W PySem.W.X PyProof.Rows PySem.Calls
namespace Mine
set_option maxRecDepth 100000
set_option maxHeartbeats 8000000
section
variable {w : World} {p : Program} {loose : List Str} {mean : ExcName → Option Value} {mg mb : Str → Option Value}
   {cn : Str} {nms : List (Str × NameKind)} {ig ic : Bool} {mr : List (Str × Const)} {a : Addr} {ccd : Value} {cl : List (Str × Addr)} {H : Heap} {L : Addr} {m : Str → Option Value} {s : Shared} {Q E : Value → Shared → Prop} {news : List (Addr × Obj)}
   {row dx : Addr} {items : Array Value} {n : Nat} {size : Int} {tk₀ tk₁ : Tok}
theorem words1 : True := by
  k_with_none
  k_with "k_inst" => (refine' inst_row ?N ?h1 ?h2; (case N => k_asm); (case h1 => k_mem); (case h2 => k_mem))
  k_with "getMethod ref" => (k_here; k_dflt (refine' method_bi ?k1 ?k2 ?k3 ?k4 ?k5 ?k6 ?k7 ?k8 ?k9 ?_; (case k1 => k_in); (case k2 => k_inst); (case k3 => k_is); (case k9 => rfl); (case k4 => decide +kernel); (case k5 => k_is); (case k6 => k_is); (case k7 => k_is); (case k8 => decide +kernel); k_whole))
  k_with "call builtin:list.append" => (k_here; (with_reducible show wpAny _ _ (call (Value.builtin _) [Value.ref _, _]) _ _ _); k_dflt (refine' append_row ?k1 ?k2 ?k3 ?k4 ?k5 ?_ ?z; (case k1 => k_asm); (case k2 => k_asm); (case k3 => k_asm); (case k4 => k_upd); (case k5 => k_mem); (case z => size_fits); k_whole); intro h' F' N'; (try k_sweep))
  k_with "k_all" => with_reducible assumption
  trivial
theorem push_c (F : Fr H L s.heap m) (X : (hd.heap_39 w.params).In H) (N : News H L s.heap ((row, rowObj items n dx) :: (dx, dictOf [dEnt w.params size tk₀ tk₁] 1) :: news))
   (T : Top p loose mean mg mb H) (hne : @Ne Nat row dx) (hnw : ∀ p ∈ news, p.1 ≠ row) (hsz : items.size ≤ 100)
   {f b : Str} {t1 t2 : Tok}
   (hret : ∀ h' tk T, Fr H L h' m → News H L h' ((T, tupObj (.str f t1) (.str b t2)) :: (row, rowObj (items.push (.ref T)) (n + 1) dx) :: (dx, dictOf [dEnt w.params size tk₀ tk₁] 1) :: news) → row < T → dx < T → AllLt T news → Q .none { s with heap := h', toks := tk }) :
   wpAny (model Challenge.rw_pe0060_01.row.prog w) (callerA.deeper (envX cn (Scope.mk .function nms ig ic mr) L a ccd cl)) (call (.ref 89) [.ref row, .str f t1, .str b t2]) Q E s := by
  revert X
  k_fill
  intro X
  have B := below_caller H
  k_steps
  rename (row : Nat) < _ ∧ _ ∧ AllLt _ news => lt
  exact hret _ _ _ (by k_asm) (by k_asm) lt.1 lt.2.1 lt.2.2
end
end Mine
end
section
open PySem PySem.W PyProof.Rows
namespace Mine
theorem fresh3 : True ∧ True := by
  k_with_none
  first | (walk1; fail) | (w_top off; exact ⟨trivial, trivial⟩)
end Mine
end
section
open PySem PySem.W PySem.W.X PyProof.Rows PySem.Calls
namespace Mine
set_option maxRecDepth 100000
set_option maxHeartbeats 4000000
section
variable {prog : Program} {w : World} {A : Around} {E : Value → Shared → Prop} {s : Shared} {h₀ h : Heap} {L : Addr} {m : Str → Option Value} {news news' : List (Addr × Obj)}
   {row dx : Addr} {items : Array Value} {n : Nat} {od : Obj}
theorem bound_ok {M : Model} {ox : Obj} {oi : Option Obj} (X : (hd.heap_39 w.params).In h) (I : InstAt h row ox 145 oi) : Looks M h (checkBoundCall "list.pop" ⟨[.ref row], []⟩) () := by
  have l1 : Looks M h (isInstance (.ref row) (.type "module")) false := I.type.andThen (looks_mroIn X (by rfl))
  have l2 : Looks M h (isType (.ref row)) false := fun A Q E s k q => by
    obtain ⟨hp, g, d, t, os⟩ := s
    exact ks_wpAny_isType_inst (k _ _ I.at_) (fun c e => by
      have := I.no
      unfold notCls at this
      rw [e] at this
      exact Bool.noConfusion this) q
  have l3 := I.type (M := M)
  have l4 : Looks M h (typeOf (.ref 145)) (.type "type") := looks_typeIn X (by rfl)
  intro A Q E s k q
  replace l1 := l1.keeps k
  replace l2 := l2.keeps k
  replace l3 := l3.keeps k
  replace l4 := l4.keeps k
  have hC := k _ _ (X 145 _ rfl)
  obtain ⟨hp, g, d, t, os⟩ := s
  unfold checkBoundCall
  repeat lk
  exact q
theorem erase_last {α : Type} (items : Array α) (x : α) : (items.push x).eraseIdxIfInBounds items.size = items := by
  rw [Array.eraseIdxIfInBounds_eq, dif_pos (by simp)]
  apply Array.ext'
  rw [Array.toList_eraseIdx]
  simp [List.eraseIdx_append_of_length_le]
theorem entry_pop : entryFor table "list.pop" = some Builtin.«list.pop» := entryFor_of_tree (by kernel_rfl)
theorem pop_bound {q : Addr} {x : Value} {Q : Value → Shared → Prop} (F : Fr h₀ L s.heap m) (X : (hd.heap_39 w.params).In h₀) (N : News h₀ L s.heap news) (U : Upd row (rowObj (items.push x) n dx) (rowObj items (n + 1) dx) news news')
    (hd : (dx, od) ∈ news) (hq : s.heap.get? q = some ⟨.type "builtin_function_or_method", none, .fields #[.builtin "list.pop", .ref row], #[]⟩)
    (h : ∀ h', Fr h₀ L h' m → News h₀ L h' news' → Q x { s with heap := h' }) (hsz : items.size ≤ 1000) : wpAny (model prog w) A (call (.ref q) []) Q E s := by
  obtain ⟨pre, post, rfl, rfl, a, b⟩ := U.split
  have hmem : (row, rowObj (items.push x) n dx) ∈ pre ++ (row, rowObj (items.push x) n dx) :: post := List.mem_append.mpr (.inr (.head _))
  have z := (N (row, rowObj (items.push x) n dx) hmem).1
  have I := inst_row N hmem hd
  have bo := bound_ok (M := model prog w) (X.keeps F.keep) I
  refine wpAny_call (codeAny_of_tree ?_)
  show wpAny _ _ (callAny (.ref q) _) _ _ _
  refine nd_load hq ?_
  show wpAny _ _ (checkBoundCall "list.pop" ⟨[.ref row], []⟩ >>= fun _ => again (.builtin "list.pop" ⟨[.ref row], []⟩)) _ _ _
  refine wpAny_bind (bo.here (wpAny_pure ?_))
  refine ⟨Code.quiet_builtin _ (by decide +kernel), codeAny_builtin entry_pop ?_⟩
  unfold Builtin.«list.pop»
  obtain ⟨hp, g, d, t, os⟩ := s
  dsimp only at z
  repeat lk
  rw [if_neg (by simp)]
  have e1 : ((seqIndex? (-1) (items.push x).size).bind fun k => Option.map (fun x => (k, x)) (items.push x)[k]?) = some (items.size, x) := by
    have e0 : seqIndex? (-1) (items.push x).size = some items.size := by
      unfold seqIndex?
      simp only [Array.size_push]
      have h1 : ((-1 : Int) < 0) := by decide
      simp
      omega
    rw [e0]; simp
  rw [e1]
  have e2 : Obj.mapSeq (·.eraseIdxIfInBounds items.size) (rowObj (items.push x) n dx) = rowObj items (n + 1) dx := by
    simp [Obj.mapSeq, erase_last]
  show wpAny _ _ (updateSeq row (·.eraseIdxIfInBounds items.size) >>= fun _ => ret x) _ _ _
  refine wpAny_bind (wpAny_updateSeq z rfl ?_ (by rw [sizeLine_eq]; simp; omega) (by rw [sizeLine_eq, erase_last]; omega))
  obtain ⟨F', N'⟩ := news_upd (f := Obj.mapSeq (·.eraseIdxIfInBounds items.size)) F N a b e2 rfl
  exact wpAny_pure (h _ F' N')
end
end Mine
end
section
open PySem PySem.W PyProof.Rows
namespace Mine
theorem fresh4 : True ∧ True := by
  k_with_none
  first | (walk1; fail) | (w_top off; exact ⟨trivial, trivial⟩)
end Mine
end
section
open PySem PySem.W PySem.W.X PyProof.Rows PySem.Calls
namespace Mine
set_option maxRecDepth 100000
set_option maxHeartbeats 4000000
section
variable {prog : Program} {w : World} {A : Around} {E : Value → Shared → Prop} {h : Heap} {g : Array GenState} {d : Drawn} {t : Nat} {os : OsState} {so D x C : Addr} {l₀ l : List Value} {K : Frag} {name : Str} {id gid : String} {tv : Value}
theorem super_ga_bi {tk : Tok} {Q : PySem.Fin → Shared → Prop} (hso : h.get? so = some (ks_superObj D x C)) (hno : Looks (model prog w) h (opaqueClassAbove (.ref C)) none)
    (hC : Looks (model prog w) h (mroOf (.ref C)) l₀) (hl : (l₀.dropWhile (· != .ref D)).drop 1 = l) (X : K.In h)
    (hf : alongIn K name l = some (some (.builtin id))) (ht : typeIn K (.builtin id) = some tv) (hg : findIn K tv "__get__" = some (some (.builtin gid))) (hxC : x ≠ C) (hn : (name == ("__class__" : Str)) = false)
    (hq : wpAny (model prog w) A (call (.builtin gid) [.builtin id, .ref x, .ref C]) (fun v s' => Q (.done (.ret v)) s') E ⟨h, g, d, t, os⟩) :
    wpAny (model prog w) A (Builtin.«super.__getattribute__» ⟨[.ref so, .str name tk], []⟩) Q E ⟨h, g, d, t, os⟩ := by
  have hne : (Value.ref x == Value.ref C) = false := by simp [hxC]
  have l1 : Looks (model prog w) h (typeOf (.builtin id)) tv := looks_typeIn X ht
  have l2 : Looks (model prog w) h (typeLookup tv "__get__") (some (.builtin gid)) := looks_findIn X hg
  have hdt : (ks_superObj D x C).data = .fields #[.ref D, .ref x, .ref C] := rfl
  have f0 : (#[.ref D, .ref x, .ref C] : Array Value)[0]? = some (.ref D) := rfl
  have f1 : (#[.ref D, .ref x, .ref C] : Array Value)[1]? = some (.ref x) := rfl
  have f2 : (#[.ref D, .ref x, .ref C] : Array Value)[2]? = some (.ref C) := rfl
  unfold Builtin.«super.__getattribute__»
  repeat (first
    | (with_reducible refine wpAny_field hso hdt f0 ?_) | (with_reducible refine wpAny_field hso hdt f1 ?_) | (with_reducible refine wpAny_field hso hdt f2 ?_)
    | (with_reducible refine ks_wpAny_notOpaque hno ?_)
    | (with_reducible refine Looks.at hC ?_; rw [hl])
    | (refine ks_forIn_along X (fun _ _ => rfl) rfl ?_ hf)
    | (with_reducible refine Looks.at l1 ?_) | (with_reducible refine Looks.at l2 ?_)
    | (simp only [hn, hne, Bool.or_false, Bool.false_eq_true, if_false])
    | (with_reducible refine wpAny_mono hq (fun v s' z => ?_) fun _ _ z => z)
    | wp_step
    | dsimp only)
  all_goals exact z
theorem super_bi {pl : Sem Bool} {Q : Value × List Value → Shared → Prop} (hso : h.get? so = some (ks_superObj D x C)) (hno : Looks (model prog w) h (opaqueClassAbove (.ref C)) none)
    (hC : Looks (model prog w) h (mroOf (.ref C)) l₀) (hl : (l₀.dropWhile (· != .ref D)).drop 1 = l) (X : K.In h)
    (hf : alongIn K name l = some (some (.builtin id))) (ht : typeIn K (.builtin id) = some tv) (hg : findIn K tv "__get__" = some (some (.builtin gid))) (hxC : x ≠ C) (hn : (name == ("__class__" : Str)) = false)
    (hq : ∀ A' E', wpAny (model prog w) A' (call (.builtin gid) [.builtin id, .ref x, .ref C]) (fun v s' => ∃ a, v = .ref a ∧ Q (.ref a, []) s') E' ⟨h, g, d, t + 1, os⟩) :
    wpAny (model prog w) A (getMethod (.ref so) name pl) Q E ⟨h, g, d, t, os⟩ := by
  have S : Slot "super" "__getattribute__" "super.__getattribute__" := .of (owner := "super") (n := "__getattribute__") (by rw [typeLookup_type, builtinLookup_eq_fast]; kernel_rfl) (by decide +kernel) (by decide +kernel) (by decide +kernel)
    (.inl (by decide +kernel)) (by rw [isSubtype_type]; kernel_rfl)
  have ent : entryFor table "super.__getattribute__" = some Builtin.«super.__getattribute__» := entryFor_of_tree (by kernel_rfl)
  have hT : ∀ t', (⟨h, g, d, t', os⟩ : Shared).TypeIs (.ref so) "super" := fun _ => ⟨_, hso, rfl⟩
  unfold getMethod
  refine wpAny_bind (wpAny_specialOf (hT _) S.lookup ?_)
  show wpAny _ _ (if (Manifest.canonical "super.__getattribute__" != "object.__getattribute__") = true then _ else _) _ _ _
  rw [if_pos (by decide +kernel)]
  unfold getAttr getAttrBy
  refine wpAny_bind (wpAny_bind (wpAny_mkText (wpAny_holding (wpAny_bind (wpAny_typeOf (hT _) (wpAny_bind (wpAny_of_eq S.lookup ?_)))))))
  show wpAny _ _ (getAttrByItsOwn (.ref so) (.str name t) (.type "super") (.builtin "super.__getattribute__") true false) _ _ _
  unfold getAttrByItsOwn hookBefore callGetattribute boundAndCalled
  refine wpAny_bind (wpAny_of_eq (show (if onTheHeap (.type "super") then typeLookup (.type "super") "__getattr__" else pure none) = pure none from rfl) ?_)
  refine wpAny_bind (wpAny_attempt (wpAny_holding ?_))
  show wpAny _ _ (bindSpecial (.builtin "super.__getattribute__") (.ref so) >>= _) _ _ _
  refine wpAny_bind (wpAny_of_eq (S.bind _) ?_)
  refine wpAny_mono (Q := fun v s' => ∃ a, v = .ref a ∧ Q (.ref a, []) s') (E := fun _ _ => False) (wpAny_call_entry S (hT _) ent (super_ga_bi hso hno hC hl X hf ht hg hxC hn (wpAny_mono (hq _ _) (fun v s' z => ⟨v, rfl, z⟩) fun _ _ z => z)) (by unfold argsOk; kernel_rfl)) (fun v s' z => ?_) fun _ _ z => z.elim
  obtain ⟨a, rfl, z⟩ := z
  exact wpAny_pure (wpAny_pure z)
end
section
variable {w : World} {A : Around} {E : Value → Shared → Prop} {s : Shared} {h₀ : Heap} {L : Addr} {m : Str → Option Value} {news : List (Addr × Obj)}
   {so row dx : Addr} {items : Array Value} {n : Nat} {od : Obj}
/-- what x_run hands on -/
noncomputable def XRet (h0 : Heap) (Q : Value → Shared → Prop) (P : Value → List (Addr × Obj) → Prop) (g : Array GenState) (d : Drawn) (os : OsState) : Prop := ∀ v h t news, Mem h0 h [] news → P v news → Q v ⟨h, g, d, t, os⟩
theorem XRet.use {h0 : Heap} {Q : Value → Shared → Prop} {P : Value → List (Addr × Obj) → Prop} {g : Array GenState} {d : Drawn} {os : OsState} (r : XRet h0 Q P g d os) {v h t news} (D : Mem h0 h [] news) (p : P v news) : Q v ⟨h, g, d, t, os⟩ := r v h t news D p
theorem words2 : True := by
  k_with_none
  k_with "x_close" => (refine XRet.use (by assumption) (by first | assumption | exact Mem.start _) ?_; first | exact ⟨_, rfl⟩ | exact ⟨_, rfl, rfl⟩ | exact ⟨_, _, _, rfl⟩)
  trivial
noncomputable abbrev wrapObj (cls id : String) (row : Addr) : Obj := { cls := .type cls, data := .fields #[.builtin id, .ref row] }
theorem get_len {Q : Value → Shared → Prop} (X : (hd.heap_39 w.params).In s.heap) (hr : s.heap.get? row = some ⟨.ref 145, some dx, .seq items n, #[]⟩)
   (hret : XRet s.heap Q (fun v news => ∃ q, v = .ref q ∧ news = [(q, wrapObj "method-wrapper" "list.__len__" row)]) s.gens s.drawn s.os) :
   wpAny (model Challenge.rw_pe0060_01.row.prog w) A (call (.builtin "wrapper_descriptor.__get__") [.builtin "list.__len__", .ref row, .ref 145]) Q E s := by
  x_run
theorem get_pop {Q : Value → Shared → Prop} (X : (hd.heap_39 w.params).In s.heap) (hr : s.heap.get? row = some ⟨.ref 145, some dx, .seq items n, #[]⟩)
   (hret : XRet s.heap Q (fun v news => ∃ q, v = .ref q ∧ news = [(q, wrapObj "builtin_function_or_method" "list.pop" row)]) s.gens s.drawn s.os) :
   wpAny (model Challenge.rw_pe0060_01.row.prog w) A (call (.builtin "method_descriptor.__get__") [.builtin "list.pop", .ref row, .ref 145]) Q E s := by
  x_run
theorem get_init {Q : Value → Shared → Prop} (X : (hd.heap_39 w.params).In s.heap) (hr : s.heap.get? row = some ⟨.ref 145, some dx, .seq items n, #[]⟩)
   (hret : XRet s.heap Q (fun v news => ∃ q, v = .ref q ∧ news = [(q, wrapObj "method-wrapper" "list.__init__" row)]) s.gens s.drawn s.os) :
   wpAny (model Challenge.rw_pe0060_01.row.prog w) A (call (.builtin "wrapper_descriptor.__get__") [.builtin "list.__init__", .ref row, .ref 145]) Q E s := by
  x_run
theorem call_len {q : Addr} {Q : Value → Shared → Prop} (X : (hd.heap_39 w.params).In s.heap) (hr : s.heap.get? row = some ⟨.ref 145, some dx, .seq items n, #[]⟩) (hq : s.heap.get? q = some ⟨.type "method-wrapper", none, .fields #[.builtin "list.__len__", .ref row], #[]⟩)
   (hret : XRet s.heap Q (fun v _ => ∃ t, v = .int items.size t) s.gens s.drawn s.os) :
   wpAny (model Challenge.rw_pe0060_01.row.prog w) A (call (.ref q) []) Q E s := by
  x_run
theorem one_new {h : Heap} {q : Addr} {o : Obj} (F : Fr h₀ L s.heap m) (N : News h₀ L s.heap news) (D : Mem s.heap h [] [(q, o)]) : Fr h₀ L h m ∧ News h₀ L h ((q, o) :: news) ∧ ∀ p ∈ news, p.1 ≠ q := by
  have k : ∀ b o, s.heap.get? b = some o → h.get? b = some o := fun b o e => D.keep b o e (by simp [away])
  have z := D.nw (q, o) (.head _)
  obtain ⟨oL, es, ep, hL, r⟩ := F.ns
  refine ⟨⟨⟨oL, es, ep, k _ _ hL, r⟩, fun b o e => k b o (F.keep b o e), F.above⟩, fun p hp => ?_, fun p hp e => ?_⟩
  · rcases List.mem_cons.mp hp with rfl | hp
    · refine ⟨z.1, fun e => ?_, ?_⟩
      · have := z.2
        rw [e, hL] at this; cases this
      · cases e : h₀.get? q with
        | none => rfl
        | some o' =>
          have := F.keep _ _ e
          rw [z.2] at this; cases this
    · exact ⟨k _ _ (N p hp).1, (N p hp).2⟩
  · have := (N p hp).1
    rw [e, z.2] at this; cases this
end
end Mine
end
section
open PySem PySem.W PyProof.Rows
namespace Mine
theorem fresh5 : True ∧ True := by
  k_with_none
  first | (walk1; fail) | (w_top off; exact ⟨trivial, trivial⟩)
end Mine
end
section
open PySem PySem.W PySem.W.X PyProof.Rows PySem.Calls
namespace Mine
set_option maxRecDepth 100000
set_option maxHeartbeats 4000000
section
variable {w : World} {A : Around} {E : Value → Shared → Prop} {s : Shared} {h₀ : Heap} {L : Addr} {m : Str → Option Value} {news news' : List (Addr × Obj)}
   {so row dx q : Addr} {items : Array Value} {n : Nat} {od : Obj} {pl : Sem Bool}
theorem mem_keeps {h : Heap} {nw : List (Addr × Obj)} (F : Fr h₀ L s.heap m) (N : News h₀ L s.heap news) (D : Mem s.heap h [] nw) : Fr h₀ L h m ∧ News h₀ L h news := by
  have k : ∀ b o, s.heap.get? b = some o → h.get? b = some o := fun b o e => D.keep b o e (by simp [away])
  obtain ⟨oL, es, ep, hL, r⟩ := F.ns
  exact ⟨⟨⟨oL, es, ep, k _ _ hL, r⟩, fun b o e => k b o (F.keep b o e), F.above⟩, fun p hp => ⟨k _ _ (N p hp).1, (N p hp).2⟩⟩
theorem super_len_K {Q : Value × List Value → Shared → Prop} (F : Fr h₀ L s.heap m) (X₀ : (hd.heap_39 w.params).In h₀) (N : News h₀ L s.heap news) (hso : (so, ks_superObj 145 row 145) ∈ news) (hr : (row, rowObj items n dx) ∈ news) (hdx : (dx, od) ∈ news)
    (h : ∀ q h' tk, Fr h₀ L h' m → News h₀ L h' ((q, wrapObj "method-wrapper" "list.__len__" row) :: news) → (∀ p ∈ news, p.1 ≠ q) → Q (.ref q, []) { s with heap := h', toks := tk }) :
    wpAny (model Challenge.rw_pe0060_01.row.prog w) A (getMethod (.ref so) (Str.ofString "__len__") pl) Q E s := by
  have X := X₀.keeps F.keep
  have I := inst_row N hr hdx
  have hne : row ≠ 145 := ks_ne X I (cd := _) rfl
  obtain ⟨hp, g, d, t, os⟩ := s
  have hC : Looks (model Challenge.rw_pe0060_01.row.prog w) hp (mroOf (.ref 145)) [.ref 145, .type "list", .type "object"] := (looks_clsIn X (cd := _) rfl).andThen .now
  refine super_bi (N _ hso).1 (looks_opaque X rfl) hC rfl X (by rfl) (by rfl) (by rfl) hne (by decide) fun A' E' => ?_
  refine get_len X (N _ hr).1 fun v h' t' nw D ⟨q, e1, e2⟩ => ?_
  subst e1 e2
  obtain ⟨F', N', ne⟩ := one_new F N D
  exact ⟨_, rfl, h q h' t' F' N' ne⟩
theorem super_pop_K {Q : Value × List Value → Shared → Prop} (F : Fr h₀ L s.heap m) (X₀ : (hd.heap_39 w.params).In h₀) (N : News h₀ L s.heap news) (hso : (so, ks_superObj 145 row 145) ∈ news) (hr : (row, rowObj items n dx) ∈ news) (hdx : (dx, od) ∈ news)
    (h : ∀ q h' tk, Fr h₀ L h' m → News h₀ L h' ((q, wrapObj "builtin_function_or_method" "list.pop" row) :: news) → (∀ p ∈ news, p.1 ≠ q) → Q (.ref q, []) { s with heap := h', toks := tk }) :
    wpAny (model Challenge.rw_pe0060_01.row.prog w) A (getMethod (.ref so) (Str.ofString "pop") pl) Q E s := by
  have X := X₀.keeps F.keep
  have I := inst_row N hr hdx
  have hne : row ≠ 145 := ks_ne X I (cd := _) rfl
  obtain ⟨hp, g, d, t, os⟩ := s
  have hC : Looks (model Challenge.rw_pe0060_01.row.prog w) hp (mroOf (.ref 145)) [.ref 145, .type "list", .type "object"] := (looks_clsIn X (cd := _) rfl).andThen .now
  refine super_bi (N _ hso).1 (looks_opaque X rfl) hC rfl X (by rfl) (by rfl) (by rfl) hne (by decide) fun A' E' => ?_
  refine get_pop X (N _ hr).1 fun v h' t' nw D ⟨q, e1, e2⟩ => ?_
  subst e1 e2
  obtain ⟨F', N', ne⟩ := one_new F N D
  exact ⟨_, rfl, h q h' t' F' N' ne⟩
theorem super_init_K {Q : Value × List Value → Shared → Prop} (F : Fr h₀ L s.heap m) (X₀ : (hd.heap_39 w.params).In h₀) (N : News h₀ L s.heap news) (hso : (so, ks_superObj 145 row 145) ∈ news) (hr : (row, rowObj items n dx) ∈ news) (hdx : (dx, od) ∈ news)
    (h : ∀ q h' tk, Fr h₀ L h' m → News h₀ L h' ((q, wrapObj "method-wrapper" "list.__init__" row) :: news) → (∀ p ∈ news, p.1 ≠ q) → Q (.ref q, []) { s with heap := h', toks := tk }) :
    wpAny (model Challenge.rw_pe0060_01.row.prog w) A (getMethod (.ref so) (Str.ofString "__init__") pl) Q E s := by
  have X := X₀.keeps F.keep
  have I := inst_row N hr hdx
  have hne : row ≠ 145 := ks_ne X I (cd := _) rfl
  obtain ⟨hp, g, d, t, os⟩ := s
  have hC : Looks (model Challenge.rw_pe0060_01.row.prog w) hp (mroOf (.ref 145)) [.ref 145, .type "list", .type "object"] := (looks_clsIn X (cd := _) rfl).andThen .now
  refine super_bi (N _ hso).1 (looks_opaque X rfl) hC rfl X (by rfl) (by rfl) (by rfl) hne (by decide) fun A' E' => ?_
  refine get_init X (N _ hr).1 fun v h' t' nw D ⟨q, e1, e2⟩ => ?_
  subst e1 e2
  obtain ⟨F', N', ne⟩ := one_new F N D
  exact ⟨_, rfl, h q h' t' F' N' ne⟩
theorem call_len_K {Q : Value → Shared → Prop} (F : Fr h₀ L s.heap m) (X₀ : (hd.heap_39 w.params).In h₀) (N : News h₀ L s.heap news) (hq : (q, wrapObj "method-wrapper" "list.__len__" row) ∈ news) (hr : (row, rowObj items n dx) ∈ news)
    (h : ∀ t h' tk, Fr h₀ L h' m → News h₀ L h' news → Q (.int items.size t) { s with heap := h', toks := tk }) :
    wpAny (model Challenge.rw_pe0060_01.row.prog w) A (call (.ref q) []) Q E s := by
  refine call_len (X₀.keeps F.keep) (N _ hr).1 (N _ hq).1 fun v h' t' nw D ⟨t, e⟩ => ?_
  subst e
  obtain ⟨F', N'⟩ := mem_keeps F N D
  exact h t h' t' F' N'
theorem callWith_q {pos : Pos} {cls id : String} {env : Env} {Q : Value → Shared → Prop} {prog : Program} (N : News h₀ L s.heap news) (hq : (q, wrapObj cls id row) ∈ news)
    (hk : (Value.type cls == Value.type "builtin_function_or_method" || Value.type cls == Value.type "method-wrapper") = true) (hk' : (Value.type cls != Value.type "method") = true)
    (h : wpAny (model prog w) A (call (.ref q) []) Q E s) : wpAny (model prog w) A (callWith pos (.ref q) [] (backTo pos (starEach [] env)) []) Q E s := by
  have ho := (N _ hq).1
  show wpAny _ _ (callWith pos (.ref q) [] [] []) _ _ _
  unfold callWith
  refine wpAny_bind (wpAny_holding ?_)
  show wpAny _ _ (pure (Args.mk [] [])) _ _ _
  refine wpAny_pure (wpAny_bind (wpAny_standAt ?_))
  refine wpAny_bind (m := keeperOf (.ref q)) ?_
  unfold keeperOf
  refine wpAny_bind (wpAny_load ho ?_)
  dsimp only
  rw [if_pos hk', if_pos hk]
  refine wpAny_pure ?_
  exact wpAny_bind (wpAny_mono h (fun r s₂ hr => wpAny_bind (wpAny_holding (wpAny_point (wpAny_pure hr)))) fun _ _ x => x)
theorem pop_boundK {prog : Program} {x : Value} {Q : Value → Shared → Prop} (F : Fr h₀ L s.heap m) (X : (hd.heap_39 w.params).In h₀) (N : News h₀ L s.heap news) (U : Upd row (rowObj (items.push x) n dx) (rowObj items (n + 1) dx) news news')
    (hd : (dx, od) ∈ news) (hq : (q, wrapObj "builtin_function_or_method" "list.pop" row) ∈ news)
    (h : ∀ h', Fr h₀ L h' m → News h₀ L h' news' → Q x { s with heap := h' }) (hsz : items.size ≤ 1000) : wpAny (model prog w) A (call (.ref q) []) Q E s := pop_bound F X N U hd (N _ hq).1 h hsz
end
end Mine
end
section
open PySem PySem.W PyProof.Rows
namespace Mine
theorem fresh6 : True ∧ True := by
  k_with_none
  first | (walk1; fail) | (w_top off; exact ⟨trivial, trivial⟩)
end Mine
end
section
open PySem PySem.W PySem.W.X PyProof.Rows PySem.Calls
namespace Mine
set_option maxRecDepth 100000
set_option maxHeartbeats 8000000
section
variable {w : World} {p : Program} {loose : List Str} {mean : ExcName → Option Value} {mg mb : Str → Option Value}
   {cn : Str} {nms : List (Str × NameKind)} {ig ic : Bool} {mr : List (Str × Const)} {a : Addr} {ccd : Value} {cl : List (Str × Addr)} {H : Heap} {L : Addr} {m : Str → Option Value} {s : Shared} {Q E : Value → Shared → Prop} {news : List (Addr × Obj)}
   {row dx : Addr} {items : Array Value} {n : Nat} {size : Int} {tk₀ tk₁ : Tok}
theorem words3 : True := by
  k_with_none
  k_with "k_inst" => (refine' inst_row ?N ?h1 ?h2; (case N => k_asm); (case h1 => k_mem); (case h2 => k_mem))
  k_with "k_all" => with_reducible assumption
  k_with "getMethod ref" => (k_here; k_dflt (refine' method_own ?k1 ?k2 ?k3 ?k4 ?k5 ?k6 ?k7 ?k8 ?k9 ?_; (case k1 => k_in); (case k2 => k_inst); (case k3 => k_is); (case k4 => decide +kernel); (case k5 => k_is); (case k6 => k_is); (case k7 => k_is); (case k8 => decide +kernel); (case k9 => rfl); k_whole))
  k_with "getMethod ref" => (k_here; k_dflt ((first | refine' super_len_K ?k1 ?k2 ?k3 ?k4 ?k5 ?k6 ?_ | refine' super_pop_K ?k1 ?k2 ?k3 ?k4 ?k5 ?k6 ?_ | refine' super_init_K ?k1 ?k2 ?k3 ?k4 ?k5 ?k6 ?_); (case k1 => k_asm); (case k2 => k_asm); (case k3 => k_asm); (case k4 => k_mem); (case k5 => k_mem); (case k6 => k_mem); k_whole); intro q' h' tk' F' N' ne'; (replace ne' := gnNe_of ne'); (simp only [GnNe] at ne'); (try k_sweep))
  k_with "call ref" => (k_here; k_dflt (refine' call_len_K ?k1 ?k2 ?k3 ?k4 ?k5 ?_; (case k1 => k_asm); (case k2 => k_asm); (case k3 => k_asm); (case k4 => k_mem); (case k5 => k_mem); k_whole); intro t' h' tk' F' N'; (try k_sweep))
  k_with "callWith ref" => (k_here; k_dflt (refine' callWith_q ?k1 ?k2 ?k3 ?k4 ?_; (case k1 => k_asm); (case k2 => k_mem); (case k3 => decide); (case k4 => decide); k_whole))
  k_with "wpAt" => dsimp only
  k_with "call ref" => (k_here; k_dflt (refine' pop_boundK ?k1 ?k2 ?k3 ?k4 ?k5 ?k6 ?_ ?z; (case k1 => k_asm); (case k2 => k_asm); (case k3 => k_asm); (case k6 => k_mem); (case k4 => k_upd); (case k5 => k_mem); (case z => omega); k_whole); intro h' F' N'; (try k_sweep))
  trivial
theorem pc_c (F : Fr H L s.heap m) (X : (hd.heap_39 w.params).In H) (N : News H L s.heap ((row, rowObj items n dx) :: (dx, dictOf [dEnt w.params size tk₀ tk₁] 1) :: news))
   (T : Top p loose mean mg mb H) (hne : @Ne Nat row dx) (hnw : ∀ p ∈ news, p.1 ≠ row) (hsz : items.size ≤ 100)
   (hret : ∀ h' tk t, Fr H L h' m → News H L h' ((row, rowObj items n dx) :: (dx, dictOf [dEnt w.params size tk₀ tk₁] 1) :: news) → Q (.int items.size t) { s with heap := h', toks := tk }) :
   wpAny (model Challenge.rw_pe0060_01.row.prog w) (callerA.deeper (envX cn (Scope.mk .function nms ig ic mr) L a ccd cl)) (call (.ref 142) [.ref row]) Q E s := by
  revert X
  k_fill
  intro X
  have B := below_caller H
  k_steps
  rename_i kF kN _ _
  exact hret _ _ _ kF fun p hp => kN p (.tail _ (.tail _ hp))
theorem pc_c2 {e1 : Env} {base : Heap} (B : Below (callerA.deeper e1) base [e1] H) (F : Fr H L s.heap m) (X : (hd.heap_39 w.params).In H) (N : News H L s.heap ((row, rowObj items n dx) :: (dx, dictOf [dEnt w.params size tk₀ tk₁] 1) :: news))
   (T : Top p loose mean mg mb H) (hne : @Ne Nat row dx) (hnw : ∀ p ∈ news, p.1 ≠ row) (hsz : items.size ≤ 100)
   (hret : ∀ h' tk t, Fr H L h' m → News H L h' ((row, rowObj items n dx) :: (dx, dictOf [dEnt w.params size tk₀ tk₁] 1) :: news) → Q (.int items.size t) { s with heap := h', toks := tk }) :
   wpAny (model Challenge.rw_pe0060_01.row.prog w) ((callerA.deeper e1).deeper (envX cn (Scope.mk .function nms ig ic mr) L a ccd cl)) (call (.ref 142) [.ref row]) Q E s := by
  revert X
  k_fill
  intro X
  k_steps
  rename_i kF kN _ _
  exact hret _ _ _ kF fun p hp => kN p (.tail _ (.tail _ hp))
theorem words4 : True := by
  k_with_none
  k_with "k_inst" => (refine' inst_row ?N ?h1 ?h2; (case N => k_asm); (case h1 => k_mem); (case h2 => k_mem))
  k_with "k_all" => with_reducible assumption
  k_with "getMethod ref" => (k_here; k_dflt (refine' method_own ?k1 ?k2 ?k3 ?k4 ?k5 ?k6 ?k7 ?k8 ?k9 ?_; (case k1 => k_in); (case k2 => k_inst); (case k3 => k_is); (case k4 => decide +kernel); (case k5 => k_is); (case k6 => k_is); (case k7 => k_is); (case k8 => decide +kernel); (case k9 => rfl); k_whole))
  k_with "getMethod ref" => (k_here; k_dflt ((first | refine' super_len_K ?k1 ?k2 ?k3 ?k4 ?k5 ?k6 ?_ | refine' super_pop_K ?k1 ?k2 ?k3 ?k4 ?k5 ?k6 ?_ | refine' super_init_K ?k1 ?k2 ?k3 ?k4 ?k5 ?k6 ?_); (case k1 => k_asm); (case k2 => k_asm); (case k3 => k_asm); (case k4 => k_mem); (case k5 => k_mem); (case k6 => k_mem); k_whole); intro q' h' tk' F' N' ne'; (replace ne' := gnNe_of ne'); (simp only [GnNe] at ne'); (try k_sweep))
  k_with "call ref" => (k_here; k_dflt (refine' call_len_K ?k1 ?k2 ?k3 ?k4 ?k5 ?_; (case k1 => k_asm); (case k2 => k_asm); (case k3 => k_asm); (case k4 => k_mem); (case k5 => k_mem); k_whole); intro t' h' tk' F' N'; (try k_sweep))
  k_with "callWith ref" => (k_here; k_dflt (refine' callWith_q ?k1 ?k2 ?k3 ?k4 ?_; (case k1 => k_asm); (case k2 => k_mem); (case k3 => decide); (case k4 => decide); k_whole))
  k_with "wpAt" => dsimp only
  k_with "call ref" => (k_here; k_dflt (refine' pop_boundK ?k1 ?k2 ?k3 ?k4 ?k5 ?k6 ?_ ?z; (case k1 => k_asm); (case k2 => k_asm); (case k3 => k_asm); (case k6 => k_mem); (case k4 => k_upd); (case k5 => k_mem); (case z => omega); k_whole); intro h' F' N'; (try k_sweep))
  k_with "call ref" => (k_here; k_dflt (refine' pc_c2 ?k1 ?k2 ?k3 ?k4 ?k5 ?k6 ?k7 ?k8 ?_; (case k1 => k_asm); (case k2 => k_asm); (case k3 => k_asm); (case k4 => k_asm); (case k5 => k_asm); (case k6 => k_asm); (case k7 => k_asm); (case k8 => (simp only [Array.size_push]; omega)); k_whole); intro h' tk' t' F' N'; (try k_sweep))
  trivial
theorem pop_c (F : Fr H L s.heap m) (X : (hd.heap_39 w.params).In H) {x : Value} (N : News H L s.heap ((row, rowObj (items.push x) n dx) :: (dx, dictOf [dEnt w.params size tk₀ tk₁] 1) :: news))
   (T : Top p loose mean mg mb H) (hne : @Ne Nat row dx) (hnw : ∀ p ∈ news, p.1 ≠ row) (hsz : items.size ≤ 90)
   (hret : ∀ h' tk, Fr H L h' m → News H L h' ((row, rowObj items (n + 1) dx) :: (dx, dictOf [dEnt w.params size tk₀ tk₁] 1) :: news) → Q x { s with heap := h', toks := tk }) :
   wpAny (model Challenge.rw_pe0060_01.row.prog w) (callerA.deeper (envX cn (Scope.mk .function nms ig ic mr) L a ccd cl)) (call (.ref 105) [.ref row]) Q E s := by
  revert X
  k_fill
  intro X
  have B := below_caller H
  repeat' (first | (k_unfold; (try dsimp only)) | ((fail_if_success ks_step "eval Call"); walk1) | ((fail_if_success ks_step "eval Call"); dsimp only; walk1))
  · rename_i hz _ _ _ _ _ _ _ _ _ _ _ _ _ _
    exfalso
    simp only [Array.size_push] at *
    omega
  · refine ks_wpAt_MethodCall ?_
    k_steps
    rename_i kF kN _ _
    exact hret _ _ kF fun p hp => kN p (.tail _ (.tail _ hp))
end
end Mine
end
section
open PySem PySem.W PyProof.Rows
namespace Mine
theorem fresh7 : True ∧ True := by
  k_with_none
  first | (walk1; fail) | (w_top off; exact ⟨trivial, trivial⟩)
end Mine
end
section
open PySem PySem.W PySem.W.X PyProof.Rows PySem.Calls
namespace Mine
set_option maxRecDepth 100000
set_option maxHeartbeats 8000000
section
variable {w : World} {p : Program} {loose : List Str} {mean : ExcName → Option Value} {mg mb : Str → Option Value}
   {cn : Str} {nms : List (Str × NameKind)} {ig ic : Bool} {mr : List (Str × Const)} {a : Addr} {ccd : Value} {cl : List (Str × Addr)} {H : Heap} {L : Addr} {m : Str → Option Value} {s : Shared} {Q E : Value → Shared → Prop} {news : List (Addr × Obj)}
   {row dx : Addr} {items : Array Value} {n : Nat} {size : Int} {tk₀ tk₁ : Tok}
theorem words5 : True := by
  k_with_none
  k_with "k_inst" => (refine' inst_row ?N ?h1 ?h2; (case N => k_asm); (case h1 => k_mem); (case h2 => k_mem))
  k_with "k_all" => with_reducible assumption
  k_with "getMethod ref" => (k_here; k_dflt (refine' method_own ?k1 ?k2 ?k3 ?k4 ?k5 ?k6 ?k7 ?k8 ?k9 ?_; (case k1 => k_in); (case k2 => k_inst); (case k3 => k_is); (case k4 => decide +kernel); (case k5 => k_is); (case k6 => k_is); (case k7 => k_is); (case k8 => decide +kernel); (case k9 => rfl); k_whole))
  k_with "getMethod ref" => (k_here; k_dflt ((first | refine' super_len_K ?k1 ?k2 ?k3 ?k4 ?k5 ?k6 ?_ | refine' super_pop_K ?k1 ?k2 ?k3 ?k4 ?k5 ?k6 ?_ | refine' super_init_K ?k1 ?k2 ?k3 ?k4 ?k5 ?k6 ?_); (case k1 => k_asm); (case k2 => k_asm); (case k3 => k_asm); (case k4 => k_mem); (case k5 => k_mem); (case k6 => k_mem); k_whole); intro q' h' tk' F' N' ne'; (replace ne' := gnNe_of ne'); (simp only [GnNe] at ne'); (try k_sweep))
  k_with "call ref" => (k_here; k_dflt (refine' call_len_K ?k1 ?k2 ?k3 ?k4 ?k5 ?_; (case k1 => k_asm); (case k2 => k_asm); (case k3 => k_asm); (case k4 => k_mem); (case k5 => k_mem); k_whole); intro t' h' tk' F' N'; (try k_sweep))
  k_with "callWith ref" => (k_here; k_dflt (refine' callWith_q ?k1 ?k2 ?k3 ?k4 ?_; (case k1 => k_asm); (case k2 => k_mem); (case k3 => decide); (case k4 => decide); k_whole))
  k_with "wpAt" => dsimp only
  k_with "call ref" => (k_here; k_dflt (refine' pop_boundK ?k1 ?k2 ?k3 ?k4 ?k5 ?k6 ?_ ?z; (case k1 => k_asm); (case k2 => k_asm); (case k3 => k_asm); (case k6 => k_mem); (case k4 => k_upd); (case k5 => k_mem); (case z => omega); k_whole); intro h' F' N'; (try k_sweep))
  k_with "call ref" => (k_here; k_dflt (refine' pc_c2 ?k1 ?k2 ?k3 ?k4 ?k5 ?k6 ?k7 ?k8 ?_; (case k1 => k_asm); (case k2 => k_asm); (case k3 => k_asm); (case k4 => k_asm); (case k5 => k_asm); (case k6 => k_asm); (case k7 => k_asm); (case k8 => ((try simp only [Array.size_push]); first | omega | decide)); k_whole); intro h' tk' t' F' N'; (try k_sweep))
  trivial
theorem pop0_c (F : Fr H L s.heap m) (X : (hd.heap_39 w.params).In H) (N : News H L s.heap ((row, rowObj #[] n dx) :: (dx, dictOf [dEnt w.params size tk₀ tk₁] 1) :: news))
   (T : Top p loose mean mg mb H) (hne : @Ne Nat row dx) (hnw : ∀ p ∈ news, p.1 ≠ row)
   (hret : ∀ h' tk T t1 t2, Fr H L h' m → News H L h' ((T, tupObj (.str (Str.ofString "") t1) (.str (Str.ofString "") t2)) :: (row, rowObj #[] n dx) :: (dx, dictOf [dEnt w.params size tk₀ tk₁] 1) :: news) → Q (.ref T) { s with heap := h', toks := tk }) :
   wpAny (model Challenge.rw_pe0060_01.row.prog w) (callerA.deeper (envX cn (Scope.mk .function nms ig ic mr) L a ccd cl)) (call (.ref 105) [.ref row]) Q E s := by
  revert X
  k_fill
  intro X
  have B := below_caller H
  have hsz : (#[] : Array Value).size ≤ 90 := by decide
  repeat' (first | (k_unfold; (try dsimp only)) | ((fail_if_success ks_step "eval Call"); walk1) | ((fail_if_success ks_step "eval Call"); dsimp only; walk1))
  exact hret _ _ _ _ _ (by k_asm) (by k_asm)
end
end Mine
end
section
open PySem PySem.W PyProof.Rows
namespace Mine
theorem fresh8 : True ∧ True := by
  k_with_none
  first | (walk1; fail) | (w_top off; exact ⟨trivial, trivial⟩)
end Mine
end
section
open PySem PySem.W PySem.W.X PyProof.Rows PySem.Calls
namespace Mine
set_option maxRecDepth 100000
set_option maxHeartbeats 4000000
section
variable {prog : Program} {w : World} {A : Around} {E : Value → Shared → Prop} {s : Shared} {it row dx : Addr} {items : Array Value} {n i : Nat}
theorem row_next {x : Value} {Q : Option Value → Shared → Prop} (hit : s.heap.IsListIter it row i) (hr : s.heap.get? row = some (rowObj items n dx)) (hx : items[i]? = some x)
    (hQ : ∀ h', h'.IsListIter it row (i + 1) → Heap.SameBut it s.heap h' → Q (some x) { s with heap := h' }) : wpAny (model prog w) A (pyNext (.ref it)) Q E s := by
  have hT := hit.typeIs
  obtain ⟨o, ho, hc, hd⟩ := hit
  obtain ⟨oc, od, oda, osl⟩ := o
  dsimp only at hc hd
  subst hc hd
  refine wpAny_bind (wpAny_attempt (wpAny_callSpecial?_slot (name := Str.ofString "__next__") hT slot_listiter_next (wpAny_call_entry slot_listiter_next hT entry_listiter_next ?_ (args_listiter_next _))))
  obtain ⟨hp, g, d, t, os⟩ := s
  dsimp only at ho hr
  unfold Builtin.«list_iterator.__next__»
  repeat lk
  rw [Int.toNat_natCast, hx]
  refine wpAny_bind (wpAny_setField ho rfl (by simp) (wpAny_pure ⟨x, rfl, wpAny_pure (hQ _ ⟨_, Heap.get?_update_self _ ho rfl, rfl, ?_⟩ (Heap.SameBut.update ..))⟩))
  simp [Obj.mapFields, rawInt]
theorem row_end {Q : Option Value → Shared → Prop} (hh : A.handled = none) (hit : s.heap.IsListIter it row i) (hr : s.heap.get? row = some (rowObj items n dx)) (hx : items[i]? = none)
    (hQ : ∀ h', Heap.ExtBut it s.heap h' → Q none { s with heap := h' }) : wpAny (model prog w) A (pyNext (.ref it)) Q E s := by
  have hT := hit.typeIs
  obtain ⟨o, ho, hc, hd⟩ := hit
  obtain ⟨oc, od, oda, osl⟩ := o
  dsimp only at hc hd
  subst hc hd
  refine wpAny_bind (wpAny_attempt (wpAny_callSpecial?_slot (name := Str.ofString "__next__") hT slot_listiter_next (wpAny_call_entry slot_listiter_next hT entry_listiter_next ?_ (args_listiter_next _))))
  obtain ⟨hp, g, d, t, os⟩ := s
  dsimp only at ho hr
  unfold Builtin.«list_iterator.__next__»
  repeat lk
  rw [Int.toNat_natCast, hx]
  refine wpAny_bind (wpAny_rule (wpAny_bind (wpAny_setField ho rfl (by simp) ?_)))
  unfold Builtin.SmallTypes.stopIteration
  repeat lk
  refine wpAny_handled ?_
  rw [show A.in1.handled = none from hh]
  refine wpAny_throw ?_
  refine wpAny_bind (wpAny_isInstance (T := "StopIteration") (b := true) ⟨_, Heap.get?_push_size _ rfl, rfl⟩ isSubtype_stop ?_)
  exact wpAny_pure (hQ _ (((Heap.SameBut.update ..).extBut.push _).push _))
theorem row_iter {oi : Option Obj} {Q : Value → Shared → Prop} (X : (hd.heap_39 w.params).In s.heap) (I : InstAt s.heap row (rowObj items n dx) 145 oi)
    (hQ : Q (.ref s.heap.objs.size) { s with heap := s.heap.push { cls := .type "list_iterator", data := .fields #[.ref row, .int 0 0] } }) :
    wpAny (model prog w) A (pyIter (.ref row)) Q E s := by
  have l1 := I.type (M := model prog w)
  have l2 : Looks (model prog w) s.heap (typeLookup (.ref 145) (Str.ofString "__iter__")) (some (.builtin "list.__iter__")) := looks_findIn X (by rfl)
  have sub := sub_list (M := model prog w) X I
  have cal : wpAny (model prog w) A (call (.builtin "list.__iter__") [.ref row]) (fun it s' => it = .ref s.heap.objs.size ∧ s' = { s with heap := s.heap.push { cls := .type "list_iterator", data := .fields #[.ref row, .int 0 0] } }) E s := by
    refine wpAny_call (codeAny_call_builtin (by decide +kernel) entry_list_iter (check_slot (by decide +kernel) (by decide +kernel : splitId "list.__iter__" = some ("list", "__iter__")) sub (args_list_iter _) ?_))
    show wpAny _ _ (do ret (← newFields "list_iterator" [.ref row, rawInt 0])) _ _ s
    exact wpAny_bind (wpAny_newObj_type (wpAny_pure ⟨rfl, rfl⟩))
  have bnd := slot_list_iter.bind (.ref row)
  unfold pyIter specialOf
  refine wpAny_bind (wpAny_bind (l1.here (l2.here ?_)))
  show wpAny _ _ (callSpecialIfBoundUnlessNone? (.ref row) "__iter__" _ >>= _) _ _ _
  have bl : wpAny (model prog w) A (bindSpecialIfBound? (.ref row) "__iter__") (fun r s' => r = some (.builtin "list.__iter__", [.ref row]) ∧ s' = s) E s := by
    unfold bindSpecialIfBound? specialOf
    refine wpAny_bind (wpAny_bind (l1.here (l2.here ?_)))
    dsimp only
    rw [bnd]
    refine wpAny_bind (wpAny_askSetting ?_)
    split
    · exact wpAny_pure ⟨rfl, rfl⟩
    · exact wpAny_pure ⟨rfl, rfl⟩
  unfold callSpecialIfBoundUnlessNone?
  refine wpAny_bind (wpAny_holding (wpAny_bind (wpAny_mono bl (fun r s' e => ?_) fun _ _ e => e)))
  obtain ⟨rfl, rfl⟩ := e
  show wpAny _ _ (call (.builtin "list.__iter__") [.ref row] >>= fun v => pure (some v)) _ _ _
  refine wpAny_bind (wpAny_mono cal (fun r s' e => ?_) fun _ _ e => e)
  obtain ⟨rfl, rfl⟩ := e
  refine wpAny_pure ?_
  dsimp only
  have hT : ({ s' with heap := s'.heap.push { cls := .type "list_iterator", data := .fields #[.ref row, .int 0 0] } } : Shared).TypeIs (.ref s'.heap.objs.size) "list_iterator" := ⟨_, Heap.get?_push_size _ rfl, rfl⟩
  exact wpAny_bind (wpAny_specialOf hT slot_listiter_next.lookup (wpAny_pure hQ))
/-- the row's own iterator, its items pairs -/
theorem walks_row (hh : A.handled = none) (hne : row ≠ it) (Ts : Nat → Addr) (vals : Nat → Array Value)
    (hits : ∀ j, j < items.size → items[j]? = some (.ref (Ts j))) (hTI : ∀ j, j < items.size → Ts j ≠ it) :
    WalksU prog w A it (it :: row :: (List.range items.size).map Ts) [it] items.size (fun j v => j < items.size ∧ v = vals j)
      (fun j h => h.IsListIter it row j ∧ h.get? row = some (rowObj items n dx) ∧ ∀ k, k < items.size → h.IsTuple (Ts k) (vals k))
      (fun j T h => (j < items.size ∧ T = Ts j) ∧ h.IsListIter it row (j + 1) ∧ h.get? row = some (rowObj items n dx) ∧ ∀ k, k < items.size → h.IsTuple (Ts k) (vals k)) := by
  refine ⟨fun b hb => ?_, fun i h h' st hk => ⟨st.1.at fun o e => hk it (by simp) o e, hk row (by simp) _ st.2.1, fun k hk' => (st.2.2 k hk').at fun o e => ?_⟩, fun i s Q E hi st hQ => ?_, fun _ _ _ _ _ s Q _ hm hQ => ?_, fun j T _ hm hmem => ?_, fun s Q E st hQ => ?_, fun _ _ _ _ st hQ => wpAny_pyIter_listiter st.1 hQ⟩
  · obtain rfl : b = it := by simpa using hb
    simp
  · exact hk _ (List.mem_cons_of_mem _ (List.mem_cons_of_mem _ (List.mem_map.mpr ⟨k, List.mem_range.mpr hk', rfl⟩))) o e
  · refine row_next st.1 st.2.1 (hits i hi) fun h' hit' hs' => ?_
    have tup : ∀ k, k < items.size → h'.IsTuple (Ts k) (vals k) := fun k hk' => (st.2.2 k hk').extBut hs'.extBut (hTI k hk')
    exact hQ (Ts i) (vals i) h' s.toks ⟨hi, rfl⟩ (tup i hi) ⟨⟨hi, rfl⟩, hit', hs'.extBut _ _ hne st.2.1, tup⟩ fun b o hb e => hs'.extBut b o (fun z => hb (by simp [z])) e
  · exact wpAny_letOwnedTupleGo_listiter hm.2.1 (hQ s.heap hm.2 fun _ _ _ e => e)
  · obtain rfl : T = it := by simpa using hmem
    exact hTI j hm.1.1 hm.1.2.symm
  · exact row_end hh st.1 st.2.1 (by simp) fun h' he' => hQ h' s.toks fun b o hb e => he' b o (fun z => hb (by simp [z])) e
end
end Mine
end
section
open PySem PySem.W PyProof.Rows
namespace Mine
theorem fresh9 : True ∧ True := by
  k_with_none
  first | (walk1; fail) | (w_top off; exact ⟨trivial, trivial⟩)
end Mine
end
section
open PySem PySem.W PySem.W.X PyProof.Rows PySem.Calls
namespace Mine
set_option maxRecDepth 100000
set_option maxHeartbeats 4000000
noncomputable abbrev tabObj (ps : Array Value) : Obj := { cls := .none, data := .fields ps }
/-- a code table of ours: untouched, or with the one generator's code -/
noncomputable def TabOk (ln cl : Int) (ps : Array Value) : Prop := ps = #[] ∨ ∃ c : Addr, ps = #[rawInt ln, rawInt cl, .ref c]
section
variable {w : World} {A : Around} {E : Value → Shared → Prop} {s : Shared} {h₀ : Heap} {L f c P row dx : Addr} {m mg mb : Str → Option Value} {items : Array Value} {n : Nat} {oi : Option Obj} {ps : Array Value}
  {p : Program} {loose : List Str} {mean : ExcName → Option Value} {q xa xb : Str} {sc gsc : Scope} {elt : Expr} {pa pb pt pi pos : Pos} {kt : Nat} {Q : Value → Shared → Prop}
theorem gen_row (F : Fr h₀ L s.heap m) (X₀ : (hd.heap_39 w.params).In h₀) (T : Top p loose mean mg mb h₀) (hg : AllBare s.gens) (I : InstAt s.heap row (rowObj items n dx) 145 oi) (hm : m (Str.ofString "self") = some (.ref row))
    (hs : sc.kind = .function) (hsl : sc.names.lookup (Str.ofString "self") = some .local)
    (hh : A.handled = none) (hco : gsc.isCoroutine = false) (hclos : closureFor gsc (envOf q sc L f (.ref c)) = pure []) (hcell : ∀ y ∈ gsc.names, y.2 ≠ .cell) (h0 : gsc.names.lookup (".0" : Str) = some NameKind.local)
    (hxa : gsc.names.lookup xa = some .local) (hxb : gsc.names.lookup xb = some .local) (hab : xa ≠ xb) (hkind : gsc.kind = .function) (hroom : A.depth < recursionLimit)
    (hc : s.heap.IsCode c P ps) (ht : s.heap.TableAt c P ps) (hps : TabOk pos.line pos.col ps) (hPr : P ≠ row) (hP0 : h₀.get? P = none) (hPst : P ≠ cStatics)
    (Ts : Nat → Addr) (va vb : Nat → Value) (hits : ∀ j, j < items.size → items[j]? = some (.ref (Ts j))) (htup : ∀ j, j < items.size → s.heap.IsTuple (Ts j) #[va j, vb j]) (hPT : ∀ j, j < items.size → Ts j ≠ P)
    (G : Nat → Value → Prop)
    (helt : ∀ (A' : Around) (E' : Value → Shared → Prop) (i : Nat) (C : Addr) (code : Value) (s₂ : Shared) (m₂ : Str → Option Value), A'.handled = none → A'.depth ≤ A.depth + 1 → A'.units ≤ A.units + 8 → i < items.size → Fr h₀ C s₂.heap m₂ → m₂ xa = some (va i) → m₂ xb = some (vb i) →
      wpAny (model Challenge.rw_pe0060_01.row.prog w) A' (eval elt (genEnv gsc [] C code builtinsNs (envOf q sc L f (.ref c)))) (fun y s₃ => G i y ∧ Keeps s₂ s₃) E' s₂)
    (hQ : ∀ (a K : Addr) (s₅ : Shared) ps', L ≤ K → (∀ b, b < s.heap.objs.size → b ≤ K) → (∀ b o, b ≠ P → s.heap.get? b = some o → s₅.heap.get? b = some o) → s₅.heap.TableAt c P ps' → s₅.heap.IsCode c P ps' → TabOk pos.line pos.col ps' → AllBare s₅.gens → s₅.os = s.os → s₅.drawn = s.drawn →
      Gen Challenge.rw_pe0060_01.row.prog w A K a items.size G s₅ → Q (.ref a) s₅) :
    wpAny (model Challenge.rw_pe0060_01.row.prog w) A (eval (.GeneratorExp elt [⟨.Tuple [.Name xa pa, .Name xb pb] kt pt, .Name (Str.ofString "self") pi, [], 0⟩] gsc pos) (envOf q sc L f (.ref c))) Q E s := by
  refine wpAny_GeneratorExp_walksQTD (cl := []) hh hco hclos hcell h0 hxa hxb hab hkind hroom ?_ (fun x => rfl)
  refine ld F hm ?_ hs hsl
  have hlim := T.nolimit.keeps F.keep
  refine row_iter (X₀.keeps F.keep) I ?_
  have k1 : ∀ b o, s.heap.get? b = some o → (s.heap.push { cls := .type "list_iterator", data := .fields #[.ref row, .int 0 0] }).get? b = some o := fun b o e => Heap.get?_push_of_some _ e
  refine ⟨hlim.keeps k1, ?_⟩
  obtain ⟨oL, _, _, hoL, _⟩ := F.ns
  have hLs : L < s.heap.objs.size := Heap.lt_size hoL
  have hcode : (s.heap.push { cls := .type "list_iterator", data := .fields #[.ref row, .int 0 0] }).IsCode c P ps := let ⟨o, vs, file, tf, fl, tg, inF, tx, tt, op, e1, e2, e3, e4, e5, e6, e7, e8, e9⟩ := hc; ⟨o, vs, file, tf, fl, tg, inF, tx, tt, op, k1 _ _ e1, e2, e3, e4, e5, e6, e7, k1 _ _ e8, e9⟩
  have htab : (s.heap.push { cls := .type "list_iterator", data := .fields #[.ref row, .int 0 0] }).TableAt c P ps := let ⟨⟨o, vs, e1, e2⟩, e3⟩ := ht; ⟨⟨o, vs, k1 _ _ e1, e2⟩, k1 _ _ e3⟩
  have fin : ∀ (code : Value) (h₃ : Heap) (tk : Nat) (ps' : Array Value), (∀ b o, b ≠ P → (s.heap.push { cls := .type "list_iterator", data := .fields #[.ref row, .int 0 0] }).get? b = some o → h₃.get? b = some o) → h₃.IsCode c P ps' → h₃.TableAt c P ps' → TabOk pos.line pos.col ps' →
      wpAny (model Challenge.rw_pe0060_01.row.prog w) A (builtinsFor (envOf q sc L f (.ref c)).globals (envOf q sc L f (.ref c)).builtins) (fun bi s₄ =>
        ∃ I fp wr n₀ Pt St₀ Mid pz F, Value.ref s.heap.objs.size = .ref I ∧ (∀ A' : Around, A'.handled = none → WalksU Challenge.rw_pe0060_01.row.prog w A' I fp wr n₀ Pt St₀ Mid) ∧ (∀ i vals, Pt i vals → ∃ va vb, vals = #[va, vb]) ∧ St₀ 0 s₄.heap ∧ (∀ b ∈ fp, b < s₄.heap.objs.size) ∧ s₄.heap.NoLimit ∧ cStatics ∉ wr ∧
          (∀ href : Heap, (∀ b o, s₄.heap.get? b = some o → href.get? b = some o) →
            QuietGenTD Challenge.rw_pe0060_01.row.prog w (genEnv gsc [] s₄.heap.objs.size code bi (envOf q sc L f (.ref c))) xa xb [] elt (List.range s₄.heap.objs.size) wr Pt pz F href (A.depth + 1) (A.units + 8)) ∧
          (∀ a h₅ tk gs, gs.bare = true → s₄.heap.objs.size < a → h₅.objs.size = a + 1 → (∀ b o, s₄.heap.get? b = some o → h₅.get? b = some o) →
            WalksS Challenge.rw_pe0060_01.row.prog w A.in4 a (a :: s₄.heap.objs.size :: List.range s₄.heap.objs.size) (s₄.heap.objs.size :: wr) (GenOnlyQ s₄.gens.size) (passing pz n₀ 0).length
              (fun j y => ∃ i, (passing pz n₀ 0)[j]? = some i ∧ F i y) (GenAt Challenge.rw_pe0060_01.row.prog w A.in4 a s₄.gens.size s₄.heap.objs.size (List.range s₄.heap.objs.size) wr pz n₀ F) →
            GenAt Challenge.rw_pe0060_01.row.prog w A.in4 a s₄.gens.size s₄.heap.objs.size (List.range s₄.heap.objs.size) wr pz n₀ F 0 { s₄ with gens := s₄.gens.push gs, toks := tk, heap := h₅ } →
            Q (.ref a) { s₄ with gens := s₄.gens.push gs, toks := tk, heap := h₅ })) E { s with heap := h₃, toks := tk } := by
    intro code h₃ tk ps' k3 hc3 ht3 hps3
    have k03 : ∀ b o, h₀.get? b = some o → h₃.get? b = some o := fun b o e => k3 b o (fun z => by rw [z, hP0] at e; cases e) (k1 b o (F.keep b o e))
    have ks3 : ∀ b o, b ≠ P → s.heap.get? b = some o → h₃.get? b = some o := fun b o hb e => k3 b o hb (k1 b o e)
    obtain ⟨bm, ob, e1, e2, e3, e4, e5, e6⟩ := T.bmain
    refine wpAny_builtinsFor (m := mg) (T.g.keeps k03) e1 e2 (k03 _ _ e3) e4 e5 e6 ?_
    have hit3 : h₃.get? s.heap.objs.size = some { cls := .type "list_iterator", data := .fields #[.ref row, .int 0 0] } := by
      refine k3 _ _ (fun z => ?_) (Heap.get?_push_size _ rfl)
      have := Heap.lt_size ht.2
      rw [← z] at this; exact Nat.lt_irrefl _ this
    have hrow3 := ks3 _ _ (Ne.symm hPr) I.at_
    have hsz3 : s.heap.objs.size < h₃.objs.size := Heap.lt_size hit3
    have hrl : row < s.heap.objs.size := Heap.lt_size I.at_
    have hTl : ∀ j, j < items.size → Ts j < s.heap.objs.size := fun j hj => let ⟨_, e, _⟩ := htup j hj; Heap.lt_size e
    have htup3 : ∀ j, j < items.size → h₃.IsTuple (Ts j) #[va j, vb j] := fun j hj => let ⟨o, e, r⟩ := htup j hj; ⟨o, ks3 _ _ (hPT j hj) e, r⟩
    refine ⟨s.heap.objs.size, _, _, items.size, _, _, _, fun _ => true, G, rfl, fun A' hA => walks_row (n := n) (dx := dx) hA (Nat.ne_of_lt hrl) Ts (fun j => #[va j, vb j]) hits fun j hj => Nat.ne_of_lt (hTl j hj), (fun i vals hv => ⟨_, _, hv.2⟩), ⟨⟨_, hit3, rfl, rfl⟩, hrow3, htup3⟩, ?_, T.nolimit.keeps k03, ?_, ?_, ?_⟩
    · intro b hb
      rcases List.mem_cons.mp hb with rfl | hb
      · exact hsz3
      rcases List.mem_cons.mp hb with rfl | hb
      · exact Nat.lt_trans hrl hsz3
      · obtain ⟨j, hj, rfl⟩ := List.mem_map.mp hb
        exact Nat.lt_trans (hTl j (List.mem_range.mp hj)) hsz3
    · intro hb
      obtain ⟨_, hn, _⟩ := hlim
      have := hn.lt
      rw [List.mem_singleton.mp hb] at this
      exact Nat.lt_irrefl _ this
    · intro href hr
      refine ⟨fun A' E' i va' vb' s₂ m₂ hA hD hU hPt hn2 hma hmb hk => wpAny_pure ⟨rfl, s₂.heap, s₂.toks, rfl, fun _ _ e => e⟩, fun A' E' i va' vb' s₂ m₂ hA hD hU hPt _ hn2 hma hmb hk => ?_⟩
      obtain ⟨hi, e⟩ := hPt
      obtain ⟨ea, eb⟩ : va' = va i ∧ vb' = vb i := by simpa using congrArg Array.toList e
      subst ea eb
      refine helt A' E' i h₃.objs.size code s₂ m₂ hA hD hU hi ⟨hn2, fun b o e => ?_, Nat.le_trans F.above (Nat.le_of_lt (Nat.lt_trans hLs hsz3))⟩ hma hmb
      refine hk b (List.mem_range.mpr (Heap.lt_size (k03 b o e))) (fun hw => ?_) o (hr b o (k03 b o e))
      have := Heap.lt_size (F.keep b o e)
      rw [List.mem_singleton.mp hw] at this
      exact Nat.lt_irrefl _ this
    · intro a h₅ tk₅ gs hgs ha hsz5 k5 W hst
      have ha' : h₃.objs.size < a := ha
      have hLs' : @LT.lt Nat _ L s.heap.objs.size := hLs
      have hsz3' : @LT.lt Nat _ s.heap.objs.size h₃.objs.size := hsz3
      have ha2 : @LT.lt Nat _ h₃.objs.size a := ha
      have hsz5' : @Eq Nat h₅.objs.size (a + 1) := hsz5
      have hpass : passing (fun _ => true) items.size 0 = List.range items.size := by simp [passing]
      rw [hpass, List.length_range] at W
      refine hQ a (s.heap.objs.size - 1) _ ps' (Nat.le_sub_one_of_lt hLs) (fun b e => Nat.le_sub_one_of_lt e) (fun b o hb e => k5 b o (ks3 b o hb e)) (let ⟨⟨o, vs, e1, e2⟩, e3⟩ := ht3; ⟨⟨o, vs, k5 _ _ e1, e2⟩, k5 _ _ e3⟩)
        (let ⟨o, vs, file, tf, fl, tg, inF, tx, tt, op, e1, e2, e3, e4, e5, e6, e7, e8, e9⟩ := hc3; ⟨o, vs, file, tf, fl, tg, inF, tx, tt, op, k5 _ _ e1, e2, e3, e4, e5, e6, e7, k5 _ _ e8, e9⟩) hps3 (hg.push hgs) rfl rfl ?_
      have X : Gen Challenge.rw_pe0060_01.row.prog w A (s.heap.objs.size - 1) a items.size (fun j y => ∃ i, (List.range items.size)[j]? = some i ∧ G i y) { s with heap := h₅, gens := s.gens.push gs, toks := tk₅ } := by
        refine ⟨_, _, _, _, W, hst, fun i s' st => ?_, List.mem_cons_self .., fun b hb => ?_, fun b hb => ?_⟩
        · obtain ⟨o, _, _, e, hcl, _⟩ := st.1
          exact ⟨o, e, hcl⟩
        · show b < h₅.objs.size
          rw [hsz5]
          rcases List.mem_cons.mp hb with rfl | hb
          · exact Nat.lt_succ_self _
          rcases List.mem_cons.mp hb with rfl | hb
          · exact Nat.lt_succ_of_lt ha'
          · exact Nat.lt_succ_of_lt (Nat.lt_trans (List.mem_range.mp hb) ha')
        · rcases List.mem_cons.mp hb with rfl | hb
          · exact Nat.lt_of_le_of_lt (Nat.sub_le _ _) hsz3
          · rw [List.mem_singleton.mp hb]
            exact Nat.sub_lt (Nat.lt_of_le_of_lt (Nat.zero_le _) hLs) Nat.one_pos
      refine X.imp fun j y hy => ?_
      obtain ⟨i, hij, hG⟩ := hy
      rw [List.getElem?_range] at hij
      · cases hij; exact hG
      · by_cases hj : j < items.size
        · exact hj
        · simp [hj] at hij
  rcases hps with rfl | ⟨c', rfl⟩
  · refine wpAny_genexprCodeX rfl hcode htab rfl fun c' h' tk hext _ _ hc' _ ht' _ => fin (.ref c') h' tk _ (fun b o hb e => hext b o hb e) hc' ht' (.inr ⟨c', by simp⟩)
  · refine wpAny_genexprCode_hit (c' := .ref c') rfl hcode ?_ (fin (.ref c') _ _ _ (fun b o _ e => e) hcode htab (.inr ⟨c', rfl⟩))
    simp [codeAmong, rawInt]
end
end Mine
end
section
open PySem PySem.W PyProof.Rows
namespace Mine
theorem fresh10 : True ∧ True := by
  k_with_none
  first | (walk1; fail) | (w_top off; exact ⟨trivial, trivial⟩)
end Mine
end
section
open PySem PySem.W PySem.W.X PyProof.Rows PySem.Calls
namespace Mine
set_option maxRecDepth 100000
set_option maxHeartbeats 4000000
theorem args_sum2 (a b : Value) : argsOk "sum" ⟨[a, b], []⟩ := by unfold argsOk; kernel_rfl
section
variable {prog : Program} {w : World} {A : Around} {E : Value → Shared → Prop} {s : Shared} {I : Addr} {fp wr : List Addr} {G : Array GenState → Array GenState → Prop} {n : Nat} {P : Nat → Value → Prop} {St : Nat → Shared → Prop} {Q : Value → Shared → Prop}
theorem shifted (W : WalksS prog w A I fp wr G n P St) (start : Int) : WalksS prog w A I fp wr G (n + 1) (fun i v => match i with | 0 => ∃ t, v = .int start t | i + 1 => P i v) (fun i s => match i with | 0 => False | i + 1 => St i s) where
  sub := W.sub
  grefl := W.grefl
  gtrans := W.gtrans
  frame := fun i s h' tk st ht hk => by cases i with | zero => exact st | succ i => exact W.frame i s h' tk st ht hk
  item := fun i s Q E hi st hQ => by cases i with | zero => exact st.elim | succ i => exact W.item i s Q E (Nat.lt_of_succ_lt_succ hi) st hQ
  done := fun s Q E st hQ => W.done s Q E st hQ
  self := fun i s Q E st hQ => by cases i with | zero => exact st.elim | succ i => exact W.self i s Q E st hQ
noncomputable def shVal (start : Int) (val : Nat → Int) : Nat → Int
  | 0 => start
  | i + 1 => val i
theorem preSum_sh (start : Int) (val : Nat → Int) : ∀ n, preSum (shVal start val) (n + 1) = start + preSum val n
  | 0 => by simp [preSum, shVal]
  | n + 1 => by rw [preSum, preSum_sh start val n]; simp only [preSum, shVal]; omega
theorem sum_start {x : Value} {start : Int} {tS : Tok} (hstart : InLong start)
    (h : wpAny (model prog w) A.in1 (pyIter x) (fun it s₂ => ∃ I fp wr G n P St val, it = .ref I ∧ WalksS prog w A.in1 I fp wr G n P St ∧ St 0 s₂ ∧ (∀ b ∈ fp, b < s₂.heap.objs.size) ∧
      (∀ i v, P i v → ∃ t, v = .int (val i) t) ∧ (∀ j, j < n → InLong (val j) ∧ InLong (start + preSum val (j + 1))) ∧
      ∀ s' t', Moved wr G s₂ s' → Q (.int (start + preSum val n) t') s') E s) :
    wpAny (model prog w) A (call (.builtin "sum") [x, .int start tS]) Q E s := by
  refine call_function_tree F.kind_sum F.plain_sum F.entry_sum (args_sum2 _ _) ?_
  unfold Builtin.«sum»
  simp only [List.length_cons, List.length_nil]
  rw [if_neg (by decide)]
  refine wpAny_bind (wpAny_of_eq (show Builtin.Builtins.bindParams "sum" ["start"] 0 ⟨[.int start tS], []⟩ = pure [some (.int start tS)] from rfl) ?_)
  refine wpAny_bind (wpAny_mono h (fun it s₂ h₂ => ?_) fun _ _ e => e)
  obtain ⟨I, fp, wr, G, n, P, St, val, rfl, W, hst, hfp, hval, hfit, hQ⟩ := h₂
  have hfl : (decide (-(2 ^ 63) ≤ start) && decide (start < 2 ^ 63)) = true := by
    obtain ⟨f1, f2⟩ := hstart
    simp only [Bool.and_eq_true, decide_eq_true_eq]
    exact ⟨f1, f2⟩
  show wpAny _ A.in1 (if (decide (-(2 ^ 63) ≤ start) && decide (start < 2 ^ 63)) = true then (_ : Sem Fin) else _) _ _ _
  rw [if_pos hfl]
  refine wpAny_bind (wpAny_rule (wpAny_bind (wpAny_mkInt (wpAny_bind (wpAny_pure ?_)))))
  simp only [List.forIn_cons, List.forIn_nil]
  refine wpAny_bind (wpAny_bind (wpAny_bind (wpAny_isInstance (T := "int") (b := false) (typeIs_int _ _ _) PySem.sub_int_str ?_)))
  simp only [Bool.false_eq_true, if_false]
  refine wpAny_pure (wpAny_bind (wpAny_bind (wpAny_isInstance (T := "int") (b := false) (typeIs_int _ _ _) PySem.sub_int_bytes ?_)))
  simp only [Bool.false_eq_true, if_false]
  refine wpAny_pure (wpAny_bind (wpAny_bind (wpAny_isInstance (T := "int") (b := false) (typeIs_int _ _ _) PySem.sub_int_bytearray ?_)))
  simp only [Bool.false_eq_true, if_false]
  refine wpAny_pure (wpAny_pure ?_)
  refine wpAny_bind (wpAny_newObj_type ?_)
  have hSf : s₂.heap.objs.size ∉ fp := fun hm => Nat.lt_irrefl _ (hfp _ hm)
  have e1 : preSum (shVal start val) 1 = start := by simp [preSum, shVal]
  refine wpAny_pure ⟨plainId_quiet F.plain_sum_loop _, codeAny_sum_loopS (shifted W start) (shVal start val) ?_ ?_ s₂.heap.objs.size hSf n 1 _ s₂.toks 0 (by omega) (by omega)
    (W.frame 0 s₂ _ _ hst (by first | exact Nat.le_refl _ | exact Nat.le_succ _ | omega) fun b _ o e => Heap.get?_push_of_some _ e) (by rw [e1]; exact Heap.get?_push_size _ rfl) fun s' t' hm => ?_⟩
  · intro i v hv
    cases i with
    | zero => exact hv
    | succ i => exact hval i v hv
  · intro j hj
    cases j with
    | zero => rw [e1]; exact ⟨hstart, hstart⟩
    | succ j => rw [preSum_sh]; exact hfit j (Nat.lt_of_succ_lt_succ hj)
  · rw [preSum_sh]
    exact hQ s' t' (hm.drop_new (by first | exact Nat.le_refl _ | exact Nat.le_succ _ | omega))
end
section
variable {prog : Program} {w : World} {A : Around} {E : Value → Shared → Prop} {s : Shared} {a K : Addr} {n : Nat} {F : Nat → Value → Prop} {Q : Value → Shared → Prop}
/-- sum over a generator with a start -/
theorem sum_gen (G : AllBare s.gens) (X : Gen prog w A K a n F s) (val : Nat → Int) {start : Int} {tS : Tok} (hstart : InLong start) (hval : ∀ j v, F j v → ∃ t, v = .int (val j) t) (hfit : ∀ j, j < n → InLong (val j) ∧ InLong (start + preSum val (j + 1)))
    (hQ : ∀ s' t', AllBare s'.gens → s'.os = s.os → s'.drawn = s.drawn → (∀ b o, b ≤ K → s.heap.get? b = some o → s'.heap.get? b = some o) → Q (.int (start + preSum val n) t') s') : wpAny (model prog w) A (call (.builtin "sum") [.ref a, .int start tS]) Q E s := by
  obtain ⟨fp, wr, g, St, W, hst, hT, ha, hfp, hwr⟩ := X
  have W := W.in4_1
  exact sum_start hstart (W.self 0 _ _ _ hst ⟨a, _, _, _, _, _, _, val, rfl, W, hst, hfp, hval, hfit, fun s' t' hm => hQ s' t' (G.movedS hm) hm.os hm.drawn fun b o hb e => hm.heap b o (fun hmem => Nat.lt_irrefl _ (Nat.lt_of_lt_of_le (hwr b hmem) hb)) e⟩)
end
end Mine
end
section
open PySem PySem.W PyProof.Rows
namespace Mine
theorem fresh11 : True ∧ True := by
  k_with_none
  first | (walk1; fail) | (w_top off; exact ⟨trivial, trivial⟩)
end Mine
end
section
open PySem PySem.W PySem.W.X PyProof.Rows PySem.Calls
namespace Mine
set_option maxRecDepth 100000
set_option maxHeartbeats 4000000
noncomputable def XSame (h0 : Heap) (Q : Value → Shared → Prop) (P : Value → Prop) (g : Array GenState) (d : Drawn) (os : OsState) : Prop := ∀ v t, P v → Q v ⟨h0, g, d, t, os⟩
theorem XSame.use {h0 : Heap} {Q : Value → Shared → Prop} {P : Value → Prop} {g : Array GenState} {d : Drawn} {os : OsState} (r : XSame h0 Q P g d os) {v t} (p : P v) : Q v ⟨h0, g, d, t, os⟩ := r v t p
theorem words6 : True := by
  k_with_none
  k_with "x_close" => (refine XSame.use (by assumption) ?_; exact rfl)
  trivial
theorem lg_bind (self : Value) : bindSpecial (.builtin "list.__getattribute__") self = pure (.builtin "list.__getattribute__", [self]) := by
  unfold bindSpecial
  kernel_rfl
section
variable {w : World} {A : Around} {s : Shared} {Q E : Value → Shared → Prop} {row dx : Addr} {items : Array Value} {n : Nat} {size : Int} {tk₀ tk₁ tk : Tok}
theorem lga_size (X : (hd.heap_39 w.params).In s.heap) (hr : s.heap.get? row = some ⟨.ref 145, some dx, .seq items n, #[]⟩) (hdx : s.heap.get? dx = some ⟨.type "dict", none, .dict #[⟨PyData.keyHash w.params (Str.ofString "_initial_size"), .str (Str.ofString "_initial_size") tk₀, .int size tk₁⟩] 1, #[]⟩)
   (hret : XSame s.heap Q (fun v => v = .int size tk₁) s.gens s.drawn s.os) :
   wpAny (model Challenge.rw_pe0060_01.row.prog w) A (call (.builtin "list.__getattribute__") [.ref row, .str (Str.ofString "_initial_size") tk]) Q E s := by
  x_run
theorem get_size {ex : Bool} (X : (hd.heap_39 w.params).In s.heap) (hr : s.heap.get? row = some (rowObj items n dx)) (hdx : s.heap.get? dx = some (dictOf [dEnt w.params size tk₀ tk₁] 1))
   (h : ∀ tk, s.toks ≤ tk → Q (.int size tk₁) { s with toks := tk }) :
   wpAny (model Challenge.rw_pe0060_01.row.prog w) A (getAttr (.ref row) (Str.ofString "_initial_size") ex) Q E s := by
  refine wpAny_with_toks (Nat.le_refl s.toks) ?_
  have I : InstAt s.heap row (rowObj items n dx) 145 (some (dictOf [dEnt w.params size tk₀ tk₁] 1)) := ⟨hr, rfl, rfl, hdx⟩
  unfold getAttr getAttrBy
  refine wpAny_bind (wpAny_mkText (wpAny_holding (wpAny_bind (Looks.here (s := { s with toks := s.toks + 1 }) I.type (wpAny_bind (Looks.here (s := { s with toks := s.toks + 1 }) (looks_findIn X (by rfl : findIn (hd.heap_39 w.params) (.ref 145) "__getattribute__" = some (some (.builtin "list.__getattribute__")))) ?_))))))
  show wpAny _ _ (getAttrByItsOwn (.ref row) (.str (Str.ofString "_initial_size") s.toks) (.ref 145) (.builtin "list.__getattribute__") true ex) _ _ _
  unfold getAttrByItsOwn hookBefore callGetattribute boundAndCalled
  refine wpAny_bind (Looks.here (s := { s with toks := s.toks + 1 }) (looks_findIn X (by rfl : findIn (hd.heap_39 w.params) (.ref 145) "__getattr__" = some none)) ?_)
  refine wpAny_bind (wpAny_attempt (wpAny_holding ?_))
  show wpAny _ _ (if (ex && false) = true then _ else _) _ _ _
  rw [Bool.and_false, if_neg Bool.false_ne_true]
  refine wpAny_bind (wpAny_of_eq (lg_bind _) ?_)
  refine lga_size (s := { s with toks := s.toks + 1 }) X hr hdx fun v tk e => ?_
  cases e
  exact wpAny_pure (h _)
end
end Mine
end
section
open PySem PySem.W PyProof.Rows
namespace Mine
theorem fresh12 : True ∧ True := by
  k_with_none
  first | (walk1; fail) | (w_top off; exact ⟨trivial, trivial⟩)
end Mine
end
section
open PySem PySem.W PySem.W.X PyProof.Rows PySem.Calls
namespace Mine
set_option maxRecDepth 100000
set_option maxHeartbeats 4000000
section
variable {w : World} {p : Program} {loose : List Str} {mean : ExcName → Option Value} {mg mb : Str → Option Value}
   {cn : Str} {nms : List (Str × NameKind)} {ig ic : Bool} {mr : List (Str × Const)} {a : Addr} {ccd : Value} {cl : List (Str × Addr)} {H : Heap} {L : Addr} {m : Str → Option Value} {s : Shared} {Q E : Value → Shared → Prop} {news : List (Addr × Obj)}
   {row dx : Addr} {items : Array Value} {n : Nat} {size : Int} {tk₀ tk₁ : Tok} {ps : Array Value}
theorem words7 : True := by
  k_with_none
  k_with "k_inst" => (refine' inst_row ?N ?h1 ?h2; (case N => k_asm); (case h1 => k_mem); (case h2 => k_mem))
  k_with "k_all" => with_reducible assumption
  trivial
theorem moved_tab {g' h' h'' : Heap} {L' P : Addr} {m' : Str → Option Value} {o' : Obj} {nw : List (Addr × Obj)} (F : Fr g' L' h' m') (N : News g' L' h' ((P, o') :: nw)) (hn : ∀ p ∈ nw, p.1 ≠ P) (k : ∀ b o, b ≠ P → h'.get? b = some o → h''.get? b = some o) {o'' : Obj} (e : h''.get? P = some o'') : Fr g' L' h'' m' ∧ News g' L' h'' ((P, o'') :: nw) := by
  have hP := N (P, o') (.head _)
  obtain ⟨oL, es, ep, hL, r⟩ := F.ns
  refine ⟨⟨⟨oL, es, ep, k _ _ (Ne.symm hP.2.1) hL, r⟩, fun b o e => k b o (fun z => ?_) (F.keep b o e), F.above⟩, fun p hp => ?_⟩
  · have := hP.2.2
    rw [← z, e] at this; cases this
  · rcases List.mem_cons.mp hp with rfl | hp
    · exact ⟨e, hP.2⟩
    · exact ⟨k _ _ (hn p hp) (N p (.tail _ hp)).1, (N p (.tail _ hp)).2⟩
theorem moved_K {g' h' h'' : Heap} {L' n' : Addr} {m' : Str → Option Value} {nw : List (Addr × Obj)} (F : Fr g' L' h' m') (N : News g' L' h' nw) (k : ∀ b o, h'.get? b = some o → b < n' → h''.get? b = some o) (hn : ∀ p ∈ nw, p.1 < n') (hL : L' < n') (hg : ∀ b o, g'.get? b = some o → b < n') : Fr g' L' h'' m' ∧ News g' L' h'' nw := by
  obtain ⟨oL, es, ep, e, r⟩ := F.ns
  exact ⟨⟨⟨oL, es, ep, k _ _ e hL, r⟩, fun b o e => k b o (F.keep b o e) (hg b o e), F.above⟩, fun p hp => ⟨k _ _ (N p hp).1 (hn p hp), (N p hp).2⟩⟩
theorem news_rot {h h' : Heap} {x y z : Addr × Obj} {nw : List (Addr × Obj)} (N : News h L h' (x :: y :: z :: nw)) : News h L h' (z :: x :: y :: nw) := fun p hp => N p (by
  simp only [List.mem_cons] at hp ⊢
  rcases hp with e | e | e | e
  · exact .inr (.inr (.inl e))
  · exact .inl e
  · exact .inr (.inl e)
  · exact .inr (.inr (.inr e)))
theorem news_unrot {h h' : Heap} {x y z : Addr × Obj} {nw : List (Addr × Obj)} (N : News h L h' (z :: x :: y :: nw)) : News h L h' (x :: y :: z :: nw) := news_rot (news_rot N)
theorem triples_ok {ln cl : Int} (hps : TabOk ln cl ps) : TriplesOk ps.toList := by
  rcases hps with rfl | ⟨c, rfl⟩
  · exact trivial
  · simp [TriplesOk, rawInt]
theorem len_code {h : Heap} {ln cl : Int} (X : (hd.heap_39 w.params).In h) (e : h.get? 107 = some (tabObj ps)) (hps : TabOk ln cl ps) : h.IsCode 111 107 ps ∧ h.TableAt 111 107 ps :=
  ⟨⟨_, _, _, _, _, _, _, _, _, _, X 111 _ (by rfl), rfl, rfl, rfl, rfl, rfl, rfl, e, rfl, triples_ok hps, by decide⟩, ⟨⟨_, _, X 111 _ (by rfl), rfl, rfl, rfl⟩, e⟩⟩
theorem str_code {h : Heap} {ln cl : Int} (X : (hd.heap_39 w.params).In h) (e : h.get? 114 = some (tabObj ps)) (hps : TabOk ln cl ps) : h.IsCode 118 114 ps ∧ h.TableAt 118 114 ps :=
  ⟨⟨_, _, _, _, _, _, _, _, _, _, X 118 _ (by rfl), rfl, rfl, rfl, rfl, rfl, rfl, e, rfl, triples_ok hps, by decide⟩, ⟨⟨_, _, X 118 _ (by rfl), rfl, rfl, rfl⟩, e⟩⟩
theorem elt_len {A : Around} {gsc : Scope} {g : Heap} {C : Addr} {code cc : Value} {q : Str} {sc : Scope} {L f : Addr} {xa xb : Str} {p1 p2 p3 p4 p5 p6 pos : Pos} {va vb : Str} {ta tb : Tok}
   (X : (hd.heap_39 w.params).In g) (T : Top p loose mean mg mb g) (F : Fr g C s.heap m) (hk : gsc.kind = .function) (hl : gsc.names.lookup (Str.ofString "len") = some .globalImplicit) (ha : gsc.names.lookup xa = some .local) (hb : gsc.names.lookup xb = some .local)
   (ma : m xa = some (.str va ta)) (mb' : m xb = some (.str vb tb)) (da : (xa == ("__debug__" : Str)) = false) (db : (xb == ("__debug__" : Str)) = false) (hlen : va.length + vb.length ≤ 100) :
   wpAny (model Challenge.rw_pe0060_01.row.prog w) A (eval (.BinOp (.Call (.Name (Str.ofString "len") p1) [.Name xa p2] [] p3) .Add (.Call (.Name (Str.ofString "len") p4) [.Name xb p5] [] p6) pos) (genEnv gsc [] C code builtinsNs (envOf q sc L f cc))) (fun y s₃ => (∃ t, y = .int (va.length + vb.length) t) ∧ Keeps s s₃) E s := by
  have hmiss : mg (Str.ofString "len") = none := mg_none_of X T.g (by rfl)
  have hv : mb (Str.ofString "len") = some (.builtin "len") := (T.builtins _ (by decide)).trans boot_len
  have nm : ∀ {Q : Value → Shared → Prop} {ps : Pos} {tk : Nat}, Q (.builtin "len") { s with toks := tk } → wpAny (model Challenge.rw_pe0060_01.row.prog w) A (eval (.Name (Str.ofString "len") ps) (genEnv gsc [] C code builtinsNs (envOf q sc L f cc))) Q E { s with toks := tk } := fun h =>
    Calls.Name_function_global hk hl (Calls.loadGlobal_builtin (env := genEnv gsc [] C code builtinsNs (envOf q sc L f cc)) (T.g.keeps F.keep) hmiss (T.b.keeps F.keep) hv h) (by decide)
  refine wpAny_BinOp (Call_name1 rfl (nm (tk := s.toks) (callWith_builtin1 ?_)))
  refine wpAny_Name (wpAny_loadName_local hk ha F.ns ma ?_) da
  refine len_str (by omega) ?_
  refine Call_name1 rfl (nm (callWith_builtin1 ?_))
  refine wpAny_Name (wpAny_loadName_local (s := { s with toks := s.toks + 1 + 1 }) hk hb F.ns mb' ?_) db
  refine len_str (by omega) ?_
  exact PyProof.Rows.add_int ⟨⟨_, rfl⟩, _, _, rfl, fun _ _ e => e⟩
theorem gen_toks {prog : Program} {A : Around} {K a : Addr} {n : Nat} {F : Nat → Value → Prop} {tk : Nat} (G : Gen prog w A K a n F s) (h : s.toks ≤ tk) : Gen prog w A K a n F { s with toks := tk } :=
  let ⟨fp, wr, g, St, W, hst, hT, ha, hfp, hwr⟩ := G
  ⟨fp, wr, g, St, W, W.frame 0 s s.heap tk hst h fun _ _ _ e => e, hT, ha, hfp, hwr⟩
theorem len_c (F : Fr H L s.heap m) (X : (hd.heap_39 w.params).In H) (N : News H L s.heap ((row, rowObj items n dx) :: (dx, dictOf [dEnt w.params size tk₀ tk₁] 1) :: (107, tabObj ps) :: news))
   (T : Top p loose mean mg mb H) (hne : @Ne Nat row dx) (hsz : items.size ≤ 100) (hg : AllBare s.gens) (hps : TabOk 48 19 ps) (hnw : ∀ p ∈ news, p.1 ≠ 107) (hr7 : @Ne Nat row 107) (hd7 : @Ne Nat dx 107) (hsize : 0 ≤ size) (hsize' : size ≤ 10000)
   (Ts : Nat → Addr) (va vb : Nat → Str) (ta tb : Nat → Tok) (hits : ∀ j, j < items.size → items[j]? = some (.ref (Ts j))) (htup : ∀ j, j < items.size → (Ts j, tupObj (.str (va j) (ta j)) (.str (vb j) (tb j))) ∈ news)
   (hlen : ∀ j, j < items.size → (va j).length + (vb j).length ≤ 100)
   (hret : ∀ s' t ps', TabOk 48 19 ps' → Fr H L s'.heap m → News H L s'.heap ((row, rowObj items n dx) :: (dx, dictOf [dEnt w.params size tk₀ tk₁] 1) :: (107, tabObj ps') :: news) → AllBare s'.gens → s'.os = s.os → Q (.int (size + preSum (fun j => (va j).length + (vb j).length) items.size) t) s')
   :
   wpAny (model Challenge.rw_pe0060_01.row.prog w) (callerA.deeper (envX cn (Scope.mk .function nms ig ic mr) L a ccd cl)) (call (.builtin "len") [.ref row]) Q E s := by
  revert X
  k_fill
  intro X
  have B := below_caller H
  k_steps
  rename_i g' L' h' FG' F' N' B' X' T'
  have e7 := (N' (107, tabObj ps) (by simp)).1
  have hc := len_code (X'.keeps F'.keep) e7 hps
  have I' := inst_row (dx := dx) (od := dictOf [dEnt w.params size tk₀ tk₁] 1) N' (.head _) (.tail _ (.head _))
  refine gen_row (dx := dx) (items := items) (P := 107) (ps := ps) (G := fun j y => ∃ t, y = .int ((va j).length + (vb j).length) t) F' X' T' hg I' (by rfl) (by rfl) (by rfl) (by rfl) (by rfl) (by rfl) (by decide) (by rfl) (by rfl) (by rfl) (by decide) (by rfl) ?hroom hc.1 hc.2 hps (Ne.symm hr7) (N' (107, tabObj ps) (by simp)).2.2 (by decide) Ts (fun j => .str (va j) (ta j)) (fun j => .str (vb j) (tb j)) hits (fun j hj => ?htup) (fun j hj => ?hPT) ?helt ?hQ
  case hroom => exact (by decide : callerA.depth + 1 + 1 < recursionLimit)
  case htup => exact ⟨_, (N' _ (.tail _ (.tail _ (.tail _ (htup j hj))))).1, rfl, _, rfl⟩
  case hPT => exact hnw _ (htup j hj)
  case helt =>
    clear hret qk ek
    intro A' E' i C code s₂ m₂ hA _ _ hi F₂ ha hb
    exact elt_len X' T' F₂ (by rfl) (by rfl) (by rfl) (by rfl) ha hb (by decide) (by decide) (hlen i hi)
  case hQ =>
    intro a' K s₅ ps' hLK hK' k5 ht5 hc5 hps5 hg5 ho5 hd5 G5
    have hnw' : ∀ p ∈ (row, rowObj items n dx) :: (dx, dictOf [dEnt w.params size tk₀ tk₁] 1) :: news, p.1 ≠ 107 := by
      intro p hp
      simp only [List.mem_cons] at hp
      rcases hp with rfl | rfl | hp
      · exact hr7
      · exact hd7
      · exact hnw p hp
    obtain ⟨F5, N5⟩ := moved_tab (nw := (row, rowObj items n dx) :: (dx, dictOf [dEnt w.params size tk₀ tk₁] 1) :: news) F' (news_rot N') hnw' k5 ht5.2
    have N6 : News g' L' s₅.heap ((row, rowObj items n dx) :: (dx, dictOf [dEnt w.params size tk₀ tk₁] 1) :: (107, tabObj ps') :: news) := news_unrot N5
    refine Calls.spliced_cons ?_
    refine Attribute_Name_ (ld F5 (by rfl) ?_)
    refine get_size (X'.keeps F5.keep) (N6 _ (.head _)).1 (N6 _ (.tail _ (.head _))).1 fun tk' htk' => ?_
    refine Calls.spliced_nil ?_
    have G6 : Gen Challenge.rw_pe0060_01.row.prog w ((callerA.deeper (envX cn (Scope.mk .function nms ig ic mr) L a ccd cl)).in1.deeper _) K a' items.size _ { s₅ with toks := tk' } := gen_toks G5 htk'
    have hb : ∀ j, j ≤ items.size → 0 ≤ preSum (fun j => ((va j).length : Int) + (vb j).length) j ∧ preSum (fun j => ((va j).length : Int) + (vb j).length) j ≤ 100 * j := by
      intro j
      induction j with
      | zero => intro _; simp [preSum]
      | succ j ih =>
        intro hj
        have h1 := ih (Nat.le_of_succ_le hj)
        have h2 := hlen j hj
        simp only [preSum]
        omega
    refine sum_gen (s := { s₅ with toks := tk' }) hg5 G6 (fun j => (va j).length + (vb j).length) ⟨by omega, by omega⟩ (fun j v hv => hv) (fun j hj => ?_) fun s' t' hb' ho' hd' k6 => ?_
    · have h1 := hb (j + 1) hj
      have h2 := hlen j hj
      exact ⟨⟨by omega, by omega⟩, by omega, by omega⟩
    · have kk : ∀ b o, s₅.heap.get? b = some o → b < h'.objs.size → s'.heap.get? b = some o := fun b o e hb => k6 b o (hK' b hb) e
      have hL' : L' < h'.objs.size := let ⟨_, _, _, e, _⟩ := F'.ns; Heap.lt_size e
      have hnn : ∀ p ∈ (row, rowObj items n dx) :: (dx, dictOf [dEnt w.params size tk₀ tk₁] 1) :: (107, tabObj ps') :: news, p.1 < h'.objs.size := by
        intro p hp
        simp only [List.mem_cons] at hp
        rcases hp with rfl | rfl | rfl | hp
        · exact Heap.lt_size (N' _ (.head _)).1
        · exact Heap.lt_size (N' _ (.tail _ (.head _))).1
        · exact Heap.lt_size e7
        · exact Heap.lt_size (N' _ (.tail _ (.tail _ (.tail _ hp)))).1
      obtain ⟨F7, N7⟩ := moved_K F5 N6 kk hnn hL' (fun b o e => Heap.lt_size (F'.keep b o e))
      refine ⟨L', _, _, F7, N7, fun F8 N8 => ⟨⟨?_, ?_⟩, hret _ _ ps' hps5 F8 N8 hb' (ho'.trans ho5)⟩⟩
      all_goals have := hb items.size (Nat.le_refl _)
      all_goals omega
end
end Mine
end
section
open PySem PySem.W PyProof.Rows
namespace Mine
theorem fresh13 : True ∧ True := by
  k_with_none
  first | (walk1; fail) | (w_top off; exact ⟨trivial, trivial⟩)
end Mine
end
section
open PySem PySem.W PySem.W.X PyProof.Rows PySem.Calls
namespace Mine
set_option maxRecDepth 100000
set_option maxHeartbeats 4000000
section
variable {w : World} {p : Program} {loose : List Str} {mean : ExcName → Option Value} {mg mb : Str → Option Value}
   {cn : Str} {nms : List (Str × NameKind)} {ig ic : Bool} {mr : List (Str × Const)} {a : Addr} {ccd : Value} {cl : List (Str × Addr)} {H : Heap} {L : Addr} {m : Str → Option Value} {s : Shared} {Q E : Value → Shared → Prop} {news : List (Addr × Obj)}
   {row dx : Addr} {items : Array Value} {n : Nat} {size : Int} {tk₀ tk₁ : Tok} {ps : Array Value}
theorem words8 : True := by
  k_with_none
  k_with "k_inst" => (refine' inst_row ?N ?h1 ?h2; (case N => k_asm); (case h1 => k_mem); (case h2 => k_mem))
  k_with "k_all" => with_reducible assumption
  trivial
theorem join_tup {A : Around} {x : Str} {t : Tok} {pos : Pos} {a : Sem Value} (h : wpAny (model Challenge.rw_pe0060_01.row.prog w) A a (fun v s₁ => ∃ D l, v = .ref D ∧ (∃ o n, s₁.heap.get? D = some o ∧ o.cls = .type "tuple" ∧ o.data = .seq (strValues l).toArray n) ∧ ∃ texts, l.map (·.1) = texts ∧ JoinOk x texts = true ∧
      ∀ t' k, Q (.str (Txt.join x texts) t') { s₁ with toks := k }) E s) : MethodOnS Challenge.rw_pe0060_01.row.prog w A E "join" (.str x t) pos [(false, a)] Q s := by
  refine ⟨"str", _, PySem.F.plainAttrs_str, PySem.F.slot_str_join, PySem.F.type_str_join, typeIs_str _ _ _, (fun _ e => nomatch e),
    method1_meets PySem.F.slot_str_join PySem.F.entry_str_join (wpAny_mono h (fun v s₁ h₁ => ?_) fun _ _ e => e)⟩
  obtain ⟨D, l, rfl, hl, texts, rfl, hok, hq⟩ := h₁
  unfold JoinOk at hok
  rw [Bool.not_eq_true'] at hok
  exact ⟨typeIs_str _ _ _, PySem.F.args_str_join_2 _ _, _, meets_str_join_tuple x t D l hok, hl, post_join l ⟨joinFit_length hok, hq⟩⟩
theorem elt_join {A : Around} {gsc : Scope} {g : Heap} {C : Addr} {code cc : Value} {q : Str} {sc : Scope} {L f : Addr} {xa xb : Str} {kt : Nat} {p1 p2 p3 p4 p5 pos : Pos} {va vb : Str} {ta tb : Tok}
   (X : (hd.heap_39 w.params).In g) (T : Top p loose mean mg mb g) (F : Fr g C s.heap m) (hk : gsc.kind = .function) (hl : gsc.names.lookup (Str.ofString "EMPTYSTRING") = some .globalImplicit) (ha : gsc.names.lookup xa = some .local) (hb : gsc.names.lookup xb = some .local)
   (ma : m xa = some (.str va ta)) (mb' : m xb = some (.str vb tb)) (da : (xa == ("__debug__" : Str)) = false) (db : (xb == ("__debug__" : Str)) = false) (hlen : va.length + vb.length ≤ 100) (hline : (p2.endLine == pos.line) = true) :
   wpAny (model Challenge.rw_pe0060_01.row.prog w) A (eval (.Call (.Attribute (.Name (Str.ofString "EMPTYSTRING") p1) (Str.ofString "join") p2) [.Tuple [.Name xa p3, .Name xb p4] kt p5] [] pos) (genEnv gsc [] C code builtinsNs (envOf q sc L f cc))) (fun y s₃ => (∃ t, y = .str (Txt.join (Str.ofString "") [va, vb]) t) ∧ Keeps s s₃) E s := by
  have hv : mg (Str.ofString "EMPTYSTRING") = some (.str (Str.ofString "") 263) := mg_of X T.g (by rfl)
  refine Call_method1 rfl rfl hline ?_
  refine Calls.Name_function_global hk hl (Calls.loadGlobal_global (env := genEnv gsc [] C code builtinsNs (envOf q sc L f cc)) (T.g.keeps F.keep) hv ?_) (by decide)
  refine join_tup (wpAny_Tuple_spliced ?_)
  refine Calls.spliced_cons (wpAny_Name (wpAny_loadName_local hk ha F.ns ma ?_) da)
  refine Calls.spliced_cons (wpAny_Name (wpAny_loadName_local hk hb F.ns mb' ?_) db)
  refine Calls.spliced_nil ⟨(by decide : 2 ≤ sizeLine), _, [(va, ta), (vb, tb)], rfl, ⟨_, _, Heap.get?_push_size _ rfl, rfl, rfl⟩, _, rfl, ?_, fun t' k => ⟨⟨_, rfl⟩, _, _, rfl, fun b o e => Heap.get?_push_of_some _ e⟩⟩
  simp [JoinOk, Builtin.Str.tooLong]
  have : (Str.ofString "").length = 0 := by decide
  have : 100 ≤ sizeLine := by decide
  omega
theorem str_len0 : (Str.ofString "").length = 0 := by decide
theorem join2_len (x y : Str) : (Txt.join (Str.ofString "") [x, y]).length ≤ x.length + y.length := by
  have := StrLaws.join_length_le (Str.ofString "") [x, y]
  rw [str_len0] at this
  unfold Txt.join
  rw [StrLaws.glued_eq_join]
  simpa using this
theorem hok {va vb : Nat → Str} {n : Nat} (hlen : ∀ j, j < n → (va j).length + (vb j).length ≤ 100) (hn : n ≤ 100) : JoinOk (Str.ofString "") ((List.range n).map fun j => Txt.join (Str.ofString "") [va j, vb j]) = true := by
  have key : ∀ (l : List Str) (acc : Nat), (∀ x ∈ l, x.length ≤ 100) → l.foldl (· + ·.length + (Str.ofString "").length) acc ≤ acc + 100 * l.length := by
    intro l
    induction l with
    | nil => intro acc _; simp
    | cons x l ih =>
      intro acc hx
      have h1 := hx x (.head _)
      have h2 := ih (acc + x.length + (Str.ofString "").length) fun y hy => hx y (.tail _ hy)
      simp only [List.foldl_cons, List.length_cons]
      rw [str_len0] at h2 ⊢
      omega
  have h3 := key ((List.range n).map fun j => Txt.join (Str.ofString "") [va j, vb j]) 0 (by
    intro x hx
    obtain ⟨j, hj, rfl⟩ := List.mem_map.mp hx
    exact Nat.le_trans (join2_len _ _) (hlen j (List.mem_range.mp hj)))
  simp only [List.length_map, List.length_range] at h3
  have h4 : 10000 ≤ sizeLine := by decide
  unfold JoinOk Builtin.Str.tooLong
  simp only [List.foldl_toArray, Bool.not_eq_true', decide_eq_false_iff_not]
  omega
theorem str_c (F : Fr H L s.heap m) (X : (hd.heap_39 w.params).In H) (N : News H L s.heap ((row, rowObj items n dx) :: (dx, dictOf [dEnt w.params size tk₀ tk₁] 1) :: (114, tabObj ps) :: news))
   (T : Top p loose mean mg mb H) (hne : @Ne Nat row dx) (hsz : items.size ≤ 100) (hg : AllBare s.gens) (hps : TabOk 51 32 ps) (hnw : ∀ p ∈ news, p.1 ≠ 114) (hr7 : @Ne Nat row 114) (hd7 : @Ne Nat dx 114) 
   (Ts : Nat → Addr) (va vb : Nat → Str) (ta tb : Nat → Tok) (hits : ∀ j, j < items.size → items[j]? = some (.ref (Ts j))) (htup : ∀ j, j < items.size → (Ts j, tupObj (.str (va j) (ta j)) (.str (vb j) (tb j))) ∈ news)
   (hlen : ∀ j, j < items.size → (va j).length + (vb j).length ≤ 100)
   (hret : ∀ s' t ps', TabOk 51 32 ps' → Fr H L s'.heap m → News H L s'.heap ((row, rowObj items n dx) :: (dx, dictOf [dEnt w.params size tk₀ tk₁] 1) :: (114, tabObj ps') :: news) → AllBare s'.gens → s'.os = s.os → Q (.str (Txt.join (Str.ofString "") ((List.range items.size).map fun j => Txt.join (Str.ofString "") [va j, vb j])) t) s') :
   wpAny (model Challenge.rw_pe0060_01.row.prog w) (callerA.deeper (envX cn (Scope.mk .function nms ig ic mr) L a ccd cl)) (call (.type "str") [.ref row]) Q E s := by
  revert X
  k_fill
  intro X
  have B := below_caller H
  k_steps
  rename_i g' L' h' FG' F' N' B' X' T'
  have e7 := (N' (114, tabObj ps) (by simp)).1
  have hc := str_code (X'.keeps F'.keep) e7 hps
  have I' := inst_row (dx := dx) (od := dictOf [dEnt w.params size tk₀ tk₁] 1) N' (.head _) (.tail _ (.head _))
  refine gen_row (dx := dx) (items := items) (P := 114) (ps := ps) (G := fun j y => ∃ t, y = .str (Txt.join (Str.ofString "") [va j, vb j]) t) F' X' T' hg I' (by rfl) (by rfl) (by rfl) (by rfl) (by rfl) (by rfl) (by decide) (by rfl) (by rfl) (by rfl) (by decide) (by rfl) ?hroom hc.1 hc.2 hps (Ne.symm hr7) (N' (114, tabObj ps) (by simp)).2.2 (by decide) Ts (fun j => .str (va j) (ta j)) (fun j => .str (vb j) (tb j)) hits (fun j hj => ?htup) (fun j hj => ?hPT) ?helt ?hQ
  case hroom => exact (by decide : callerA.depth + 1 + 1 < recursionLimit)
  case htup => exact ⟨_, (N' _ (.tail _ (.tail _ (.tail _ (htup j hj))))).1, rfl, _, rfl⟩
  case hPT => exact hnw _ (htup j hj)
  case helt =>
    clear hret qk ek
    intro A' E' i C code s₂ m₂ hA _ _ hi F₂ ha hb
    exact elt_join X' T' F₂ (by rfl) (by rfl) (by rfl) (by rfl) ha hb (by decide) (by decide) (hlen i hi) (by rfl)
  case hQ =>
    intro a' K s₅ ps' hLK hK' k5 ht5 hc5 hps5 hg5 ho5 hd5 G5
    have hnw' : ∀ p ∈ (row, rowObj items n dx) :: (dx, dictOf [dEnt w.params size tk₀ tk₁] 1) :: news, p.1 ≠ 114 := by
      intro p hp
      simp only [List.mem_cons] at hp
      rcases hp with rfl | rfl | hp
      · exact hr7
      · exact hd7
      · exact hnw p hp
    obtain ⟨F5, N5⟩ := moved_tab (nw := (row, rowObj items n dx) :: (dx, dictOf [dEnt w.params size tk₀ tk₁] 1) :: news) F' (news_rot N') hnw' k5 ht5.2
    have N6 : News g' L' s₅.heap ((row, rowObj items n dx) :: (dx, dictOf [dEnt w.params size tk₀ tk₁] 1) :: (114, tabObj ps') :: news) := news_unrot N5
    refine Calls.spliced_nil ?_
    refine join_rowsK F5 hg5 G5 hLK (fun j => Txt.join (Str.ofString "") [va j, vb j]) (fun j v hv => hv) (hok hlen hsz) (fun s' t' _ hb' ho' k6 => ?_) (Nat.le_trans hsz (by decide))
    have kk : ∀ b o, s₅.heap.get? b = some o → b < h'.objs.size → s'.heap.get? b = some o := fun b o e hb => k6 b o (hK' b hb) e
    have hL' : L' < h'.objs.size := let ⟨_, _, _, e, _⟩ := F'.ns; Heap.lt_size e
    have hnn : ∀ p ∈ (row, rowObj items n dx) :: (dx, dictOf [dEnt w.params size tk₀ tk₁] 1) :: (114, tabObj ps') :: news, p.1 < h'.objs.size := by
        intro p hp
        simp only [List.mem_cons] at hp
        rcases hp with rfl | rfl | rfl | hp
        · exact Heap.lt_size (N' _ (.head _)).1
        · exact Heap.lt_size (N' _ (.tail _ (.head _))).1
        · exact Heap.lt_size e7
        · exact Heap.lt_size (N' _ (.tail _ (.tail _ (.tail _ hp)))).1
    obtain ⟨F7, N7⟩ := moved_K F5 N6 kk hnn hL' (fun b o e => Heap.lt_size (F'.keep b o e))
    exact ⟨L', _, _, F7, N7, fun F8 N8 => hret _ _ ps' hps5 F8 N8 hb' (ho'.trans ho5)⟩
end
end Mine
end
section
open PySem PySem.W PyProof.Rows
namespace Mine
theorem fresh14 : True ∧ True := by
  k_with_none
  first | (walk1; fail) | (w_top off; exact ⟨trivial, trivial⟩)
end Mine
end
section
open PySem PySem.W PySem.W.X PyProof.Rows PySem.Calls
namespace Mine
set_option maxRecDepth 100000
set_option maxHeartbeats 4000000
section
variable {prog : Program} {w : World} {A : Around} {E : Value → Shared → Prop} {s : Shared} {h₀ h : Heap} {L : Addr} {m : Str → Option Value} {news news' : List (Addr × Obj)}
   {row dx : Addr} {items : Array Value} {n : Nat} {od : Obj}
theorem entry_linit : entryFor table "list.__init__" = some Builtin.«list.__init__» := entryFor_of_tree (by kernel_rfl)
theorem bound_ok2 {M : Model} {ox : Obj} {oi : Option Obj} (X : (hd.heap_39 w.params).In h) (I : InstAt h row ox 145 oi) : Looks M h (checkBoundCall "list.__init__" ⟨[.ref row], []⟩) () := by
  have l1 : Looks M h (isInstance (.ref row) (.type "module")) false := I.type.andThen (looks_mroIn X (by rfl))
  have l2 : Looks M h (isType (.ref row)) false := fun A Q E s k q => by
    obtain ⟨hp, g, d, t, os⟩ := s
    exact ks_wpAny_isType_inst (k _ _ I.at_) (fun c e => by
      have := I.no
      unfold notCls at this
      rw [e] at this
      exact Bool.noConfusion this) q
  have l3 := I.type (M := M)
  have l4 : Looks M h (typeOf (.ref 145)) (.type "type") := looks_typeIn X (by rfl)
  intro A Q E s k q
  replace l1 := l1.keeps k
  replace l2 := l2.keeps k
  replace l3 := l3.keeps k
  replace l4 := l4.keeps k
  have hC := k _ _ (X 145 _ rfl)
  obtain ⟨hp, g, d, t, os⟩ := s
  unfold checkBoundCall
  repeat lk
  exact q
theorem init_bound {q : Addr} {Q : Value → Shared → Prop} (F : Fr h₀ L s.heap m) (X : (hd.heap_39 w.params).In h₀) (N : News h₀ L s.heap news) (U : Upd row (rowObj #[] n dx) (rowObj #[] n dx) news news')
    (hd : (dx, od) ∈ news) (hq : (q, wrapObj "method-wrapper" "list.__init__" row) ∈ news)
    (h : ∀ h', Fr h₀ L h' m → News h₀ L h' news' → Q .none { s with heap := h' }) : wpAny (model prog w) A (call (.ref q) []) Q E s := by
  obtain ⟨pre, post, rfl, rfl, a, b⟩ := U.split
  have hmem : (row, rowObj #[] n dx) ∈ pre ++ (row, rowObj #[] n dx) :: post := List.mem_append.mpr (.inr (.head _))
  have z := (N (row, rowObj #[] n dx) hmem).1
  have I := inst_row N hmem hd
  have sub : Looks (model prog w) s.heap (isInstance (.ref row) (.type "list")) true := I.type.andThen (looks_mroIn (X.keeps F.keep) (by rfl))
  have q1 := (N _ hq).1
  refine wpAny_call (codeAny_of_tree ?_)
  show wpAny _ _ (callAny (.ref q) _) _ _ _
  refine nd_load q1 ?_
  show wpAny _ _ (checkBoundCall "list.__init__" ⟨[.ref row], []⟩ >>= fun _ => again (.builtin "list.__init__" ⟨[.ref row], []⟩)) _ _ _
  refine wpAny_bind ((bound_ok2 (X.keeps F.keep) I).here (wpAny_pure ?_))
  refine ⟨Code.quiet_builtin _ (by decide +kernel), codeAny_builtin entry_linit ?_⟩
  unfold Builtin.«list.__init__»
  obtain ⟨hp, g, d, t, os⟩ := s
  dsimp only at z
  repeat lk
  have e2 : Obj.mapSeq (fun _ => #[]) (rowObj #[] n dx) = rowObj #[] n dx := by
    simp [Obj.mapSeq]
  obtain ⟨F', N'⟩ := news_upd (f := Obj.mapSeq (fun _ => #[])) F N a b e2 rfl
  refine wpAny_update z ?_
  have z' := (N' (row, rowObj #[] n dx) hmem).1
  refine wpAny_lookBehind z' (pastItsLine_seq (Nat.zero_le _)) ?_
  refine wpAny_bind (wpAny_letGo ?_)
  exact wpAny_pure (h _ F' N')
end
end Mine
end
section
open PySem PySem.W PyProof.Rows
namespace Mine
theorem fresh15 : True ∧ True := by
  k_with_none
  first | (walk1; fail) | (w_top off; exact ⟨trivial, trivial⟩)
end Mine
end
section
open PySem PySem.W PySem.W.X PyProof.Rows PySem.Calls
namespace Mine
set_option maxRecDepth 100000
set_option maxHeartbeats 4000000
section
variable {w : World} {A : Around} {s : Shared} {Q E : Value → Shared → Prop} {size : Int} {t : Tok}
theorem words9 : True := by
  k_with_none
  k_with "x_close" => (refine XRet.use (by assumption) (by first | assumption | exact Mem.start _) ?_; first | exact ⟨_, _, rfl, rfl⟩)
  trivial
theorem list_new (X : (hd.heap_39 w.params).In s.heap)
   (hret : XRet s.heap Q (fun v news => ∃ x dx, v = .ref x ∧ news = [(x, rowObj #[] 0 dx), (dx, emptyDict)]) s.gens s.drawn s.os) :
   wpAny (model Challenge.rw_pe0060_01.row.prog w) A (call (.builtin "list.__new__") [.ref 145, .int size t]) Q E s := by
  x_run
end
section
open Builtin Builtin.ObjectAttr
variable {w : World} {p : Program} {loose : List Str} {mean : ExcName → Option Value} {mg mb : Str → Option Value}
   {cn : Str} {nms : List (Str × NameKind)} {ig ic : Bool} {mr : List (Str × Const)} {a : Addr} {ccd : Value} {cl : List (Str × Addr)} {H : Heap} {L : Addr} {m : Str → Option Value} {s : Shared} {Q E : Value → Shared → Prop} {news : List (Addr × Obj)}
   {row dx : Addr} {size : Int} {t : Tok}
theorem words10 : True := by
  k_with_none
  k_with "k_inst" => (refine' inst_row ?N ?h1 ?h2; (case N => k_asm); (case h1 => k_mem); (case h2 => k_mem))
  k_with "k_all" => with_reducible assumption
  k_with "getMethod ref" => (k_here; k_dflt ((first | refine' super_len_K ?k1 ?k2 ?k3 ?k4 ?k5 ?k6 ?_ | refine' super_pop_K ?k1 ?k2 ?k3 ?k4 ?k5 ?k6 ?_ | refine' super_init_K ?k1 ?k2 ?k3 ?k4 ?k5 ?k6 ?_); (case k1 => k_asm); (case k2 => k_asm); (case k3 => k_asm); (case k4 => k_mem); (case k5 => k_mem); (case k6 => k_mem); k_whole); intro q' h' tk' F' N' ne'; (replace ne' := gnNe_of ne'); (simp only [GnNe] at ne'); (try k_sweep))
  k_with "callWith ref" => (k_here; k_dflt (refine' callWith_q ?k1 ?k2 ?k3 ?k4 ?_; (case k1 => k_asm); (case k2 => k_mem); (case k3 => decide); (case k4 => decide); k_whole))
  k_with "wpAt" => dsimp only
  trivial
theorem refuse_row (self : Value) : refuseLoop self "__setattr__" [.ref 145, .type "list", .type "object"] = pure () := by
  rw [refuseLoop_ref]
  kernel_rfl
theorem set_row {A : Around} {items : Array Value} {n : Nat} {Q : Unit → Shared → Prop} (F : Fr H L s.heap m) (X₀ : (hd.heap_39 w.params).In H) (N : News H L s.heap ((row, rowObj items n dx) :: (dx, emptyDict) :: news)) (hne : row ≠ dx) (hnd : ∀ p ∈ news, p.1 ≠ dx)
   (h : ∀ h' tk tk₀, Fr H L h' m → News H L h' ((row, rowObj items n dx) :: (dx, dictOf [dEnt w.params size tk₀ t] 1) :: news) → Q () { s with heap := h', toks := tk }) :
   wpAny (model Challenge.rw_pe0060_01.row.prog w) A (setAttr (.ref row) (Str.ofString "_initial_size") (.int size t)) Q E s := by
  have X := X₀.keeps F.keep
  have I : InstAt s.heap row (rowObj items n dx) 145 (some emptyDict) := inst_row N (.head _) (.tail _ (.head _))
  refine set_plain X I (by rfl) ?_
  have SF := PySem.F.store_object
  obtain ⟨hp, g, d, tk, os⟩ := s
  have sub : Looks (model Challenge.rw_pe0060_01.row.prog w) hp (isInstance (.ref row) (.type "object")) true := I.type.andThen (looks_mroIn X (by rfl))
  have hm : Looks (model Challenge.rw_pe0060_01.row.prog w) hp (mroOf (.ref 145)) [.ref 145, .type "list", .type "object"] := (looks_clsIn X (by rfl)).andThen .now
  refine codeAny_call_builtin SF.slot.plain SF.entry (@check_slot _ _ _ ⟨hp, g, d, tk + 1, os⟩ "object.__setattr__" "object" "__setattr__" (.ref row) [.str (Str.ofString "_initial_size") tk, .int size t] [] _ SF.kind SF.split sub (SF.args _ _ _) ?_)
  rw [osa_eq, refuse_eq]
  refine wpAny_bind (wpAny_bind (Looks.at I.type (wpAny_bind (Looks.at hm ?_))))
  rw [refuse_row]
  refine wpAny_pure (wpAny_bind (Looks.at I.type (wpAny_bind (Looks.at (looks_findIn X (by rfl : findIn (hd.heap_39 w.params) (.ref 145) (Str.ofString "_initial_size") = some none)) (wpAny_bind (wpAny_pure ?_))))))
  have D := (N (dx, emptyDict) (.tail _ (.head _))).1
  obtain ⟨U1, U2⟩ := news_upd (f := Obj.putName (Str.ofString "_initial_size") (PyData.keyHash w.params (Str.ofString "_initial_size")) (.str (Str.ofString "_initial_size") (tk + 1)) (.int size t)) (pre := [(row, rowObj items n dx)]) (post := news) (o' := dictOf [dEnt w.params size (tk + 1) t] 1) F N (by intro p hp; rw [List.mem_singleton.mp hp]; exact hne) hnd rfl rfl
  have D' := (U2 (dx, dictOf [dEnt w.params size (tk + 1) t] 1) (.tail _ (.head _))).1
  refine wpAny_bind (wpAny_pure (wpAny_bind (wpAny_bind (wpAny_loadPart (s := ⟨hp, g, d, tk + 1, os⟩) (N _ (.head _)).1 (wpAny_bind (Looks.at (looks_clsIn X (by rfl)) (wpAny_pure (a := some dx) (wpAny_bind (wpAny_pure (wpAny_bind ?_))))))))))
  unfold nsSet
  refine wpAny_bind (wpAny_bind (wpAny_askSetting (wpAny_pure (wpAny_bind (wpAny_mkText (wpAny_bind (wpAny_loadPart D ?_)))))))
  refine wpAny_updatePart D ?_
  refine wpAny_bind (wpAny_lookBehind D' (pastItsLine_dict (show 1 ≤ sizeLine + 1 by decide)) ?_)
  exact wpAny_pure (h _ _ _ U1 U2)
theorem words11 : True := by
  k_with_none
  k_with "k_inst" => (refine' inst_row ?N ?h1 ?h2; (case N => k_asm); (case h1 => k_mem); (case h2 => k_mem))
  k_with "k_all" => with_reducible assumption
  k_with "getMethod ref" => (k_here; k_dflt ((first | refine' super_len_K ?k1 ?k2 ?k3 ?k4 ?k5 ?k6 ?_ | refine' super_pop_K ?k1 ?k2 ?k3 ?k4 ?k5 ?k6 ?_ | refine' super_init_K ?k1 ?k2 ?k3 ?k4 ?k5 ?k6 ?_); (case k1 => k_asm); (case k2 => k_asm); (case k3 => k_asm); (case k4 => k_mem); (case k5 => k_mem); (case k6 => k_mem); k_whole); intro q' h' tk' F' N' ne'; (replace ne' := gnNe_of ne'); (simp only [GnNe] at ne'); (try k_sweep))
  k_with "callWith ref" => (k_here; k_dflt (refine' callWith_q ?k1 ?k2 ?k3 ?k4 ?_; (case k1 => k_asm); (case k2 => k_mem); (case k3 => decide); (case k4 => decide); k_whole))
  k_with "wpAt" => dsimp only
  k_with "setAttr ref" => (k_here; k_dflt (refine' set_row ?k1 ?k2 ?k3 ?k4 ?k5 ?_; (case k1 => k_asm); (case k2 => k_asm); (case k3 => k_asm); (case k4 => with_reducible assumption); (case k5 => with_reducible assumption); k_whole); intro h' tk' tk0' F' N'; (try k_sweep))
  k_with "call ref" => (k_here; k_dflt (refine' init_bound ?k1 ?k2 ?k3 ?k4 ?k5 ?k6 ?_; (case k1 => k_asm); (case k2 => k_asm); (case k3 => k_asm); (case k6 => k_mem); (case k4 => k_upd); (case k5 => k_mem); k_whole); intro h' F' N'; (try k_sweep))
  trivial
theorem init_c (F : Fr H L s.heap m) (X : (hd.heap_39 w.params).In H) (N : News H L s.heap ((row, rowObj #[] 0 dx) :: (dx, emptyDict) :: news))
   (T : Top p loose mean mg mb H) (hne : @Ne Nat row dx) (hnw : ∀ p ∈ news, p.1 ≠ row) (hnd : ∀ p ∈ news, p.1 ≠ dx) {R : Result → Shared → Prop}
   (hret : ∀ h' tk tk₀, Fr H L h' m → News H L h' ((row, rowObj #[] 0 dx) :: (dx, dictOf [dEnt w.params size tk₀ t] 1) :: news) → R (.ok (.ret .none)) { s with heap := h', toks := tk }) :
   codeAny (model Challenge.rw_pe0060_01.row.prog w) ((callerA.deeper (envX cn (Scope.mk .function nms ig ic mr) L a ccd cl)).under (.builtin "type.__call__" ⟨[.ref 145, .int size t], []⟩)) (.call (.ref 82) ⟨[.ref row, .int size t], []⟩) R s := by
  revert X
  k_fill
  intro X
  have B := below_caller H
  refine' ks_code_super B F X N T ?kA ?kF ?kK ?k6 ?k7 ?k8 ?k9 ?kB ?_ ?c1 ?c2 ?c3 ?c4; (case kA => exact rfl); (case kF => exact rfl); (case kK => exact rfl); (case k6 => k_is); (case k7 => k_is); (case k8 => k_room); (case k9 => exact binds_K (X.keeps F.keep) rfl (by rfl) rfl rfl rfl); (case kB => exact locs rfl); (case c1 => decide); (case c2 => exact rfl); (case c3 => exact rfl); (case c4 => exact rfl); intro g' L' h' FG' F' N' B' X' T' l1; (try k_lt l1); (try dsimp only); (try k_lift B')
  repeat' (first | (k_unfold; (try dsimp only)) | ((fail_if_success ks_step "exec Expr"); walk1) | ((fail_if_success ks_step "exec Expr"); dsimp only; walk1))
  refine ks_wpAt_Expr_any ?_
  refine ks_wpAt_MethodCall ?_
  k_steps
  rename_i kF kN _ _
  exact hret _ _ _ kF fun p hp => kN p (.tail _ (.tail _ hp))
end
end Mine
end
section
open PySem PySem.W PyProof.Rows
namespace Mine
theorem fresh16 : True ∧ True := by
  k_with_none
  first | (walk1; fail) | (w_top off; exact ⟨trivial, trivial⟩)
end Mine
end
section
open PySem PySem.W PySem.W.X PyProof.Rows PySem.Calls
namespace Mine
set_option maxRecDepth 100000
set_option maxHeartbeats 4000000
section
open Builtin
variable {w : World} {p : Program} {loose : List Str} {mean : ExcName → Option Value} {mg mb : Str → Option Value}
   {cn : Str} {nms : List (Str × NameKind)} {ig ic : Bool} {mr : List (Str × Const)} {a : Addr} {ccd : Value} {cl : List (Str × Addr)} {H : Heap} {L : Addr} {m : Str → Option Value} {s : Shared} {Q E : Value → Shared → Prop} {news : List (Addr × Obj)}
   {size : Int} {t : Tok}
theorem create_c (F : Fr H L s.heap m) (X : (hd.heap_39 w.params).In H) (N : News H L s.heap news) (T : Top p loose mean mg mb H)
   (hret : ∀ h' tk tk₀ row dx, Fr H L h' m → News H L h' ((row, rowObj #[] 0 dx) :: (dx, dictOf [dEnt w.params size tk₀ t] 1) :: news) → @Ne Nat row dx → (∀ p ∈ news, p.1 ≠ row) → (∀ p ∈ news, p.1 ≠ dx) → Q (.ref row) { s with heap := h', toks := tk }) :
   wpAny (model Challenge.rw_pe0060_01.row.prog w) (callerA.deeper (envX cn (Scope.mk .function nms ig ic mr) L a ccd cl)) (call (.ref 145) [.int size t]) Q E s := by
  have X' := X.keeps F.keep
  have hC := X' 145 _ rfl
  have call := looks_specialIn (M := model Challenge.rw_pe0060_01.row.prog w) X' (by rfl : specialIn (hd.heap_39 w.params) (.ref 145) "__call__" = some (some (.builtin "type.__call__")))
  have typ := looks_instIn (M := model Challenge.rw_pe0060_01.row.prog w) X' (by rfl : instIn (hd.heap_39 w.params) (.ref 145) (.type "type") = some true)
  have new := looks_findIn (M := model Challenge.rw_pe0060_01.row.prog w) X' (by rfl : findIn (hd.heap_39 w.params) (.ref 145) "__new__" = some (some (.builtin "list.__new__")))
  have ini := looks_findIn (M := model Challenge.rw_pe0060_01.row.prog w) X' (by rfl : findIn (hd.heap_39 w.params) (.ref 145) "__init__" = some (some (.ref 82)))
  have hm : Looks (model Challenge.rw_pe0060_01.row.prog w) s.heap (mroOf (.ref 145)) [.ref 145, .type "list", .type "object"] := (looks_clsIn X' (by rfl)).andThen .now
  have self := looks_subIn (M := model Challenge.rw_pe0060_01.row.prog w) X' (by rfl : subIn (hd.heap_39 w.params) (.ref 145) (.ref 145) = some true)
  have bnd := fun v => bind_fn (M := model Challenge.rw_pe0060_01.row.prog w) X' v (by rfl : typeIn (hd.heap_39 w.params) (.ref 82) = some (.type "function"))
  obtain ⟨hh, g, d, tk, os⟩ := s
  refine wpAny_call (codeAny_of_tree ?_)
  show wpAny _ _ (callAny (.ref 145) _) _ _ _
  refine nd_load hC ?_
  show wpAny _ _ (callAny.viaDunder (.ref 145) _) _ _ _
  unfold callAny.viaDunder
  refine wpAny_bind (call.at ?_)
  dsimp only
  rw [tc_bind]
  refine wpAny_bind (wpAny_pure (wpAny_bind (wpAny_pure ?_)))
  refine wpAny_pure (a := Fin.again (.call (.builtin "type.__call__") ⟨[.ref 145, .int size t], []⟩)) (And.intro rfl ?_)
  refine codeAny_call_builtin_at (Code.quiet_builtin _ (by decide +kernel)) entry_typeCall (check_slot tc_kind tc_split typ (tc_args _ _ _) ?_)
  unfold Builtin.«type.__call__»
  repeat ((fail_if_success (with_reducible show wpAny _ _ (PySem.call _ _ _) _ _ _)); lk)
  refine list_new (s := ⟨hh, g, d, tk, os⟩) X' fun v h' tk' nw D ⟨x, dx, e1, e2⟩ => ?_
  subst e1 e2
  have k : ∀ b o, hh.get? b = some o → h'.get? b = some o := fun b o e => D.keep b o e (by simp [away])
  have hx := (D.nw _ (.head _)).1
  have hdx := (D.nw _ (.tail _ (.head _))).1
  have nx := (D.nw _ (.head _)).2
  have nd := (D.nw _ (.tail _ (.head _))).2
  have hne : @Ne Nat x dx := by
    have := D.ord
    simp only [List.map_cons, List.map_nil, List.pairwise_cons] at this
    exact Nat.ne_of_gt (this.1 dx (.head _))
  have t1 : Looks (model Challenge.rw_pe0060_01.row.prog w) h' (typeOf (.ref x)) (.ref 145) := (Looks.ld hx).andThen .now
  have s1 := self.keeps k
  have i1 := ini.keeps k
  have b1 := (bnd (.ref x)).keeps k
  obtain ⟨F1, N1⟩ : Fr H L h' m ∧ News H L h' ((x, rowObj #[] 0 dx) :: (dx, emptyDict) :: news) := by
    obtain ⟨oL, es, ep, hL, r⟩ := F.ns
    refine ⟨⟨⟨oL, es, ep, k _ _ hL, r⟩, fun b o e => k b o (F.keep b o e), F.above⟩, fun p hp => ?_⟩
    have fresh : ∀ q o, h'.get? q = some o → hh.get? q = none → h'.get? q = some o ∧ q ≠ L ∧ H.get? q = none := fun q o e e' => ⟨e, fun z => (by rw [z] at e'; rw [show hh.get? L = none from e'] at hL; cases hL), by
      cases z : H.get? q with
      | none => rfl
      | some o' => have := F.keep _ _ z; rw [show hh.get? q = none from e'] at this; cases this⟩
    rcases List.mem_cons.mp hp with rfl | hp
    · exact fresh _ _ hx nx
    rcases List.mem_cons.mp hp with rfl | hp
    · exact fresh _ _ hdx nd
    · exact ⟨k _ _ (N p hp).1, (N p hp).2⟩
  unfold isInstance callSpecial? specialOf
  repeat (first | with_reducible refine wpAny_call ?_ | lk)
  have nwx : ∀ p ∈ news, p.1 ≠ x := fun p hp e => by have := (N p hp).1; rw [e, show hh.get? x = none from nx] at this; cases this
  have nwd : ∀ p ∈ news, p.1 ≠ dx := fun p hp e => by have := (N p hp).1; rw [e, show hh.get? dx = none from nd] at this; cases this
  refine init_c (s := ⟨h', g, d, tk', os⟩) F1 X N1 T hne nwx nwd fun h'' tk'' tk₀ F2 N2 => ?_
  exact wpAny_pure (wpAny_pure (hret _ _ _ _ _ F2 N2 hne nwx nwd))
end
end Mine
end
section
open PySem PySem.W PyProof.Rows
namespace Mine
theorem fresh17 : True ∧ True := by
  k_with_none
  first | (walk1; fail) | (w_top off; exact ⟨trivial, trivial⟩)
end Mine
end
section
open PySem PySem.W PyProof.Rows
namespace Mine
set_option maxRecDepth 100000
set_option maxHeartbeats 8000000
noncomputable section
noncomputable def PP : Params := { strHash := fun _ => 7, shareClass := fun a => a, mergeTok := fun t => t, idOf := fun _ => 0, idOfShared := fun _ _ => 0, followText := fun _ => false, idOfImm := fun _ => 0 }
noncomputable def lawBody : List Stmt := by
  refine (fun (_ : (hd.heap_39 PP).lookup 173 = some ⟨?a1, ?a2, .func (fnOf ?b1 ?b2 ?b3 ?b4 ?b5 ?b6 ?b7 ?b8 ?b9 ?b10 ?b11 ?b12), ?a3⟩) => ?b4) ?h
  case h => with_unfolding_all rfl
noncomputable def lawScope : Scope := by
  refine (fun (_ : (hd.heap_39 PP).lookup 173 = some ⟨?a1, ?a2, .func (fnOf ?b1 ?b2 ?b3 ?b4 ?b5 ?b6 ?b7 ?b8 ?b9 ?b10 ?b11 ?b12), ?a3⟩) => ?b5) ?h
  case h => with_unfolding_all rfl
noncomputable def sNumbers : Stmt := by
  refine (fun (_ : lawBody = [?s0, ?s1, ?s2, ?s3, ?s4, ?s5, ?s6, ?s7, ?s8, ?s9, ?s10, ?s11]) => ?s0) ?h
  case h => with_unfolding_all rfl
noncomputable def sDraw : Stmt := by
  refine (fun (_ : lawBody = [?s0, ?s1, ?s2, ?s3, ?s4, ?s5, ?s6, ?s7, ?s8, ?s9, ?s10, ?s11]) => ?s1) ?h
  case h => with_unfolding_all rfl
noncomputable def sSize : Stmt := by
  refine (fun (_ : lawBody = [?s0, ?s1, ?s2, ?s3, ?s4, ?s5, ?s6, ?s7, ?s8, ?s9, ?s10, ?s11]) => ?s2) ?h
  case h => with_unfolding_all rfl
noncomputable def sRow : Stmt := by
  refine (fun (_ : lawBody = [?s0, ?s1, ?s2, ?s3, ?s4, ?s5, ?s6, ?s7, ?s8, ?s9, ?s10, ?s11]) => ?s3) ?h
  case h => with_unfolding_all rfl
noncomputable def sText : Stmt := by
  refine (fun (_ : lawBody = [?s0, ?s1, ?s2, ?s3, ?s4, ?s5, ?s6, ?s7, ?s8, ?s9, ?s10, ?s11]) => ?s4) ?h
  case h => with_unfolding_all rfl
noncomputable def sBrackets : Stmt := by
  refine (fun (_ : lawBody = [?s0, ?s1, ?s2, ?s3, ?s4, ?s5, ?s6, ?s7, ?s8, ?s9, ?s10, ?s11]) => ?s5) ?h
  case h => with_unfolding_all rfl
noncomputable def sBounds : Stmt := by
  refine (fun (_ : lawBody = [?s0, ?s1, ?s2, ?s3, ?s4, ?s5, ?s6, ?s7, ?s8, ?s9, ?s10, ?s11]) => ?s6) ?h
  case h => with_unfolding_all rfl
noncomputable def forA : Stmt := by
  refine (fun (_ : lawBody = [?s0, ?s1, ?s2, ?s3, ?s4, ?s5, ?s6, ?s7, ?s8, ?s9, ?s10, ?s11]) => ?s7) ?h
  case h => with_unfolding_all rfl
noncomputable def ifStr : Stmt := by
  refine (fun (_ : lawBody = [?s0, ?s1, ?s2, ?s3, ?s4, ?s5, ?s6, ?s7, ?s8, ?s9, ?s10, ?s11]) => ?s8) ?h
  case h => with_unfolding_all rfl
noncomputable def forC : Stmt := by
  refine (fun (_ : lawBody = [?s0, ?s1, ?s2, ?s3, ?s4, ?s5, ?s6, ?s7, ?s8, ?s9, ?s10, ?s11]) => ?s9) ?h
  case h => with_unfolding_all rfl
noncomputable def forD : Stmt := by
  refine (fun (_ : lawBody = [?s0, ?s1, ?s2, ?s3, ?s4, ?s5, ?s6, ?s7, ?s8, ?s9, ?s10, ?s11]) => ?s10) ?h
  case h => with_unfolding_all rfl
noncomputable def sRet : Stmt := by
  refine (fun (_ : lawBody = [?s0, ?s1, ?s2, ?s3, ?s4, ?s5, ?s6, ?s7, ?s8, ?s9, ?s10, ?s11]) => ?s11) ?h
  case h => with_unfolding_all rfl
theorem lawBody_eq : lawBody = [sNumbers, sDraw, sSize, sRow, sText, sBrackets, sBounds, forA, ifStr, forC, forD, sRet] := rfl
noncomputable def iterA : Expr := by
  refine (fun (_ : forA = .For ?t ?i ?b ?o ?p) => ?i) ?h
  case h => with_unfolding_all rfl
noncomputable def bodyA : List Stmt := by
  refine (fun (_ : forA = .For ?t ?i ?b ?o ?p) => ?b) ?h
  case h => with_unfolding_all rfl
noncomputable def iterC : Expr := by
  refine (fun (_ : forC = .For ?t ?i ?b ?o ?p) => ?i) ?h
  case h => with_unfolding_all rfl
noncomputable def bodyC : List Stmt := by
  refine (fun (_ : forC = .For ?t ?i ?b ?o ?p) => ?b) ?h
  case h => with_unfolding_all rfl
noncomputable def iterD : Expr := by
  refine (fun (_ : forD = .For ?t ?i ?b ?o ?p) => ?i) ?h
  case h => with_unfolding_all rfl
noncomputable def bodyD : List Stmt := by
  refine (fun (_ : forD = .For ?t ?i ?b ?o ?p) => ?b) ?h
  case h => with_unfolding_all rfl
noncomputable def aOpening : Stmt := by
  refine (fun (_ : bodyA = [?s0, ?s1, ?s2, ?s3, ?s4, ?s5, ?s6, ?s7, ?s8, ?s9, ?s10, ?s11]) => ?s0) ?h
  case h => with_unfolding_all rfl
noncomputable def aMark : Stmt := by
  refine (fun (_ : bodyA = [?s0, ?s1, ?s2, ?s3, ?s4, ?s5, ?s6, ?s7, ?s8, ?s9, ?s10, ?s11]) => ?s1) ?h
  case h => with_unfolding_all rfl
noncomputable def aSigns : Stmt := by
  refine (fun (_ : bodyA = [?s0, ?s1, ?s2, ?s3, ?s4, ?s5, ?s6, ?s7, ?s8, ?s9, ?s10, ?s11]) => ?s2) ?h
  case h => with_unfolding_all rfl
noncomputable def aFits : Stmt := by
  refine (fun (_ : bodyA = [?s0, ?s1, ?s2, ?s3, ?s4, ?s5, ?s6, ?s7, ?s8, ?s9, ?s10, ?s11]) => ?s3) ?h
  case h => with_unfolding_all rfl
noncomputable def forB : Stmt := by
  refine (fun (_ : bodyA = [?s0, ?s1, ?s2, ?s3, ?s4, ?s5, ?s6, ?s7, ?s8, ?s9, ?s10, ?s11]) => ?s4) ?h
  case h => with_unfolding_all rfl
noncomputable def aIf : Stmt := by
  refine (fun (_ : bodyA = [?s0, ?s1, ?s2, ?s3, ?s4, ?s5, ?s6, ?s7, ?s8, ?s9, ?s10, ?s11]) => ?s5) ?h
  case h => with_unfolding_all rfl
noncomputable def aChosen : Stmt := by
  refine (fun (_ : bodyA = [?s0, ?s1, ?s2, ?s3, ?s4, ?s5, ?s6, ?s7, ?s8, ?s9, ?s10, ?s11]) => ?s6) ?h
  case h => with_unfolding_all rfl
noncomputable def aBody : Stmt := by
  refine (fun (_ : bodyA = [?s0, ?s1, ?s2, ?s3, ?s4, ?s5, ?s6, ?s7, ?s8, ?s9, ?s10, ?s11]) => ?s7) ?h
  case h => with_unfolding_all rfl
noncomputable def aPush : Stmt := by
  refine (fun (_ : bodyA = [?s0, ?s1, ?s2, ?s3, ?s4, ?s5, ?s6, ?s7, ?s8, ?s9, ?s10, ?s11]) => ?s8) ?h
  case h => with_unfolding_all rfl
noncomputable def aText : Stmt := by
  refine (fun (_ : bodyA = [?s0, ?s1, ?s2, ?s3, ?s4, ?s5, ?s6, ?s7, ?s8, ?s9, ?s10, ?s11]) => ?s9) ?h
  case h => with_unfolding_all rfl
noncomputable def aBrackets : Stmt := by
  refine (fun (_ : bodyA = [?s0, ?s1, ?s2, ?s3, ?s4, ?s5, ?s6, ?s7, ?s8, ?s9, ?s10, ?s11]) => ?s10) ?h
  case h => with_unfolding_all rfl
noncomputable def aBounds : Stmt := by
  refine (fun (_ : bodyA = [?s0, ?s1, ?s2, ?s3, ?s4, ?s5, ?s6, ?s7, ?s8, ?s9, ?s10, ?s11]) => ?s11) ?h
  case h => with_unfolding_all rfl
theorem bodyA_eq : bodyA = [aOpening, aMark, aSigns, aFits, forB, aIf, aChosen, aBody, aPush, aText, aBrackets, aBounds] := rfl
noncomputable def iterB : Expr := by
  refine (fun (_ : forB = .For ?t ?i ?b ?o ?p) => ?i) ?h
  case h => with_unfolding_all rfl
noncomputable def bodyB : List Stmt := by
  refine (fun (_ : forB = .For ?t ?i ?b ?o ?p) => ?b) ?h
  case h => with_unfolding_all rfl
noncomputable def bPush : Stmt := by
  refine (fun (_ : bodyB = [?s0, ?s1, ?s2]) => ?s0) ?h
  case h => with_unfolding_all rfl
noncomputable def bIf : Stmt := by
  refine (fun (_ : bodyB = [?s0, ?s1, ?s2]) => ?s1) ?h
  case h => with_unfolding_all rfl
noncomputable def bPop : Stmt := by
  refine (fun (_ : bodyB = [?s0, ?s1, ?s2]) => ?s2) ?h
  case h => with_unfolding_all rfl
theorem bodyB_eq : bodyB = [bPush, bIf, bPop] := rfl
noncomputable def cDue : Stmt := by
  refine (fun (_ : bodyC = [?s0, ?s1, ?s2]) => ?s0) ?h
  case h => with_unfolding_all rfl
noncomputable def cIf : Stmt := by
  refine (fun (_ : bodyC = [?s0, ?s1, ?s2]) => ?s1) ?h
  case h => with_unfolding_all rfl
noncomputable def cPort : Stmt := by
  refine (fun (_ : bodyC = [?s0, ?s1, ?s2]) => ?s2) ?h
  case h => with_unfolding_all rfl
theorem bodyC_eq : bodyC = [cDue, cIf, cPort] := rfl
noncomputable def dPop : Stmt := by
  refine (fun (_ : bodyD = [?s0, ?s1, ?s2]) => ?s0) ?h
  case h => with_unfolding_all rfl
noncomputable def dIf1 : Stmt := by
  refine (fun (_ : bodyD = [?s0, ?s1, ?s2]) => ?s1) ?h
  case h => with_unfolding_all rfl
noncomputable def dIf2 : Stmt := by
  refine (fun (_ : bodyD = [?s0, ?s1, ?s2]) => ?s2) ?h
  case h => with_unfolding_all rfl
theorem bodyD_eq : bodyD = [dPop, dIf1, dIf2] := rfl
noncomputable abbrev lawEnv (L fa : Addr) (cd : Value) : Env := envX (Str.ofString "law") lawScope L fa cd [(Str.ofString "k", L + 1 + 1), (Str.ofString "size", L + 1)]
theorem lawEnv_eq (L fa : Addr) (cd : Value) : envOfC (Str.ofString "law") lawScope L fa cd = lawEnv L fa cd := rfl
end
end Mine
end
section
open PySem PySem.W PyProof.Rows
namespace Mine
theorem fresh18 : True ∧ True := by
  k_with_none
  first | (walk1; fail) | (w_top off; exact ⟨trivial, trivial⟩)
end Mine
end
section
open PySem PySem.W PyProof.Rows
namespace Mine
set_option maxRecDepth 100000
set_option maxHeartbeats 8000000
noncomputable def GoodT (cw : ClaimW) (cl : Str → Option Addr) (mean : ExcName → Option Value) (args : List WData) (s₁ : Shared) (tabs : List (Addr × Addr)) (r : Result) (s' : Shared) : Prop :=
  ((∃ v d, r = .ok (.ret v) ∧ (∀ cls, cw.raises args cls = false) ∧ ReadsW cw.records cl s'.heap v d [] ∧ cw.post args d args = true)) ∧
  (∀ b o, (ghostOf s₁.heap tabs).get? b = some o → s'.heap.get? b = some o) ∧ s'.os = s₁.os ∧ AllBare s'.gens ∧ GrownAll tabs s'.heap
theorem my_post {M : Model} {A : Around} {cd : Code} {s s₁ : Shared} {cw : ClaimW} {cl : Str → Option Addr} {mean : ExcName → Option Value} {args : List WData} {tabs : List (Addr × Addr)} (hT : TabsAt tabs s₁.heap)
    (h : codeAny M A cd (GoodT cw cl mean args s₁ tabs) s) : codeAny M A cd (GoodWG cw cl mean args s₁) s :=
  codeAny_mono h fun r s' ⟨hc, hk, hos, hg, hgr⟩ => by
    have keep : ∀ b o, b ∉ tabs.map (·.2) → s₁.heap.get? b = some o → s'.heap.get? b = some o := fun b o hb e => hk b o (ghost_ne e hb)
    have grown : ∀ b o, b ∈ tabs.map (·.2) → s₁.heap.get? b = some o → isCodeTable s₁.heap b ∧ o = tabObj #[] ∧ ∃ ps, s'.heap.get? b = some (tabObj ps) := fun b o hb e => by
      obtain ⟨q, hq, rfl⟩ := List.mem_map.mp hb
      have e2 := (hT q hq).2
      rw [e] at e2
      exact ⟨((hT q hq).1.tab (hT q hq).2).isCodeTable, Option.some.inj e2, hgr.get q hq⟩
    refine ⟨?_, ⟨fun b o e => ?_, fun b o e => ?_⟩, hos, hg⟩
    · obtain ⟨v, d, r1, r2, r3, r4⟩ := hc
      exact .inl ⟨v, d, [], r1, r2, r3, r4, fun q => ⟨.nil, fun a ha => by cases ha⟩⟩
    · by_cases hb : b ∈ tabs.map (·.2)
      · obtain ⟨ht, rfl, ps, hP⟩ := grown b o hb e
        exact .inr (.inl ⟨ht, rfl, #[], ps, rfl, by rw [Array.empty_append]; exact hP⟩)
      · exact .inl (keep b o hb e)
    · by_cases hb : b ∈ tabs.map (·.2)
      · obtain ⟨_, _, ps, hP⟩ := grown b o hb e
        exact ⟨_, hP⟩
      · exact ⟨o, keep b o hb e⟩
noncomputable def LawGoal : Prop := ∀ (w : World) (p : Program) (loose : List Str) (mean : ExcName → Option Value) (mg mb : Str → Option Value) (H : Heap) (L fa : Addr) (cd : Value) (s : Shared) (ok osz : Obj) (sl : Addr) (vs : List Value) (ns : List Int),
  (hd.heap_39 w.params).In H → Top p loose mean mg mb H → H.IsList sl vs.toArray → IntsAre vs ns → ns.length ≤ 63 → @LT.lt Nat _ 107 L → @LT.lt Nat _ 114 L → Fr H L s.heap (fun y => if y = Str.ofString "script" then some (.ref sl) else none) →
  News H L s.heap [(L + 1 + 1, ok), (L + 1, osz), (107, tabObj #[]), (114, tabObj #[])] → ok.data = .cell none → osz.data = .cell none → AllBare s.gens →
  wpAny (model Challenge.rw_pe0060_01.row.prog w) (callerA.deeper (lawEnv L fa cd)) (execs lawBody (lawEnv L fa cd))
    (fun f s' => f = .ret (.bool true) ∧ (∀ b o, H.get? b = some o → s'.heap.get? b = some o) ∧ s'.os = s.os ∧ AllBare s'.gens ∧ GrownAll [(111, 107), (118, 114)] s'.heap) (fun _ _ => False) s
theorem start_of (lawGoal : LawGoal) : PySem.Challenge.rw_pe0060_01.Holds := by
  refine hd ?_
  w_strict (
    k_fill
    intro w s₀ s₁ mg mb G Y fa o pm cd doc dV kV ho hd' hcd hD hmg hg args vals as hpre hlay hrd hwl hlo
    have KX := km_in_of Y
    have hT8 := km_tabs_of Y
    have hT9 : TabsAt [(111, 107), (118, 114)] s₁.heap := List.forall_mem_cons.mpr ⟨⟨codeHd_of_K KX (by kernel_rfl), hT8 107 (by k_mem)⟩, List.forall_mem_cons.mpr ⟨⟨codeHd_of_K KX (by kernel_rfl), hT8 114 (by k_mem)⟩, fun _ h => nomatch h⟩⟩
    have X := (Ground.X G).1
    have V := (Ground.X G).2
    refine Ground.open G ?_
    intro T B D TE TW
    try (refine guard_noD D (by decide +kernel) ?_; clear D)
    clear hmg
    wrow_args hpre hlay hrd hwl hlo
    all_goals (
      first | refine callC_kw (enter_call ?_) | refine enter_call ?_
      w_top on
      refine my_post hT9 ?_
      w_call any ho hd' hcd hD T F
      clear hd'
      kn_ghosts F T
      k_drop
      skip))
  rename_i hcond _ _ _ _ _ hcl1 hcl2 _ _ _ _ _ _ _ _
  refine wpAny_mono (E := fun _ _ => False) (lawGoal w _ _ _ mg mb (ghostOf s₁.heap [(111, 107), (118, 114)]) _ fa cd _ _ _ _ _ _ (by assumption) (by assumption) (by assumption) (by assumption) (by omega) (And.left (by assumption)) (And.right (by assumption)) (by assumption) (by assumption) hcl1 hcl2 (.of_eq hg)) (fun f s' h => ?_) fun _ _ h => h.elim
  obtain ⟨rfl, hk, hos, hb, hgr⟩ := h
  exact ⟨⟨.bool true, .bool true, rfl, fun _ => rfl, .bool _, (by wrow_post)⟩, hk, hos, hb, hgr⟩
end Mine
end
section
open PySem PySem.W PyProof.Rows
namespace Mine
theorem fresh19 : True ∧ True := by
  k_with_none
  first | (walk1; fail) | (w_top off; exact ⟨trivial, trivial⟩)
end Mine
end
section
open PySem PySem.W PyProof.Rows
namespace Mine
set_option maxRecDepth 100000
set_option maxHeartbeats 8000000
noncomputable abbrev pL (r : Str) : Int := Txt.find r (Str.ofString "(")
noncomputable abbrev pR (r : Str) : Int := Txt.find3 r (Str.ofString ")") (Txt.find r (Str.ofString "(") + 1)
noncomputable abbrev pParts (r : Str) : List Str := Txt.split (Txt.slice r (some (Txt.find r (Str.ofString "(") + 1)) (some (Txt.find3 r (Str.ofString ")") (Txt.find r (Str.ofString "(") + 1)))) (Txt.item r (Txt.find r (Str.ofString "(") + 1))
noncomputable def NoPort (r : Str) : Prop := pL r < 0 ∨ (¬ pL r < 0 ∧ pR r < 0) ∨ (¬ pL r < 0 ∧ ¬ pR r < 0 ∧ (Txt.item r (pL r + 1) != Txt.item r (pR r - 1)) = true) ∨ (¬ pL r < 0 ∧ ¬ pR r < 0 ∧ (pParts r).length ≠ 5)
noncomputable def IntOk (r : Str) : Prop := ¬ pL r < 0 → ¬ pR r < 0 → (Txt.item r (pL r + 1) != Txt.item r (pR r - 1)) = false → (pParts r).length = 5 → ∀ y, (pParts r)[3]? = some y → ∃ n, PySem.intText? y = some n ∧ 0 ≤ n ∧ n < 10 ^ 10
inductive PVal (r : Str) : Value → Prop
  | code {t} : (Txt.slice r none (some 3) != Str.ofString "229") = true → PVal r (.str (Str.ofString "another code") t)
  | none {t} : (Txt.slice r none (some 3) != Str.ofString "229") = false → NoPort r → PVal r (.str (Str.ofString "no port") t)
  | num {t n y} : (Txt.slice r none (some 3) != Str.ofString "229") = false → ¬ pL r < 0 → ¬ pR r < 0 → (Txt.item r (pL r + 1) != Txt.item r (pR r - 1)) = false → (pParts r).length = 5 → (pParts r)[3]? = some y → PySem.intText? y = some n → PVal r (.int n t)
theorem find_bounds (r : Str) : Txt.find r (Str.ofString "(") = -1 ∨ (0 ≤ Txt.find r (Str.ofString "(") ∧ Txt.find r (Str.ofString "(") < r.length) := by
  unfold Txt.find
  rcases StrLaws.occ_head r (Str.ofString "(") 1 (Nat.le_refl 1) with ⟨h0, _⟩ | ⟨i, r', h0, hi, _⟩
  · rw [h0]; exact .inl rfl
  · rw [h0]
    have := hi.1
    have e : (Str.ofString "(").length = 1 := by decide
    exact .inr ⟨by simp, by simp only; omega⟩
theorem ofString_close : Str.ofString ")" = ⟨#[41]⟩ := by decide
theorem ofString_open : Str.ofString "(" = ⟨#[40]⟩ := by decide
theorem find3_bounds (r : Str) (i : Int) (h0 : 0 ≤ i) (hi : i ≤ r.length) : Txt.find3 r (Str.ofString ")") i = -1 ∨ (i ≤ Txt.find3 r (Str.ofString ")") i ∧ Txt.find3 r (Str.ofString ")") i < r.length) := by
  rw [ofString_close]
  have e : (fromIndex r.length i : Int) = i := by
    unfold fromIndex
    rw [if_neg (by omega)]
    omega
  rcases StrLaws.find3_spec r 41 i with ⟨h, _⟩ | ⟨k, h, h1, h2, _⟩
  · exact .inl h
  · rw [h]; refine .inr ⟨by omega, by omega⟩
section
variable {w : World} {p : Program} {loose : List Str} {mean : ExcName → Option Value} {mg mb : Str → Option Value}
   {cn : Str} {nms : List (Str × NameKind)} {ig ic : Bool} {mr : List (Str × Const)} {a : Addr} {ccd : Value} {cl : List (Str × Addr)} {H : Heap} {L : Addr} {m : Str → Option Value} {s : Shared} {Q E : Value → Shared → Prop} {news : List (Addr × Obj)}
theorem item_in {prog : Program} {A : Around} {value slice : PySem.Expr} {x : Str} {t u : Tok} {i : Int} (h0 : 0 ≤ i) (h1 : i < x.length) (hx : x.length ≤ 10000) (h : ∀ t, Q (.str (Txt.item x i) t) { s with toks := s.toks + 1 })
    (hs : subscripted slice false (.str x t) (.int i u) = operate [.str x t, .int i u] (getItem (.str x t) (.int i u)) := by with_unfolding_all rfl)
    (ht : ∀ r, letTemporaryGo value (.str x t) r = pure () := by intro _; with_unfolding_all rfl) : wpAny (model prog w) A (subscriptTail value slice (.str x t) (.int i u)) Q E s :=
  item_str (by unfold fitsSsize; simp; omega) (by omega) h1 (fun _ => h _) hs ht
theorem words12 : True := by
  k_with_none
  k_with "subscriptTail" => ((with_reducible show wpAny _ _ (subscriptTail _ _ (Value.str _ _) (Value.int _ _)) _ _ _); (with_unfolding_all refine' item_in ?k1 ?k2 ?k3 ?_; (case k1 => omega); (case k2 => omega); (case k3 => omega); k_whole); intro _)
  trivial
theorem parts_ne {r : Str} {l : List (Str × Tok)} (hl : List.map (fun x => x.fst) l = pParts r) (h : ¬ (l.length : Int) = 5) : (pParts r).length ≠ 5 := by rw [← hl, List.length_map]; omega
theorem parts_eq {r : Str} {l : List (Str × Tok)} (hl : List.map (fun x => x.fst) l = pParts r) (h : (l.length : Int) = 5) : (pParts r).length = 5 := by rw [← hl, List.length_map]; omega
theorem int_of {prog : Program} {A : Around} {r y : Str} {t : Tok} (hint : ∀ y, (pParts r)[3]? = some y → ∃ n, PySem.intText? y = some n ∧ 0 ≤ n ∧ n < 10 ^ 10) {l : List (Str × Tok)} {k : Nat} (hl : List.map (fun x => x.fst) l = pParts r) (hy : (List.map (fun x => x.fst) l)[Int.toNat 3]? = some y)
    (hx : ∀ a ∈ List.map (fun x => x.fst) l, a.length ≤ k) (hk : k ≤ 600) (h : ∀ n t, (pParts r)[3]? = some y → PySem.intText? y = some n → 0 ≤ n → n < 10 ^ 10 → Q (.int n t) { s with toks := s.toks + 1 }) : wpAny (model prog w) A (call (.type "int") [.str y t]) Q E s := by
  have hy' : (pParts r)[3]? = some y := by rw [← hl]; exact hy
  obtain ⟨n, hn, h0, h1⟩ := hint y hy'
  exact KIN.call_text hn (Nat.le_trans (hx y (List.mem_of_getElem? hy)) (by omega)) (h n _ hy' hn h0 h1)
theorem words13 : True := by
  k_with_none
  k_with "subscriptTail" => ((with_reducible show wpAny _ _ (subscriptTail _ _ (Value.str _ _) (Value.int _ _)) _ _ _); (with_unfolding_all refine' item_in ?k1 ?k2 ?k3 ?_; (case k1 => omega); (case k2 => omega); (case k3 => omega); k_whole); intro _)
  k_with "call type:int" => (k_here; (with_reducible show wpAny _ _ (call (Value.type _) [Value.str _ _]) _ _ _); (with_unfolding_all refine' int_of ?k1 ?k2 ?k3 ?k4 ?k5 ?_; (case k1 => exact (by assumption : IntOk _) (by assumption) (by assumption) (by assumption) (parts_eq (by assumption) (by assumption))); (case k2 => assumption); (case k3 => assumption); (case k4 => assumption); (case k5 => omega); k_whole); intro n' t' hy' hn' h0' h1')
  trivial
theorem port_c (F : Fr H L s.heap m) (X : (hd.heap_39 w.params).In H) (N : News H L s.heap news) (T : Top p loose mean mg mb H) {r : Str} {t : Tok} (hr : r.length ≤ 600)
   (hint : IntOk r) (hret : ∀ h' tk v, PVal r v → Fr H L h' m → News H L h' news → Q v { s with heap := h', toks := tk }) :
   wpAny (model Challenge.rw_pe0060_01.row.prog w) (callerA.deeper (envX cn (Scope.mk .function nms ig ic mr) L a ccd cl)) (call (.ref 156) [.str r t]) Q E s := by
  have hf1 := find_bounds r
  have hf2 : ¬ Txt.find r (Str.ofString "(") < 0 → Txt.find3 r (Str.ofString ")") (Txt.find r (Str.ofString "(") + 1) = -1 ∨ (Txt.find r (Str.ofString "(") + 1 ≤ Txt.find3 r (Str.ofString ")") (Txt.find r (Str.ofString "(") + 1) ∧ Txt.find3 r (Str.ofString ")") (Txt.find r (Str.ofString "(") + 1) < r.length) := fun h => find3_bounds r _ (by omega) (by omega)
  revert X
  k_fill
  intro X
  have B := below_caller H
  refine wpAny_call ?_
  refine' enterS0 B F X N T ?kA ?kF ?kK ?k6 ?k7 ?k8 ?k9 ?kB ?_ ?c2 ?c3 ?c4 ?c5; (case kA => exact rfl); (case kF => exact rfl); (case kK => exact rfl); (case k6 => k_is); (case k7 => k_is); (case k8 => k_room); (case k9 => exact BindsTo.of_eq rfl); (case kB => exact locs rfl); (case c2 => exact rfl); (case c3 => exact rfl); (case c4 => exact rfl); (case c5 => decide); intro g' L' h' FG' F' N' B' X' T' D'; (try dsimp only); (try k_lift B'); (try k_fold)
  k_steps
  · rename_i kF kN _ _
    exact hret _ _ _ (.code (by assumption)) kF fun p hp => kN p (.tail _ hp)
  · rename_i kF kN _ _
    exact hret _ _ _ (.none (by assumption) (.inl (by assumption))) kF fun p hp => kN p (.tail _ hp)
  · rename_i kF kN _ _
    exact hret _ _ _ (.none (by assumption) (.inr (.inl ⟨by assumption, by assumption⟩))) kF fun p hp => kN p (.tail _ hp)
  · rename_i kF kN _ _
    exact hret _ _ _ (.none (by assumption) (.inr (.inr (.inl ⟨by assumption, by assumption, by assumption⟩)))) kF fun p hp => kN p (.tail _ hp)
  · rename_i kF kN _ _
    exact hret _ _ _ (.none (by assumption) (.inr (.inr (.inr ⟨by assumption, by assumption, parts_ne (by assumption) (by assumption)⟩)))) kF fun p hp => kN p (.tail _ (.tail _ hp))
  · rename_i kF kN _ _
    exact hret _ _ _ (.num (by assumption) (by assumption) (by assumption) (by assumption) (parts_eq (by assumption) (by assumption)) (by assumption) (by assumption)) kF fun p hp => kN p (.tail _ (.tail _ (.tail _ (.tail _ hp))))
end
end Mine
end
section
open PySem PySem.W PyProof.Rows
namespace Mine
theorem fresh20 : True ∧ True := by
  k_with_none
  first | (walk1; fail) | (w_top off; exact ⟨trivial, trivial⟩)
end Mine
end
section
open PySem PySem.W PySem.W.X PyProof.Rows PySem.Calls
namespace Mine
set_option maxRecDepth 100000
set_option maxHeartbeats 4000000
theorem mem_of_upd {d : Addr} {o : Obj} {l : List (Addr × Obj)} {g : Obj → List (Addr × Obj)} (U : UpdF d o l g) : (d, o) ∈ l := by
  obtain ⟨pre, post, rfl, _⟩ := U.split
  exact List.mem_append_right _ (.head _)
section
variable {w : World} {p : Program} {loose : List Str} {mean : ExcName → Option Value} {mg mb : Str → Option Value}
   {cn : Str} {nms : List (Str × NameKind)} {ig ic : Bool} {mr : List (Str × Const)} {a : Addr} {ccd : Value} {cl : List (Str × Addr)} {H : Heap} {L : Addr} {m : Str → Option Value} {s : Shared} {Q E : Value → Shared → Prop} {led : List (Addr × Obj)} {g : Obj → List (Addr × Obj)}
   {row dx : Addr} {items : Array Value} {n : Nat} {size : Int} {tk₀ tk₁ : Tok} {ps : Array Value}
theorem push_K (F : Fr H L s.heap m) (X : (hd.heap_39 w.params).In H) (N : News H L s.heap led) (T : Top p loose mean mg mb H) (U : UpdF row (rowObj items n dx) led g) (hd : (dx, dictOf [dEnt w.params size tk₀ tk₁] 1) ∈ led) (hne : row ≠ dx) (hsz : items.size ≤ 100)
   {f b : Str} {t1 t2 : Tok}
   (hret : ∀ h' tk T', Fr H L h' m → News H L h' ((T', tupObj (.str f t1) (.str b t2)) :: g (rowObj (items.push (.ref T')) (n + 1) dx)) → (∀ p ∈ led, p.1 ≠ T') → Q .none { s with heap := h', toks := tk }) :
   wpAny (model Challenge.rw_pe0060_01.row.prog w) (callerA.deeper (envX cn (Scope.mk .function nms ig ic mr) L a ccd cl)) (call (.ref 89) [.ref row, .str f t1, .str b t2]) Q E s := by
  obtain ⟨pre, post, rfl, hg, h1, h2⟩ := U.split
  have N' : News H L s.heap ((row, rowObj items n dx) :: (dx, dictOf [dEnt w.params size tk₀ tk₁] 1) :: (pre ++ post)) := fun q hq => by
    rcases List.mem_cons.mp hq with rfl | hq
    · exact N _ (List.mem_append_right _ (.head _))
    rcases List.mem_cons.mp hq with rfl | hq
    · exact N _ hd
    rcases List.mem_append.mp hq with hq | hq
    · exact N _ (List.mem_append_left _ hq)
    · exact N _ (List.mem_append_right _ (.tail _ hq))
  refine push_c F X N' T hne (fun q hq => (List.mem_append.mp hq).elim (h1 q) (h2 q)) hsz fun h' tk T' F' N2 l1 l2 l3 => ?_
  have l4 : ∀ q ∈ pre ++ post, q.1 ≠ T' := by
    have all : ∀ (l : List (Addr × Obj)), AllLt T' l → ∀ q ∈ l, q.1 ≠ T' := by
      intro l
      induction l with
      | nil => intro _ q hq; cases hq
      | cons x r ih =>
        intro hl q hq
        rcases List.mem_cons.mp hq with rfl | hq
        · exact Nat.ne_of_lt hl.1
        · exact ih hl.2 q hq
    exact all _ l3
  refine hret h' tk T' F' (fun q hq => ?_) fun q hq => ?_
  · rcases List.mem_cons.mp hq with rfl | hq
    · exact N2 _ (.head _)
    rw [hg] at hq
    rcases List.mem_append.mp hq with hq | hq
    · exact N2 _ (.tail _ (.tail _ (.tail _ (List.mem_append_left _ hq))))
    rcases List.mem_cons.mp hq with rfl | hq
    · exact N2 _ (.tail _ (.head _))
    · exact N2 _ (.tail _ (.tail _ (.tail _ (List.mem_append_right _ hq))))
  · rcases List.mem_append.mp hq with hq | hq
    · exact l4 _ (List.mem_append_left _ hq)
    rcases List.mem_cons.mp hq with rfl | hq
    · exact Nat.ne_of_lt l1
    · exact l4 _ (List.mem_append_right _ hq)
theorem pop_K (F : Fr H L s.heap m) (X : (hd.heap_39 w.params).In H) {x : Value} (N : News H L s.heap led) (T : Top p loose mean mg mb H) (U : UpdF row (rowObj (items.push x) n dx) led g) (hd : (dx, dictOf [dEnt w.params size tk₀ tk₁] 1) ∈ led) (hne : row ≠ dx) (hsz : items.size ≤ 90)
   (hret : ∀ h' tk, Fr H L h' m → News H L h' (g (rowObj items (n + 1) dx)) → Q x { s with heap := h', toks := tk }) :
   wpAny (model Challenge.rw_pe0060_01.row.prog w) (callerA.deeper (envX cn (Scope.mk .function nms ig ic mr) L a ccd cl)) (call (.ref 105) [.ref row]) Q E s := by
  obtain ⟨pre, post, rfl, hg, h1, h2⟩ := U.split
  have N' : News H L s.heap ((row, rowObj (items.push x) n dx) :: (dx, dictOf [dEnt w.params size tk₀ tk₁] 1) :: (pre ++ post)) := fun q hq => by
    rcases List.mem_cons.mp hq with rfl | hq
    · exact N _ (List.mem_append_right _ (.head _))
    rcases List.mem_cons.mp hq with rfl | hq
    · exact N _ hd
    rcases List.mem_append.mp hq with hq | hq
    · exact N _ (List.mem_append_left _ hq)
    · exact N _ (List.mem_append_right _ (.tail _ hq))
  refine pop_c F X N' T hne (fun q hq => (List.mem_append.mp hq).elim (h1 q) (h2 q)) hsz fun h' tk F' N2 => ?_
  refine hret h' tk F' (fun q hq => ?_)
  rw [hg] at hq
  rcases List.mem_append.mp hq with hq | hq
  · exact N2 _ (.tail _ (.tail _ (List.mem_append_left _ hq)))
  rcases List.mem_cons.mp hq with rfl | hq
  · exact N2 _ (.head _)
  · exact N2 _ (.tail _ (.tail _ (List.mem_append_right _ hq)))
theorem pop0_K (F : Fr H L s.heap m) (X : (hd.heap_39 w.params).In H) (N : News H L s.heap led) (T : Top p loose mean mg mb H) (U : UpdF row (rowObj #[] n dx) led g) (hd : (dx, dictOf [dEnt w.params size tk₀ tk₁] 1) ∈ led) (hne : row ≠ dx)
   (hret : ∀ h' tk T' t1 t2, Fr H L h' m → News H L h' ((T', tupObj (.str (Str.ofString "") t1) (.str (Str.ofString "") t2)) :: led) → Q (.ref T') { s with heap := h', toks := tk }) :
   wpAny (model Challenge.rw_pe0060_01.row.prog w) (callerA.deeper (envX cn (Scope.mk .function nms ig ic mr) L a ccd cl)) (call (.ref 105) [.ref row]) Q E s := by
  obtain ⟨pre, post, rfl, hg, h1, h2⟩ := U.split
  have N' : News H L s.heap ((row, rowObj #[] n dx) :: (dx, dictOf [dEnt w.params size tk₀ tk₁] 1) :: (pre ++ post)) := fun q hq => by
    rcases List.mem_cons.mp hq with rfl | hq
    · exact N _ (List.mem_append_right _ (.head _))
    rcases List.mem_cons.mp hq with rfl | hq
    · exact N _ hd
    rcases List.mem_append.mp hq with hq | hq
    · exact N _ (List.mem_append_left _ hq)
    · exact N _ (List.mem_append_right _ (.tail _ hq))
  refine pop0_c F X N' T hne (fun q hq => (List.mem_append.mp hq).elim (h1 q) (h2 q)) fun h' tk T' t1 t2 F' N2 => ?_
  refine hret h' tk T' t1 t2 F' (fun q hq => ?_)
  rcases List.mem_cons.mp hq with rfl | hq
  · exact N2 _ (.head _)
  rcases List.mem_append.mp hq with hq | hq
  · exact N2 _ (.tail _ (.tail _ (.tail _ (List.mem_append_left _ hq))))
  rcases List.mem_cons.mp hq with rfl | hq
  · exact N2 _ (.tail _ (.head _))
  · exact N2 _ (.tail _ (.tail _ (.tail _ (List.mem_append_right _ hq))))
theorem pcnt_K (F : Fr H L s.heap m) (X : (hd.heap_39 w.params).In H) (N : News H L s.heap led) (T : Top p loose mean mg mb H) (U : UpdF row (rowObj items n dx) led g) (hd : (dx, dictOf [dEnt w.params size tk₀ tk₁] 1) ∈ led) (hne : row ≠ dx) (hsz : items.size ≤ 100)
   (hret : ∀ h' tk t, Fr H L h' m → News H L h' led → Q (.int items.size t) { s with heap := h', toks := tk }) :
   wpAny (model Challenge.rw_pe0060_01.row.prog w) (callerA.deeper (envX cn (Scope.mk .function nms ig ic mr) L a ccd cl)) (call (.ref 142) [.ref row]) Q E s := by
  obtain ⟨pre, post, rfl, hg, h1, h2⟩ := U.split
  have N' : News H L s.heap ((row, rowObj items n dx) :: (dx, dictOf [dEnt w.params size tk₀ tk₁] 1) :: (pre ++ post)) := fun q hq => by
    rcases List.mem_cons.mp hq with rfl | hq
    · exact N _ (List.mem_append_right _ (.head _))
    rcases List.mem_cons.mp hq with rfl | hq
    · exact N _ hd
    rcases List.mem_append.mp hq with hq | hq
    · exact N _ (List.mem_append_left _ hq)
    · exact N _ (List.mem_append_right _ (.tail _ hq))
  refine pc_c F X N' T hne (fun q hq => (List.mem_append.mp hq).elim (h1 q) (h2 q)) hsz fun h' tk t F' N2 => ?_
  refine hret h' tk t F' (fun q hq => ?_)
  rcases List.mem_append.mp hq with hq | hq
  · exact N2 _ (.tail _ (.tail _ (List.mem_append_left _ hq)))
  rcases List.mem_cons.mp hq with rfl | hq
  · exact N2 _ (.head _)
  · exact N2 _ (.tail _ (.tail _ (List.mem_append_right _ hq)))
theorem len_KK (F : Fr H L s.heap m) (X : (hd.heap_39 w.params).In H) (N : News H L s.heap led) (T : Top p loose mean mg mb H) (U : UpdF 107 (tabObj ps) led g) (hr : (row, rowObj items n dx) ∈ led) (hd : (dx, dictOf [dEnt w.params size tk₀ tk₁] 1) ∈ led) (hne : row ≠ dx)
   (hsz : items.size ≤ 100) (hg : AllBare s.gens) (hps : TabOk 48 19 ps) (hr7 : row ≠ 107) (hd7 : dx ≠ 107) (hsize : 0 ≤ size) (hsize' : size ≤ 10000)
   (Ts : Nat → Addr) (va vb : Nat → Str) (ta tb : Nat → Tok) (hits : ∀ j, j < items.size → items[j]? = some (.ref (Ts j))) (htup : ∀ j, j < items.size → (Ts j, tupObj (.str (va j) (ta j)) (.str (vb j) (tb j))) ∈ led)
   (hlen : ∀ j, j < items.size → (va j).length + (vb j).length ≤ 100)
   (hret : ∀ s' t ps', TabOk 48 19 ps' → Fr H L s'.heap m → News H L s'.heap (g (tabObj ps')) → AllBare s'.gens → s'.os = s.os → Q (.int (size + preSum (fun j => (va j).length + (vb j).length) items.size) t) s') :
   wpAny (model Challenge.rw_pe0060_01.row.prog w) (callerA.deeper (envX cn (Scope.mk .function nms ig ic mr) L a ccd cl)) (call (.builtin "len") [.ref row]) Q E s := by
  obtain ⟨pre, post, rfl, hgg, h1, h2⟩ := U.split
  have N' : News H L s.heap ((row, rowObj items n dx) :: (dx, dictOf [dEnt w.params size tk₀ tk₁] 1) :: (107, tabObj ps) :: (pre ++ post)) := fun q hq => by
    rcases List.mem_cons.mp hq with rfl | hq
    · exact N _ hr
    rcases List.mem_cons.mp hq with rfl | hq
    · exact N _ hd
    rcases List.mem_cons.mp hq with rfl | hq
    · exact N _ (List.mem_append_right _ (.head _))
    rcases List.mem_append.mp hq with hq | hq
    · exact N _ (List.mem_append_left _ hq)
    · exact N _ (List.mem_append_right _ (.tail _ hq))
  have htup' : ∀ j, j < items.size → (Ts j, tupObj (.str (va j) (ta j)) (.str (vb j) (tb j))) ∈ pre ++ post := fun j hj => by
    rcases List.mem_append.mp (htup j hj) with hq | hq
    · exact List.mem_append_left _ hq
    rcases List.mem_cons.mp hq with e | hq
    · have := congrArg (fun p : Addr × Obj => p.2.cls) e
      cases this
    · exact List.mem_append_right _ hq
  refine len_c F X N' T hne hsz hg hps (fun q hq => (List.mem_append.mp hq).elim (h1 q) (h2 q)) hr7 hd7 hsize hsize' Ts va vb ta tb hits htup' hlen fun s' t ps' hp' F' N2 hb ho => ?_
  refine hret s' t ps' hp' F' (fun q hq => ?_) hb ho
  rw [hgg] at hq
  rcases List.mem_append.mp hq with hq | hq
  · exact N2 _ (.tail _ (.tail _ (.tail _ (List.mem_append_left _ hq))))
  rcases List.mem_cons.mp hq with rfl | hq
  · exact N2 _ (.tail _ (.tail _ (.head _)))
  · exact N2 _ (.tail _ (.tail _ (.tail _ (List.mem_append_right _ hq))))
theorem str_KK (F : Fr H L s.heap m) (X : (hd.heap_39 w.params).In H) (N : News H L s.heap led) (T : Top p loose mean mg mb H) (U : UpdF 114 (tabObj ps) led g) (hr : (row, rowObj items n dx) ∈ led) (hd : (dx, dictOf [dEnt w.params size tk₀ tk₁] 1) ∈ led) (hne : row ≠ dx)
   (hsz : items.size ≤ 100) (hg : AllBare s.gens) (hps : TabOk 51 32 ps) (hr7 : row ≠ 114) (hd7 : dx ≠ 114)
   (Ts : Nat → Addr) (va vb : Nat → Str) (ta tb : Nat → Tok) (hits : ∀ j, j < items.size → items[j]? = some (.ref (Ts j))) (htup : ∀ j, j < items.size → (Ts j, tupObj (.str (va j) (ta j)) (.str (vb j) (tb j))) ∈ led)
   (hlen : ∀ j, j < items.size → (va j).length + (vb j).length ≤ 100)
   (hret : ∀ s' t ps', TabOk 51 32 ps' → Fr H L s'.heap m → News H L s'.heap (g (tabObj ps')) → AllBare s'.gens → s'.os = s.os → Q (.str (Txt.join (Str.ofString "") ((List.range items.size).map fun j => Txt.join (Str.ofString "") [va j, vb j])) t) s') :
   wpAny (model Challenge.rw_pe0060_01.row.prog w) (callerA.deeper (envX cn (Scope.mk .function nms ig ic mr) L a ccd cl)) (call (.type "str") [.ref row]) Q E s := by
  obtain ⟨pre, post, rfl, hgg, h1, h2⟩ := U.split
  have N' : News H L s.heap ((row, rowObj items n dx) :: (dx, dictOf [dEnt w.params size tk₀ tk₁] 1) :: (114, tabObj ps) :: (pre ++ post)) := fun q hq => by
    rcases List.mem_cons.mp hq with rfl | hq
    · exact N _ hr
    rcases List.mem_cons.mp hq with rfl | hq
    · exact N _ hd
    rcases List.mem_cons.mp hq with rfl | hq
    · exact N _ (List.mem_append_right _ (.head _))
    rcases List.mem_append.mp hq with hq | hq
    · exact N _ (List.mem_append_left _ hq)
    · exact N _ (List.mem_append_right _ (.tail _ hq))
  have htup' : ∀ j, j < items.size → (Ts j, tupObj (.str (va j) (ta j)) (.str (vb j) (tb j))) ∈ pre ++ post := fun j hj => by
    rcases List.mem_append.mp (htup j hj) with hq | hq
    · exact List.mem_append_left _ hq
    rcases List.mem_cons.mp hq with e | hq
    · have := congrArg (fun p : Addr × Obj => p.2.cls) e
      cases this
    · exact List.mem_append_right _ hq
  refine str_c F X N' T hne hsz hg hps (fun q hq => (List.mem_append.mp hq).elim (h1 q) (h2 q)) hr7 hd7 Ts va vb ta tb hits htup' hlen fun s' t ps' hp' F' N2 hb ho => ?_
  refine hret s' t ps' hp' F' (fun q hq => ?_) hb ho
  rw [hgg] at hq
  rcases List.mem_append.mp hq with hq | hq
  · exact N2 _ (.tail _ (.tail _ (.tail _ (List.mem_append_left _ hq))))
  rcases List.mem_cons.mp hq with rfl | hq
  · exact N2 _ (.tail _ (.tail _ (.head _)))
  · exact N2 _ (.tail _ (.tail _ (.tail _ (List.mem_append_right _ hq))))
end
end Mine
end
section
open PySem PySem.W PyProof.Rows
namespace Mine
theorem fresh21 : True ∧ True := by
  k_with_none
  first | (walk1; fail) | (w_top off; exact ⟨trivial, trivial⟩)
end Mine
end
section
open PySem PySem.W PyProof.Rows
namespace Mine
set_option maxRecDepth 100000
set_option maxHeartbeats 8000000
noncomputable section
noncomputable def endsComp : PySem.Expr := by
  refine (fun (_ : (hd.heap_39 PP).lookup 161 = some ⟨?a1, ?a2, .func (fnOf ?b1 ?b2 ?b3 [.Return (some ?b4) ?b0] ?b5 ?b6 ?b7 ?b8 ?b9 ?b10 ?b11 ?b12), ?a3⟩) => ?b4) ?h
  case h => with_unfolding_all rfl
noncomputable def endsScope : Scope := by
  refine (fun (_ : (hd.heap_39 PP).lookup 161 = some ⟨?a1, ?a2, .func (fnOf ?b1 ?b2 ?b3 ?b4 ?b5 ?b6 ?b7 ?b8 ?b9 ?b10 ?b11 ?b12), ?a3⟩) => ?b5) ?h
  case h => with_unfolding_all rfl
noncomputable def endsCt : PySem.Expr := by
  refine (fun (_ : endsComp = .ListComp ?elt [⟨?t, ?it, [?ct], ?a⟩] ?sc ?p) => ?ct) ?h
  case h => with_unfolding_all rfl
noncomputable def endsElt : PySem.Expr := by
  refine (fun (_ : endsComp = .ListComp ?elt [⟨?t, ?it, [?ct], ?a⟩] ?sc ?p) => ?elt) ?h
  case h => with_unfolding_all rfl
noncomputable def endsCScope : Scope := by
  refine (fun (_ : endsComp = .ListComp ?elt [⟨?t, ?it, [?ct], ?a⟩] ?sc ?p) => ?sc) ?h
  case h => with_unfolding_all rfl
end
section
variable {w : World} {p : Program} {loose : List Str} {mean : ExcName → Option Value} {mg mb : Str → Option Value}
   {cn : Str} {nms : List (Str × NameKind)} {ig ic : Bool} {mr : List (Str × Const)} {a : Addr} {ccd : Value} {cl : List (Str × Addr)} {H : Heap} {L : Addr} {m : Str → Option Value} {s : Shared} {Q E : Value → Shared → Prop} {news : List (Addr × Obj)}

theorem compEnd_mono {h₀ : Heap} {L : Addr} {m : Str → Option Value} {s₁ s₂ : Shared} {I C D : Addr} {oI oC oD : Obj} {S : List (Addr × Obj) → Prop} {r r' : Value → List (Addr × Obj) → Prop} {y : Value} (h : LCg.CompEnd h₀ L m s₁ I oI C oC D oD S r y s₂) (hr : ∀ y n, r y n → r' y n) : LCg.CompEnd h₀ L m s₁ I oI C oC D oD S r' y s₂ :=
  let ⟨h', tk, n', e, F, N, o, hS, q⟩ := h; ⟨h', tk, n', e, F, N, o, hS, hr _ _ q⟩
theorem rest_chain {prog : Program} {A : Around} {h₀ : Heap} {env : Env} {ct elt : PySem.Expr} {x : Str} {scope : Scope} {S : List (Addr × Obj) → Prop} {P : Nat → Value → Prop} {Fin : List Value → List (Addr × Obj) → Prop} {nn : Nat} (Inv : Nat → List Value → List (Addr × Obj) → Prop)
    (turn : ∀ i ys news, i < nn → Inv i ys news → ∀ v I oI C oC D m₂ h tk (E' : Value → Shared → Prop) (Z1 : Value → Shared → Prop) (Z0 : Shared → Prop), P i v → LCg.NsObj oC m₂ → m₂ x = some v → Fr h₀ L h m → News h₀ L h ((I, oI) :: (C, oC) :: (D, LCg.lst ys) :: news) → LCg.Off3 I C D news → ((@Ne Nat I C) ∧ (@Ne Nat I D) ∧ (@Ne Nat C D)) →
      (∀ y s', LCg.CompEnd h₀ L m { s with heap := h, toks := tk } I oI C oC D (LCg.lst ys) S (fun y news' => Inv (i + 1) (ys ++ [y]) news') y s' → Z1 y s') → (∀ s', LCg.CompEnd h₀ L m { s with heap := h, toks := tk } I oI C oC D (LCg.lst ys) S (fun _ news' => Inv (i + 1) ys news') Value.none s' → Z0 s') →
      wpAny (model prog w) A (isTrue ct (compEnvC scope cl C env) (eval ct (compEnvC scope cl C env))) (fun ok s' => if ok = true then wpAny (model prog w) A (eval elt (compEnvC scope cl C env)) Z1 E' s' else Z0 s') E' { s with heap := h, toks := tk })
    (fin : ∀ ys news, Inv nn ys news → Fin ys news) : ∀ k i ys news, i + k = nn → Inv i ys news → LCt.CompRestT prog w A h₀ L m env ct elt x scope cl s S P Fin k i ys news := by
  intro k
  induction k with
  | zero => intro i ys news e hI; exact fin ys news (by rw [show nn = i by omega]; exact hI)
  | succ k ih =>
    intro i ys news e hI v I oI C oC D m₂ h tk E' hP hC hx F N off ne
    exact turn i ys news (by omega) hI v I oI C oC D m₂ h tk E' _ _ hP hC hx F N off ne (fun y s' q' => compEnd_mono q' fun y n hq => ih (i + 1) _ n (by omega) hq) fun s' q' => compEnd_mono q' fun y n hq => ih (i + 1) _ n (by omega) hq
theorem off1_mem {D : Addr} {l : List (Addr × Obj)} (x : LCg.Off1 D l) : ∀ p ∈ l, p.1 ≠ D := by
  induction l with
  | nil => intro p h; cases h
  | cons q r ih =>
    intro p h
    rcases List.mem_cons.mp h with rfl | h
    · exact x.1
    · exact ih x.2 p h
noncomputable def e1 (r : Int) (k : Nat) : List Int := if (10 : Int) ^ (k - 1) ≤ r + k ∧ r + k < (10 : Int) ^ k then [r + k] else []
noncomputable def endsTo (r : Int) : Nat → List Int
  | 0 => []
  | k + 1 => endsTo r k ++ e1 r (k + 1)
noncomputable def lawEnds (r : Int) : List Int := endsTo r 5
theorem ends_yes {r : Int} {ys : List Value} {k : Nat} {t : Tok} (h : IntsAre ys (endsTo r k)) (h1 : (10 : Int) ^ k ≤ r + (k + 1 : Nat)) (h2 : r + (k + 1 : Nat) < (10 : Int) ^ (k + 1)) {v : Int} (hv : v = r + (k + 1 : Nat)) : IntsAre (ys ++ [.int v t]) (endsTo r (k + 1)) := by
  subst hv
  have e : e1 r (k + 1) = [r + (k + 1 : Nat)] := if_pos ⟨h1, h2⟩
  show IntsAre _ (endsTo r k ++ e1 r (k + 1))
  rw [e]
  exact IntsAre.append h (IntsAre.cons _ _ IntsAre.nil)
theorem ends_no {r : Int} {ys : List Value} {k : Nat} (h : IntsAre ys (endsTo r k)) (h1 : ¬ ((10 : Int) ^ k ≤ r + (k + 1 : Nat) ∧ r + (k + 1 : Nat) < (10 : Int) ^ (k + 1))) : IntsAre ys (endsTo r (k + 1)) := by
  have e : e1 r (k + 1) = [] := if_neg h1
  show IntsAre _ (endsTo r k ++ e1 r (k + 1))
  rw [e, List.append_nil]
  exact h
theorem ends_turn {A : Around} {Z1 E' : Value → Shared → Prop} {Z0 : Shared → Prop} {h₀ h : Heap} {L' I C D : Addr} {oI oC oo : Obj} {m' m₂ : Str → Option Value} {r : Int} {t t0 : Tok} {tk : Nat} {i : Nat} {ys : List Value} (hi : i < 5) (hx : m₂ (Str.ofString "k") = some (.int (1 + (i : Int)) t)) (hC : LCg.NsObj oC m₂) (X : (hd.heap_39 w.params).In h₀) (F : Fr h₀ L' h m')
   (N : News h₀ L' h ((I, oI) :: (C, oC) :: (D, LCg.lst ys) :: (L' + 1, oo) :: news)) (off : LCg.Off3 I C D ((L' + 1, oo) :: news)) (ne : (@Ne Nat I C) ∧ (@Ne Nat I D) ∧ (@Ne Nat C D)) (hoo : oo.data = .cell (some (.int r t0)))
   (z1 : ∀ tk t, (10 : Int) ^ i ≤ r + (i + 1 : Nat) → r + (i + 1 : Nat) < (10 : Int) ^ (i + 1) → Z1 (.int (r + (i + 1 : Nat)) t) { s with heap := h, toks := tk }) (z0 : ∀ tk, ¬ ((10 : Int) ^ i ≤ r + (i + 1 : Nat) ∧ r + (i + 1 : Nat) < (10 : Int) ^ (i + 1)) → Z0 { s with heap := h, toks := tk }) :
   wpAny (model Challenge.rw_pe0060_01.row.prog w) A (isTrue endsCt (compEnvC endsCScope [(Str.ofString "signs", L' + 1)] C (envOfC (Str.ofString "_law_ends") endsScope L' 161 (.ref 160))) (eval endsCt (compEnvC endsCScope [(Str.ofString "signs", L' + 1)] C (envOfC (Str.ofString "_law_ends") endsScope L' 161 (.ref 160)))))
     (fun ok s' => if ok = true then wpAny (model Challenge.rw_pe0060_01.row.prog w) A (eval endsElt (compEnvC endsCScope [(Str.ofString "signs", L' + 1)] C (envOfC (Str.ofString "_law_ends") endsScope L' 161 (.ref 160)))) Z1 E' s' else Z0 s') E' { s with heap := h, toks := tk } := by
  revert X
  k_fill
  intro X
  unfold endsCt endsElt endsCScope endsScope
  simp only [LCg.Off3] at off
  have hi5 : i = 0 ∨ i = 1 ∨ i = 2 ∨ i = 3 ∨ i = 4 := by omega
  rcases hi5 with rfl | rfl | rfl | rfl | rfl
  · have hx' : m₂ (Str.ofString "k") = some (.int 1 t) := hx
    clear hx
    repeat' (first | (k_unfold; (try dsimp only)) | walk1 | (dsimp only; walk1))
    · rename_i a1 a2
      exact z1 _ _ (by simp at a1 ⊢; omega) (by simp at a2 ⊢; omega)
    · rename_i a1 a2
      exact z0 _ (by simp at a1 a2 ⊢; omega)
    · rename_i a1
      exact z0 _ (by simp at a1 ⊢; omega)
  · have hx' : m₂ (Str.ofString "k") = some (.int 2 t) := hx
    clear hx
    repeat' (first | (k_unfold; (try dsimp only)) | walk1 | (dsimp only; walk1))
    · rename_i a1 a2
      exact z1 _ _ (by simp at a1 ⊢; omega) (by simp at a2 ⊢; omega)
    · rename_i a1 a2
      exact z0 _ (by simp at a1 a2 ⊢; omega)
    · rename_i a1
      exact z0 _ (by simp at a1 ⊢; omega)
  · have hx' : m₂ (Str.ofString "k") = some (.int 3 t) := hx
    clear hx
    repeat' (first | (k_unfold; (try dsimp only)) | walk1 | (dsimp only; walk1))
    · rename_i a1 a2
      exact z1 _ _ (by simp at a1 ⊢; omega) (by simp at a2 ⊢; omega)
    · rename_i a1 a2
      exact z0 _ (by simp at a1 a2 ⊢; omega)
    · rename_i a1
      exact z0 _ (by simp at a1 ⊢; omega)
  · have hx' : m₂ (Str.ofString "k") = some (.int 4 t) := hx
    clear hx
    repeat' (first | (k_unfold; (try dsimp only)) | walk1 | (dsimp only; walk1))
    · rename_i a1 a2
      exact z1 _ _ (by simp at a1 ⊢; omega) (by simp at a2 ⊢; omega)
    · rename_i a1 a2
      exact z0 _ (by simp at a1 a2 ⊢; omega)
    · rename_i a1
      exact z0 _ (by simp at a1 ⊢; omega)
  · have hx' : m₂ (Str.ofString "k") = some (.int 5 t) := hx
    clear hx
    repeat' (first | (k_unfold; (try dsimp only)) | walk1 | (dsimp only; walk1))
    · rename_i a1 a2
      exact z1 _ _ (by simp at a1 ⊢; omega) (by simp at a2 ⊢; omega)
    · rename_i a1 a2
      exact z0 _ (by simp at a1 a2 ⊢; omega)
    · rename_i a1
      exact z0 _ (by simp at a1 ⊢; omega)
theorem ends_c (F : Fr H L s.heap m) (X : (hd.heap_39 w.params).In H) (N : News H L s.heap news) (T : Top p loose mean mg mb H) {r : Int} {t : Tok} (h0 : 0 ≤ r) (hr : r ≤ 10000)
   (hret : ∀ h' tk l ys, IntsAre ys (lawEnds r) → Fr H L h' m → News H L h' ((l, LCg.lst ys) :: news) → (∀ p ∈ news, p.1 ≠ l) → Q (.ref l) { s with heap := h', toks := tk }) :
   wpAny (model Challenge.rw_pe0060_01.row.prog w) (callerA.deeper (envX cn (Scope.mk .function nms ig ic mr) L a ccd cl)) (call (.ref 161) [.int r t]) Q E s := by
  revert X
  k_fill
  intro X
  have B := below_caller H
  repeat ((fail_if_success (with_reducible show wpAny _ _ (eval (Expr.ListComp _ _ _ _) _) _ _ _)); first | (k_unfold; (try dsimp only)) | walk1 | (dsimp only; walk1))
  k_dflt (refine LCt.ListComp_T (F₀ := by k_asm) (by with_unfolding_all rfl) (by decide) (by rfl) (by decide) (by rfl) ?_)
  repeat ((fail_if_success (with_reducible show LCt.CompSrcT _ _ _ _ _ _ _ _ _ _ _ _ _ _ _)); first | walk1 | (dsimp only; walk1))
  refine LCt.CompSrcT.range (by rfl) (by k_asm) (by k_asm) (by assumption) (by first | decide | rfl) (n := 5) (by first | rfl | decide) (by exact Nat.le_of_ble_eq_true rfl) ?_
  intro g'
  rename_i oo _ _ _ _ _ _ _ _ _ _ _
  refine rest_chain (fun i ys news' => news' = (_ :: news) ∧ IntsAre ys (endsTo r i)) ?_ ?_ 5 0 [] _ rfl ⟨rfl, IntsAre.nil⟩
  · rintro i ys news' hi ⟨rfl, hI⟩ v I oI C oC D m₂ h tk E' Z1 Z0 ⟨t', rfl⟩ hC hx F' N' off ne e1' e0'
    clear hret
    refine ends_turn (by omega) hx hC (by assumption) F' N' off ne (by assumption) (fun tk t a1 a2 => ?_) fun tk a => ?_
    · exact e1' _ _ (LCg.CompEnd.intro F' N' _ (fun _ h => h) off trivial ⟨rfl, ends_yes hI a1 a2 rfl⟩)
    · exact e0' _ (LCg.CompEnd.intro F' N' _ (fun _ h => h) off trivial ⟨rfl, ends_no hI a⟩)
  · rintro ys news' ⟨rfl, hI⟩ D h tk F' N' off
    refine' leaveK_ F' N' ?_
    intro kF kN
    dsimp only
    refine hret _ _ _ _ hI kF (fun p hp => kN p ?_) fun p hp => ?_
    · rcases List.mem_cons.mp hp with rfl | hp
      · exact .head _
      · exact .tail _ (.tail _ hp)
    · exact (off1_mem off.2) p hp
theorem spoiled_c (F : Fr H L s.heap m) (X : (hd.heap_39 w.params).In H) (N : News H L s.heap news) (T : Top p loose mean mg mb H) {f b : Str} {t t' : Tok} (hf : f.length ≤ 100) (hb : b.length ≤ 100)
   (hret : ∀ h' tk l t1 t2 t3 t4 t5, Fr H L h' m → News H L h' ((l, W.listOf #[.str (f ++ Str.ofString "202)") t1, .str (f ++ Txt.slice b none (some (-1)) ++ Str.ofString ".") t2, .str (f ++ Txt.slice b none (some (-1)) ++ Str.ofString ".)") t3, .str (f ++ Txt.slice b none (some (-1)) ++ Txt.slice b (some (-2)) none) t4, .str (f ++ Str.ofString "(" ++ Txt.slice b (some 2) none) t5] 0) :: news) → (∀ p ∈ news, p.1 ≠ l) → Q (.ref l) { s with heap := h', toks := tk }) :
   wpAny (model Challenge.rw_pe0060_01.row.prog w) (callerA.deeper (envX cn (Scope.mk .function nms ig ic mr) L a ccd cl)) (call (.ref 168) [.str f t, .str b t']) Q E s := by
  revert X
  k_fill
  intro X
  have B := below_caller H
  k_steps
  rename_i l1 kF kN _ _
  exact hret _ _ _ _ _ _ _ _ kF kN fun p hp => Nat.ne_of_lt (l1 p hp)
end
end Mine
end
section
open PySem PySem.W PyProof.Rows
namespace Mine
theorem fresh22 : True ∧ True := by
  k_with_none
  first | (walk1; fail) | (w_top off; exact ⟨trivial, trivial⟩)
end Mine
end
section
open PySem PySem.W PySem.W.X PyProof.Rows PySem.Calls
namespace Mine
section
variable {prog : Program} {w : World} {A : Around} {s : Shared} {env : Env} {h₀ : Heap} {target : PySem.Expr} {body : List Stmt} {Q : Flow → Shared → Prop}
/-- what a turn hands on -/
noncomputable def TurnEnd (h₀ : Heap) (L : Addr) (os₀ : OsState) (fp : List Addr) (own : List (Addr × Obj)) (J : (Str → Option Value) → List (Addr × Obj) → Prop) (s₃ : Shared) : Prop :=
  ∃ m₂ news₂, J m₂ news₂ ∧ Fr h₀ L s₃.heap m₂ ∧ News h₀ L s₃.heap (news₂ ++ own) ∧ (∀ p ∈ news₂, p.1 ∉ fp) ∧ AllBare s₃.gens ∧ s₃.os = os₀
noncomputable def TurnPost (h₀ : Heap) (L : Addr) (os₀ : OsState) (fp : List Addr) (own : List (Addr × Obj)) (J : (Str → Option Value) → List (Addr × Obj) → Prop) (Q : Flow → Shared → Prop) (f : Flow) (s₃ : Shared) : Prop :=
  match f with
  | .ret v => Q (.ret v) s₃
  | .brk => Q .next s₃
  | _ => TurnEnd h₀ L os₀ fp own J s₃
theorem loop_K {I : Addr} {fp wr : List Addr} {n : Nat} {P : Nat → Value → Prop} {St : Nat → Heap → Prop} {m : Str → Option Value} {news : List (Addr × Obj)} {os₀ : OsState} (W : Walks prog w A I fp wr n P St) (ht : ∀ v, letOwnedTupleGo target (.ref I) v = pure ())
    (hLf : env.locals ∉ fp) (hwr : ∀ b ∈ wr, h₀.get? b = none) (hnw : ∀ p ∈ news, p.1 ∉ fp) (hst : St 0 s.heap) (F : Fr h₀ env.locals s.heap m) (N : News h₀ env.locals s.heap news) (G : AllBare s.gens) (ho : s.os = os₀)
    (J : Nat → (Str → Option Value) → List (Addr × Obj) → Prop) (h0 : J 0 m news)
    (step : ∀ i v m₁ news₁ s₁ own, i < n → P i v → J i m₁ news₁ → (∀ p ∈ news₁, p.1 ∉ fp) → (∀ p ∈ own, p.1 ∈ fp) → (∀ p ∈ own, s₁.heap.get? p.1 = some p.2) → (∀ b ∈ fp, h₀.get? b = none → ∀ o, s₁.heap.get? b = some o → (b, o) ∈ own) → St (i + 1) s₁.heap → Fr h₀ env.locals s₁.heap m₁ → News h₀ env.locals s₁.heap (news₁ ++ own) → AllBare s₁.gens → s₁.os = os₀ →
      wpAny (model prog w) A (assign target env v) (fun _ s₂ => wpAny (model prog w) A (execs body env) (TurnPost h₀ env.locals os₀ fp own (J (i + 1)) Q) (fun _ _ => False) s₂) (fun _ _ => False) s₁)
    (done : ∀ s' m' news', J n m' news' → Fr h₀ env.locals s'.heap m' → News h₀ env.locals s'.heap news' → AllBare s'.gens → s'.os = os₀ → Q .next s')
    (R : Result → Shared → Prop) (hR : ∀ f s', Q f s' → R (.ok f) s') :
    codeAny (model prog w) A (.forLoop target (.ref I) body [] env) R s := by
  have hLw : env.locals ∉ wr := fun h => hLf (W.sub _ h)
  have old : ∀ b o, h₀.get? b = some o → b ∉ wr := fun b o e hb => by rw [hwr b hb] at e; cases e
  refine codeAny_forLoop
    (fun k s' => ∃ m' news' i, St i s'.heap ∧ Fr h₀ env.locals s'.heap m' ∧ News h₀ env.locals s'.heap news' ∧ (∀ p ∈ news', p.1 ∉ fp) ∧ AllBare s'.gens ∧ s'.os = os₀ ∧ J i m' news' ∧ i ≤ n ∧ k = n + 1 - i) ?_ (n + 1)
    ⟨m, news, 0, hst, F, N, hnw, G, ho, h0, Nat.zero_le _, rfl⟩ ht
  rintro k s' ⟨m', news', i, hst', F', N', hnw', G', ho', hJ, hi, rfl⟩
  have next : ∀ h₁ : Heap, (∀ b o, b ∉ wr → s'.heap.get? b = some o → h₁.get? b = some o) → Fr h₀ env.locals h₁ m' ∧ News h₀ env.locals h₁ news' := fun h₁ hk₁ =>
    ⟨⟨F'.ns.at' fun o e => hk₁ _ o hLw e, fun b o e => hk₁ b o (old b o e) (F'.keep b o e), F'.above⟩, fun p hp => ⟨hk₁ _ _ (fun q => hnw' p hp (W.sub _ q)) (N' p hp).1, (N' p hp).2⟩⟩
  by_cases hlt : i < n
  · refine W.item i _ _ _ hlt hst' fun v h₁ tk₁ hP hst₁ hk₁ => ?_
    obtain ⟨F₁, N₁⟩ := next h₁ hk₁
    have Nown : News h₀ env.locals h₁ (ownOf h₀ fp h₁) := news_ownOf hLf
    have Nall : News h₀ env.locals h₁ (news' ++ ownOf h₀ fp h₁) := fun p hp => (List.mem_append.mp hp).elim (N₁ p) (Nown p)
    refine wpAny_mono (step i v m' news' { s' with heap := h₁, toks := tk₁ } (ownOf h₀ fp h₁) hlt hP hJ hnw' ownOf_sub (fun p hp => (Nown p hp).1) (fun b hb hn o e => mem_ownOf hb hn e) hst₁ F₁ Nall G' ho') (fun _ s₂ h₂ => wpAny_mono h₂ (fun f s₃ h₃ => ?_) fun _ _ e => e.elim) fun _ _ e => e.elim
    have fin : TurnEnd h₀ env.locals os₀ fp (ownOf h₀ fp h₁) (J (i + 1)) s₃ → ∃ q, q < n + 1 - i ∧ ∃ m' news' i, St i s₃.heap ∧ Fr h₀ env.locals s₃.heap m' ∧ News h₀ env.locals s₃.heap news' ∧ (∀ p ∈ news', p.1 ∉ fp) ∧ AllBare s₃.gens ∧ s₃.os = os₀ ∧ J i m' news' ∧ i ≤ n ∧ q = n + 1 - i := by
      rintro ⟨m₂, news₂, hJ₂, F₂, N₂, hn₂, G₂, ho₂⟩
      refine ⟨n + 1 - (i + 1), by omega, m₂, news₂, i + 1, ?_, F₂, (fun p hp => N₂ p (List.mem_append_left _ hp)), hn₂, G₂, ho₂, hJ₂, hlt, rfl⟩
      refine W.frame _ _ _ hst₁ fun b hb o e => ?_
      cases hn : h₀.get? b with
      | some o₀ =>
        have : o₀ = o := by have q := F₁.keep b o₀ hn; rw [e] at q; exact (Option.some.inj q).symm
        exact this ▸ F₂.keep b o₀ hn
      | none => exact (N₂ _ (List.mem_append_right _ (mem_ownOf hb hn e))).1
    cases f with
    | ret v => exact hR _ _ h₃
    | brk => exact hR _ _ h₃
    | next => exact fin h₃
    | cont => exact fin h₃
  · have hin : i = n := by omega
    subst hin
    refine W.done _ _ _ hst' fun h₁ tk₁ hk₁ => wpAny_execs_nil ?_
    obtain ⟨F₁, N₁⟩ := next h₁ hk₁
    exact hR _ _ (done _ m' news' hJ F₁ N₁ G' ho')
/-- over a range that stands -/
theorem for_range {iter : PySem.Expr} {pos : Pos} {os₀ : OsState} {a b c : Int} {n : Nat} (hh : A.handled = none) (ht : ∀ I v, letOwnedTupleGo target (.ref I) v = pure ())
    (J : Nat → (Str → Option Value) → List (Addr × Obj) → Prop)
    (hsm : Builtin.Range.small a b c = true) (hn : Builtin.Range.rangeSize a b c = ((n : Nat) : Int))
    (h : wpAny (model prog w) A (eval iter env) (fun xv s₁ => ∃ r t u v m news, xv = .ref r ∧ IsRange s₁.heap r a b c t u v ∧ Fr h₀ env.locals s₁.heap m ∧ News h₀ env.locals s₁.heap news ∧ AllBare s₁.gens ∧ s₁.os = os₀ ∧ J 0 m news) (fun _ _ => False) s)
    (step : ∀ i m₁ news₁ s₁ own I t, i < n → J i m₁ news₁ → (∀ p ∈ news₁, p.1 ∉ [I]) → (∀ p ∈ own, p.1 ∈ [I]) → (∀ p ∈ own, p.2.cls = .type "range_iterator") → Fr h₀ env.locals s₁.heap m₁ → News h₀ env.locals s₁.heap (news₁ ++ own) → AllBare s₁.gens → s₁.os = os₀ →
      wpAny (model prog w) A (assign target env (.int (a + i * c) t)) (fun _ s₂ => wpAny (model prog w) A (execs body env) (TurnPost h₀ env.locals os₀ [I] own (J (i + 1)) Q) (fun _ _ => False) s₂) (fun _ _ => False) s₁)
    (done : ∀ s' m' news', J n m' news' → Fr h₀ env.locals s'.heap m' → News h₀ env.locals s'.heap news' → AllBare s'.gens → s'.os = os₀ → Q .next s')
    (hs : ∀ x, foldedSetIterable iter env x = pure x := by intro _; rfl) :
    wpAny (model prog w) A (exec (.For target iter body [] pos) env) Q (fun _ _ => False) s := by
  refine wpAny_For (wpAny_mono h (fun xv s₁ h₁ => ?_) fun _ _ e => e) hs
  obtain ⟨r, t, u, v, m, news, rfl, hr, F, N, G, ho, hJ⟩ := h₁
  refine wpAny_pyIter_range hr hsm ?_
  have nw : ∀ b, b < s₁.heap.objs.size → b ∉ [s₁.heap.objs.size] := fun b hb hm => by
    rw [List.mem_singleton.mp hm] at hb; exact Nat.lt_irrefl _ hb
  refine loop_K (s := { s₁ with heap := s₁.heap.push { cls := .type "range_iterator", data := .fields #[rawInt a, rawInt (Builtin.Range.rangeSize a b c), rawInt c] } }) (h₀ := h₀) (os₀ := os₀) (Q := Q) (n := n) (Walks.range hh s₁.heap.objs.size a c n) (fun v => ht _ v) (nw _ F.ns.lt) (fun b hb => ?_) (fun p hp => nw _ (Heap.lt_size (N p hp).1)) ?_ (F.push _) ?_ G ho J hJ ?_ done (fun r s' => match r with | .ok f => Q f s' | .error e => cameBackBy (model prog w) A env (fun _ _ => False) e s') fun f s' q => q
  · rw [List.mem_singleton.mp hb]; exact next_is_new F
  · show IsRangeIter _ _ _ _ _
    rw [hn]; simpa using Heap.get?_push_size _ rfl
  · exact fun p hp => ⟨Heap.get?_push_of_some _ (N p hp).1, (N p hp).2⟩
  · intro i v m₁ news₁ s₂ own hi hP hJ₁ hnw hown hat hcov hst F₁ N₁ G₁ ho₁
    obtain ⟨t, rfl⟩ := hP
    refine step i m₁ news₁ s₂ own _ t hi hJ₁ hnw hown (fun p hp => ?_) F₁ N₁ G₁ ho₁
    have h1 := hat p hp
    rw [List.mem_singleton.mp (hown p hp)] at h1
    have h2 : s₂.heap.get? s₁.heap.objs.size = some _ := hst
    rw [h2] at h1
    rw [← Option.some.inj h1]
/-- over a list that stands in the ledger or was just made -/
theorem for_list {iter : PySem.Expr} {pos : Pos} {os₀ : OsState} (hh : A.handled = none) (ht : ∀ I v, letOwnedTupleGo target (.ref I) v = pure ())
    (J : Nat → (Str → Option Value) → List (Addr × Obj) → Prop) (items : Array Value)
    (h : wpAny (model prog w) A (eval iter env) (fun xv s₁ => ∃ l k m news, xv = .ref l ∧ Fr h₀ env.locals s₁.heap m ∧ News h₀ env.locals s₁.heap ((l, ({ cls := .type "list", data := .seq items k } : Obj)) :: news) ∧ (∀ p ∈ news, p.1 ≠ l) ∧ AllBare s₁.gens ∧ s₁.os = os₀ ∧ J 0 m news) (fun _ _ => False) s)
    (step : ∀ i m₁ news₁ s₁ own I l v, i < items.size → items[i]? = some v → J i m₁ news₁ → (∀ p ∈ news₁, p.1 ∉ [I, l]) → (∀ p ∈ own, p.1 ∈ [I, l]) → Fr h₀ env.locals s₁.heap m₁ → News h₀ env.locals s₁.heap (news₁ ++ own) → AllBare s₁.gens → s₁.os = os₀ →
      wpAny (model prog w) A (assign target env v) (fun _ s₂ => wpAny (model prog w) A (execs body env) (TurnPost h₀ env.locals os₀ [I, l] own (J (i + 1)) Q) (fun _ _ => False) s₂) (fun _ _ => False) s₁)
    (done : ∀ s' m' news', J items.size m' news' → Fr h₀ env.locals s'.heap m' → News h₀ env.locals s'.heap news' → AllBare s'.gens → s'.os = os₀ → Q .next s')
    (hs : ∀ x, foldedSetIterable iter env x = pure x := by intro _; rfl) :
    wpAny (model prog w) A (exec (.For target iter body [] pos) env) Q (fun _ _ => False) s := by
  refine wpAny_For (wpAny_mono h (fun xv s₁ h₁ => ?_) fun _ _ e => e) hs
  obtain ⟨l, k, m, news, rfl, F, N, hne, G, ho, hJ⟩ := h₁
  have hl := (N _ (.head _)).1
  have hls : s₁.heap.IsList l items := ⟨_, hl, rfl, _, rfl⟩
  have hlt : l < s₁.heap.objs.size := Heap.lt_size hl
  refine wpAny_pyIter_list hls ?_
  have nw : ∀ b, b < s₁.heap.objs.size → b ≠ l → b ∉ [s₁.heap.objs.size, l] := fun b hb hbl hm => by
    rcases List.mem_cons.mp hm with e | hm
    · rw [e] at hb; exact Nat.lt_irrefl _ hb
    · exact hbl (List.mem_singleton.mp hm)
  refine loop_K (s := { s₁ with heap := s₁.heap.push { cls := .type "list_iterator", data := .fields #[.ref l, .int 0 0] } }) (h₀ := h₀) (os₀ := os₀) (Q := Q) (Walks.list hh s₁.heap.objs.size l (Nat.ne_of_lt hlt) items) (fun v => ht _ v) (nw _ F.ns.lt (Ne.symm (N _ (.head _)).2.1)) (fun b hb => ?_) (fun p hp => nw _ (Heap.lt_size (N p (.tail _ hp)).1) (hne p hp)) ?_ (F.push _)
    ?_ G ho J hJ ?_ done (fun r s' => match r with | .ok f => Q f s' | .error e => cameBackBy (model prog w) A env (fun _ _ => False) e s') fun f s' q => q
  · rw [List.mem_singleton.mp hb]; exact next_is_new F
  · exact ⟨⟨_, Heap.get?_push_size _ rfl, rfl, rfl⟩, hls.push _⟩
  · exact fun p hp => ⟨Heap.get?_push_of_some _ (N p (.tail _ hp)).1, (N p (.tail _ hp)).2⟩
  · intro i v m₁ news₁ s₂ own hi hP hJ₁ hnw hown hat hcov hst F₁ N₁ G₁ ho₁
    exact step i m₁ news₁ s₂ own _ _ v hi hP hJ₁ hnw hown F₁ N₁ G₁ ho₁
/-- over a list that stands in the ledger or was just made -/
theorem for_ints {iter : PySem.Expr} {pos : Pos} {os₀ : OsState} (hh : A.handled = none) (ht : ∀ I v, letOwnedTupleGo target (.ref I) v = pure ())
    (J : Nat → (Str → Option Value) → List (Addr × Obj) → Prop) (xs : List Int)
    (h : wpAny (model prog w) A (eval iter env) (fun xv s₁ => ∃ l k vs m news, xv = .ref l ∧ IntsAre vs xs ∧ Fr h₀ env.locals s₁.heap m ∧ News h₀ env.locals s₁.heap ((l, ({ cls := .type "list", data := .seq vs.toArray k } : Obj)) :: news) ∧ (∀ p ∈ news, p.1 ≠ l) ∧ AllBare s₁.gens ∧ s₁.os = os₀ ∧ J 0 m news) (fun _ _ => False) s)
    (step : ∀ i m₁ news₁ s₁ own I l x t, xs[i]? = some x → J i m₁ news₁ → (∀ p ∈ news₁, p.1 ∉ [I, l]) → (∀ p ∈ own, p.1 ∈ [I, l]) → (∀ b ∈ [I, l], ∃ o, (b, o) ∈ own) → Fr h₀ env.locals s₁.heap m₁ → News h₀ env.locals s₁.heap (news₁ ++ own) → AllBare s₁.gens → s₁.os = os₀ →
      wpAny (model prog w) A (assign target env (.int x t)) (fun _ s₂ => wpAny (model prog w) A (execs body env) (TurnPost h₀ env.locals os₀ [I, l] own (J (i + 1)) Q) (fun _ _ => False) s₂) (fun _ _ => False) s₁)
    (done : ∀ s' m' news', J xs.length m' news' → Fr h₀ env.locals s'.heap m' → News h₀ env.locals s'.heap news' → AllBare s'.gens → s'.os = os₀ → Q .next s')
    (hs : ∀ x, foldedSetIterable iter env x = pure x := by intro _; rfl) :
    wpAny (model prog w) A (exec (.For target iter body [] pos) env) Q (fun _ _ => False) s := by
  refine wpAny_For (wpAny_mono h (fun xv s₁ h₁ => ?_) fun _ _ e => e) hs
  obtain ⟨l, k, vs, m, news, rfl, hI, F, N, hne, G, ho, hJ⟩ := h₁
  have hl := (N _ (.head _)).1
  have hls : s₁.heap.IsList l vs.toArray := ⟨_, hl, rfl, _, rfl⟩
  have hlt : l < s₁.heap.objs.size := Heap.lt_size hl
  refine wpAny_pyIter_list hls ?_
  have nw : ∀ b, b < s₁.heap.objs.size → b ≠ l → b ∉ [s₁.heap.objs.size, l] := fun b hb hbl hm => by
    rcases List.mem_cons.mp hm with e | hm
    · rw [e] at hb; exact Nat.lt_irrefl _ hb
    · exact hbl (List.mem_singleton.mp hm)
  refine loop_K (s := { s₁ with heap := s₁.heap.push { cls := .type "list_iterator", data := .fields #[.ref l, .int 0 0] } }) (h₀ := h₀) (os₀ := os₀) (Q := Q) (Walks.list hh s₁.heap.objs.size l (Nat.ne_of_lt hlt) vs.toArray) (fun v => ht _ v) (nw _ F.ns.lt (Ne.symm (N _ (.head _)).2.1)) (fun b hb => ?_) (fun p hp => nw _ (Heap.lt_size (N p (.tail _ hp)).1) (hne p hp)) ?_ (F.push _)
    ?_ G ho J hJ ?_ (by simpa [hI.length] using done) (fun r s' => match r with | .ok f => Q f s' | .error e => cameBackBy (model prog w) A env (fun _ _ => False) e s') fun f s' q => q
  · rw [List.mem_singleton.mp hb]; exact next_is_new F
  · exact ⟨⟨_, Heap.get?_push_size _ rfl, rfl, rfl⟩, hls.push _⟩
  · exact fun p hp => ⟨Heap.get?_push_of_some _ (N p (.tail _ hp)).1, (N p (.tail _ hp)).2⟩
  · intro i v m₁ news₁ s₂ own hi hP hJ₁ hnw hown hat hcov hst F₁ N₁ G₁ ho₁
    have hi' : i < xs.length := by simpa [hI.length] using hi
    obtain ⟨t, hx⟩ := hI.get i xs[i] (by simp [hi'])
    have hv : v = .int xs[i] t := by
      have hP' : vs[i]? = some v := by simpa using hP
      rw [hx] at hP'; exact (Option.some.inj hP').symm
    subst hv
    refine step i m₁ news₁ s₂ own _ _ xs[i] t (by simp [hi']) hJ₁ hnw hown (fun b hb => ?_) F₁ N₁ G₁ ho₁
    rcases List.mem_cons.mp hb with rfl | hb'
    · obtain ⟨o, e, _⟩ := hst.1
      exact ⟨o, hcov _ hb (next_is_new F) o e⟩
    · have e' := List.mem_singleton.mp hb'
      subst e'
      obtain ⟨o, e, _⟩ := hst.2
      exact ⟨o, hcov _ hb (N _ (.head _)).2.2 o e⟩
end
end Mine
end
section
open PySem PySem.W PyProof.Rows
namespace Mine
theorem fresh23 : True ∧ True := by
  k_with_none
  first | (walk1; fail) | (w_top off; exact ⟨trivial, trivial⟩)
end Mine
end
section
open PySem PySem.W PySem.W.X PyProof.Rows PySem.Calls
namespace Mine
set_option maxRecDepth 100000
set_option maxHeartbeats 4000000
structure TE where
  T : Addr
  f : Str
  tf : Tok
  b : Str
  tb : Tok
noncomputable abbrev TE.ent (e : TE) : Addr × Obj := (e.T, tupObj (.str e.f e.tf) (.str e.b e.tb))
noncomputable def itemsOf (tl : List TE) : Array Value := (tl.map fun e => Value.ref e.T).toArray
theorem items_snoc (tl : List TE) (e : TE) : itemsOf (tl ++ [e]) = (itemsOf tl).push (.ref e.T) := by simp [itemsOf]
theorem items_size (tl : List TE) : (itemsOf tl).size = tl.length := by simp [itemsOf]
noncomputable def total : List TE → Int
  | [] => 0
  | e :: r => ((e.f.length : Int) + e.b.length) + total r
theorem total_append (a b : List TE) : total (a ++ b) = total a + total b := by
  induction a with
  | nil => simp [total]
  | cons e r ih => simp only [List.cons_append, total, ih]; omega
theorem total_snoc (tl : List TE) (e : TE) : total (tl ++ [e]) = total tl + (e.f.length + e.b.length) := by
  rw [total_append]; simp [total]
noncomputable def TE0 : TE := ⟨0, Str.ofString "", 0, Str.ofString "", 0⟩
theorem preSum_total : ∀ (tl : List TE) (n : Nat), n ≤ tl.length → preSum (fun j => (((tl[j]?.getD TE0).f.length : Int) + (tl[j]?.getD TE0).b.length)) n = total (tl.take n) := by
  intro tl n
  induction n with
  | zero => intro _; simp [preSum, total]
  | succ n ih =>
    intro h
    rw [preSum, ih (by omega), List.take_add_one, total_append]
    have : tl[n]? = some tl[n] := by simp
    rw [this]
    simp [total]
section
variable {w : World} {p : Program} {loose : List Str} {mean : ExcName → Option Value} {mg mb : Str → Option Value}
   {cn : Str} {nms : List (Str × NameKind)} {ig ic : Bool} {mr : List (Str × Const)} {a : Addr} {ccd : Value} {cl : List (Str × Addr)} {H : Heap} {L : Addr} {m : Str → Option Value} {s : Shared} {Q E : Value → Shared → Prop} {led : List (Addr × Obj)} {g : Obj → List (Addr × Obj)}
   {row dx : Addr} {tl : List TE} {n : Nat} {size : Int} {tk₀ tk₁ : Tok} {ps : Array Value}
theorem push_TL (F : Fr H L s.heap m) (X : (hd.heap_39 w.params).In H) (N : News H L s.heap led) (T : Top p loose mean mg mb H) (U : UpdF row (rowObj (itemsOf tl) n dx) led g) (hd : (dx, dictOf [dEnt w.params size tk₀ tk₁] 1) ∈ led) (hne : row ≠ dx) (hsz : tl.length ≤ 80)
   {f b : Str} {t1 t2 : Tok}
   (hret : ∀ h' tk T', Fr H L h' m → News H L h' ((T', tupObj (.str f t1) (.str b t2)) :: g (rowObj (itemsOf (tl ++ [⟨T', f, t1, b, t2⟩])) (n + 1) dx)) → (∀ p ∈ led, p.1 ≠ T') → Q .none { s with heap := h', toks := tk }) :
   wpAny (model Challenge.rw_pe0060_01.row.prog w) (callerA.deeper (envX cn (Scope.mk .function nms ig ic mr) L a ccd cl)) (call (.ref 89) [.ref row, .str f t1, .str b t2]) Q E s :=
  push_K F X N T U hd hne (by rw [items_size]; omega) fun h' tk T' F' N' hf => hret h' tk T' F' (by rw [items_snoc]; exact N') hf
theorem pop_TL (F : Fr H L s.heap m) (X : (hd.heap_39 w.params).In H) {e : TE} (N : News H L s.heap led) (T : Top p loose mean mg mb H) (U : UpdF row (rowObj (itemsOf (tl ++ [e])) n dx) led g) (hd : (dx, dictOf [dEnt w.params size tk₀ tk₁] 1) ∈ led) (hne : row ≠ dx) (hsz : tl.length ≤ 80)
   (hret : ∀ h' tk, Fr H L h' m → News H L h' (g (rowObj (itemsOf tl) (n + 1) dx)) → Q (.ref e.T) { s with heap := h', toks := tk }) :
   wpAny (model Challenge.rw_pe0060_01.row.prog w) (callerA.deeper (envX cn (Scope.mk .function nms ig ic mr) L a ccd cl)) (call (.ref 105) [.ref row]) Q E s := by
  rw [items_snoc] at U
  exact pop_K F X N T U hd hne (by rw [items_size]; omega) hret
theorem len_TL (F : Fr H L s.heap m) (X : (hd.heap_39 w.params).In H) (N : News H L s.heap led) (T : Top p loose mean mg mb H) (U : UpdF 107 (tabObj ps) led g) (hr : (row, rowObj (itemsOf tl) n dx) ∈ led) (hd : (dx, dictOf [dEnt w.params size tk₀ tk₁] 1) ∈ led) (hne : row ≠ dx)
   (hsz : tl.length ≤ 80) (hg : AllBare s.gens) (hps : TabOk 48 19 ps) (hr7 : row ≠ 107) (hd7 : dx ≠ 107) (hsize : 0 ≤ size) (hsize' : size ≤ 10000) (htup : ∀ e ∈ tl, e.ent ∈ led) (hlen : ∀ e ∈ tl, e.f.length + e.b.length ≤ 100)
   (hret : ∀ s' t ps', TabOk 48 19 ps' → Fr H L s'.heap m → News H L s'.heap (g (tabObj ps')) → AllBare s'.gens → s'.os = s.os → Q (.int (size + total tl) t) s') :
   wpAny (model Challenge.rw_pe0060_01.row.prog w) (callerA.deeper (envX cn (Scope.mk .function nms ig ic mr) L a ccd cl)) (call (.builtin "len") [.ref row]) Q E s := by
  have hget : ∀ j, j < (itemsOf tl).size → ∃ e ∈ tl, tl[j]? = some e := fun j hj => by
    rw [items_size] at hj
    exact ⟨tl[j], List.getElem_mem hj, by simp [hj]⟩
  refine len_KK F X N T U hr hd hne (by rw [items_size]; omega) hg hps hr7 hd7 hsize hsize' (fun j => (tl[j]?.getD TE0).T) (fun j => (tl[j]?.getD TE0).f) (fun j => (tl[j]?.getD TE0).b) (fun j => (tl[j]?.getD TE0).tf) (fun j => (tl[j]?.getD TE0).tb) (fun j hj => ?_) (fun j hj => ?_) (fun j hj => ?_) fun s' t ps' hp F' N' hb ho => ?_
  · obtain ⟨e, _, he⟩ := hget j hj
    simp [itemsOf, he]
  · obtain ⟨e, hm, he⟩ := hget j hj
    have := htup e hm
    simp only [he, Option.getD_some]
    exact this
  · obtain ⟨e, hm, he⟩ := hget j hj
    have := hlen e hm
    simp only [he, Option.getD_some]
    exact this
  · rw [preSum_total tl _ (by rw [items_size]; exact Nat.le_refl _), items_size, List.take_length]
    exact hret s' t ps' hp F' N' hb ho
theorem str_TL (F : Fr H L s.heap m) (X : (hd.heap_39 w.params).In H) (N : News H L s.heap led) (T : Top p loose mean mg mb H) (U : UpdF 114 (tabObj ps) led g) (hr : (row, rowObj (itemsOf tl) n dx) ∈ led) (hd : (dx, dictOf [dEnt w.params size tk₀ tk₁] 1) ∈ led) (hne : row ≠ dx)
   (hsz : tl.length ≤ 80) (hg : AllBare s.gens) (hps : TabOk 51 32 ps) (hr7 : row ≠ 114) (hd7 : dx ≠ 114) (htup : ∀ e ∈ tl, e.ent ∈ led) (hlen : ∀ e ∈ tl, e.f.length + e.b.length ≤ 100)
   (hret : ∀ s' t ps', TabOk 51 32 ps' → Fr H L s'.heap m → News H L s'.heap (g (tabObj ps')) → AllBare s'.gens → s'.os = s.os → Q (.str (Txt.join (Str.ofString "") (tl.map fun e => Txt.join (Str.ofString "") [e.f, e.b])) t) s') :
   wpAny (model Challenge.rw_pe0060_01.row.prog w) (callerA.deeper (envX cn (Scope.mk .function nms ig ic mr) L a ccd cl)) (call (.type "str") [.ref row]) Q E s := by
  have hget : ∀ j, j < (itemsOf tl).size → ∃ e ∈ tl, tl[j]? = some e := fun j hj => by
    rw [items_size] at hj
    exact ⟨tl[j], List.getElem_mem hj, by simp [hj]⟩
  refine str_KK F X N T U hr hd hne (by rw [items_size]; omega) hg hps hr7 hd7 (fun j => (tl[j]?.getD TE0).T) (fun j => (tl[j]?.getD TE0).f) (fun j => (tl[j]?.getD TE0).b) (fun j => (tl[j]?.getD TE0).tf) (fun j => (tl[j]?.getD TE0).tb) (fun j hj => ?_) (fun j hj => ?_) (fun j hj => ?_) fun s' t ps' hp F' N' hb ho => ?_
  · obtain ⟨e, _, he⟩ := hget j hj
    simp [itemsOf, he]
  · obtain ⟨e, hm, he⟩ := hget j hj
    have := htup e hm
    simp only [he, Option.getD_some]
    exact this
  · obtain ⟨e, hm, he⟩ := hget j hj
    have := hlen e hm
    simp only [he, Option.getD_some]
    exact this
  · have e : ((List.range (itemsOf tl).size).map fun j => Txt.join (Str.ofString "") [(tl[j]?.getD TE0).f, (tl[j]?.getD TE0).b]) = tl.map fun e => Txt.join (Str.ofString "") [e.f, e.b] := by
      refine List.ext_getElem? fun j => ?_
      rw [items_size]
      by_cases hj : j < tl.length
      · simp [hj]
      · simp [hj]
    rw [e]
    exact hret s' t ps' hp F' N' hb ho
end
end Mine
end
section
open PySem PySem.W PyProof.Rows
namespace Mine
theorem fresh24 : True ∧ True := by
  k_with_none
  first | (walk1; fail) | (w_top off; exact ⟨trivial, trivial⟩)
end Mine
end
section
open PySem PySem.W PyProof.Rows
namespace Mine
set_option maxRecDepth 100000
set_option maxHeartbeats 8000000
noncomputable def bdy (mrk : Str) (port : Int) : Str := Str.ofString "(" ++ Txt.mul mrk 3 ++ Str.ofString (toString port) ++ mrk ++ Str.ofString ")"
noncomputable def over : List (Str × Value) → (Str → Option Value) → Str → Option Value
  | [], m => m
  | (x, v) :: r, m => fun y => if y = x then some v else over r m y
theorem over_eq {m : Str → Option Value} : ∀ {l : List (Str × Value)}, (∀ p ∈ l, m p.1 = some p.2) → over l m = m
  | [], _ => rfl
  | (x, v) :: r, h => by
    funext y
    show (if y = x then some v else over r m y) = m y
    by_cases e : y = x
    · rw [if_pos e, e]; exact (h _ (.head _)).symm
    · rw [if_neg e, over_eq fun p hp => h p (.tail _ hp)]
noncomputable def fitsTo (b : Int) (opn mrk : Str) (sg : Int) : Nat → List Int
  | 0 => []
  | k + 1 => fitsTo b opn mrk sg k ++ (if b + ((opn.length : Int) + (bdy mrk (sg + (k : Int))).length) = sg + (k : Int) then [sg + (k : Int)] else [])
theorem words14 : True := by
  k_with_none
  k_with "k_inst" => (refine' inst_row ?N ?h1 ?h2; (case N => k_asm); (case h1 => k_mem); (case h2 => k_mem))
  k_with "k_ne" => (refine neN ?_; (try dsimp only); first | with_reducible assumption | (refine Ne.symm ?_; with_reducible assumption))
  k_with "k_all" => with_reducible assumption
  k_with "getMethod ref" => (k_here; k_dflt (refine' method_own ?k1 ?k2 ?k3 ?k4 ?k5 ?k6 ?k7 ?k8 ?k9 ?_; (case k1 => k_in); (case k2 => k_inst); (case k3 => k_is); (case k4 => decide +kernel); (case k5 => k_is); (case k6 => k_is); (case k7 => k_is); (case k8 => decide +kernel); (case k9 => rfl); k_whole))
  k_with "call ref" => (k_here; k_dflt (refine' push_TL ?k1 ?k2 ?k3 ?k4 ?k5 ?k6 ?k7 ?k8 ?_; (case k1 => k_asm); (case k2 => k_asm); (case k3 => k_asm); (case k4 => k_asm); (case k5 => k_updF); (case k6 => k_mem); (case k7 => with_reducible assumption); (case k8 => omega); k_whole); intro h' tk' T' F' N' nT'; (try dsimp only at N'); (simp only [List.forall_mem_cons] at nT'); (repeat (obtain ⟨_, nT'⟩ := nT')); (try k_sweep))
  k_with "call ref" => (k_here; k_dflt (refine' pop_TL ?k1 ?k2 ?k3 ?k4 ?k5 ?k6 ?k7 ?k8 ?_; (case k1 => k_asm); (case k2 => k_asm); (case k3 => k_asm); (case k4 => k_asm); (case k5 => k_updF); (case k6 => k_mem); (case k7 => with_reducible assumption); (case k8 => omega); k_whole); intro h' tk' F' N'; (try dsimp only at N'); (try k_sweep))
  trivial
theorem ents_snoc {tl : List TE} {e : TE} {rest led : List (Addr × Obj)} (h : ∀ e ∈ tl, e.ent ∈ rest) (h1 : ∀ q ∈ rest, q ∈ led) (h2 : e.ent ∈ led) : ∀ q ∈ tl ++ [e], q.ent ∈ led := fun q hq => by
  rcases List.mem_append.mp hq with hq | hq
  · exact h1 _ (h q hq)
  · rw [List.mem_singleton.mp hq]; exact h2
theorem lens_snoc {tl : List TE} {e : TE} (h : ∀ e ∈ tl, e.f.length + e.b.length ≤ 100) (h2 : e.f.length + e.b.length ≤ 100) : ∀ q ∈ tl ++ [e], q.f.length + q.b.length ≤ 100 := fun q hq => by
  rcases List.mem_append.mp hq with hq | hq
  · exact h q hq
  · rw [List.mem_singleton.mp hq]; exact h2
section
variable {w : World} {p : Program} {loose : List Str} {mean : ExcName → Option Value} {mg mb : Str → Option Value} {H : Heap} {L fa : Addr} {cd : Value} {m₀ : Str → Option Value} {s : Shared} {Q : Flow → Shared → Prop} {rest : List (Addr × Obj)} {ok osz : Obj}
   {row dx ft : Addr} {tl : List TE} {n nf : Nat} {size : Int} {tk₀ tk₁ t1 t2 t3 : Tok} {ps : Array Value} {fv : List Value} {fs : List Int} {port : Int} {opn mrk : Str} {b : Int}
theorem words15 : True := by
  k_with_none
  k_with "k_inst" => (refine' inst_row ?N ?h1 ?h2; (case N => k_asm); (case h1 => k_mem); (case h2 => k_mem))
  k_with "k_ne" => (refine neN ?_; (try dsimp only); first | with_reducible assumption | (refine Ne.symm ?_; with_reducible assumption))
  k_with "k_all" => with_reducible assumption
  k_with "getMethod ref" => (k_here; k_dflt (refine' method_own ?k1 ?k2 ?k3 ?k4 ?k5 ?k6 ?k7 ?k8 ?k9 ?_; (case k1 => k_in); (case k2 => k_inst); (case k3 => k_is); (case k4 => decide +kernel); (case k5 => k_is); (case k6 => k_is); (case k7 => k_is); (case k8 => decide +kernel); (case k9 => rfl); k_whole))
  k_with "call ref" => (k_here; k_dflt (refine' push_TL ?k1 ?k2 ?k3 ?k4 ?k5 ?k6 ?k7 ?k8 ?_; (case k1 => k_asm); (case k2 => k_asm); (case k3 => k_asm); (case k4 => k_asm); (case k5 => k_updF); (case k6 => k_mem); (case k7 => with_reducible assumption); (case k8 => omega); k_whole); intro h' tk' T' F' N' nT'; (try dsimp only at N'); (simp only [List.forall_mem_cons] at nT'); (repeat (obtain ⟨_, nT'⟩ := nT')); (try k_sweep))
  k_with "call ref" => (k_here; k_dflt (refine' pop_TL ?k1 ?k2 ?k3 ?k4 ?k5 ?k6 ?k7 ?k8 ?_; (case k1 => k_asm); (case k2 => k_asm); (case k3 => k_asm); (case k4 => k_asm); (case k5 => k_updF); (case k6 => k_mem); (case k7 => with_reducible assumption); (case k8 => omega); k_whole); intro h' tk' F' N'; (try dsimp only at N'); (try k_sweep))
  k_with "call builtin:len" => (k_here; (with_reducible show wpAny _ _ (call (Value.builtin "len") [Value.ref _]) _ _ _); k_dflt (refine' len_TL ?k1 ?k2 ?k3 ?k4 ?k5 ?k6 ?k7 ?k8 ?k9 ?l1 ?l2 ?l3 ?l4 ?l5 ?l6 ?l7 ?l8 ?_; (case k1 => k_asm); (case k2 => k_asm); (case k3 => k_asm); (case k4 => k_asm); (case k5 => k_updF); (case k6 => k_mem); (case k7 => k_mem); (case k8 => with_reducible assumption); (case k9 => simp only [List.length_append, List.length_cons, List.length_nil]; omega); (case l1 => assumption); (case l2 => assumption); (case l3 => assumption); (case l4 => assumption); (case l5 => assumption); (case l6 => assumption); (case l7 => exact ents_snoc (by assumption) (fun q hq => by repeat (first | exact hq | apply List.Mem.tail)) (by k_mem)); (case l8 => exact lens_snoc (by assumption) (by dsimp only; omega)); k_whole); intro s' t' ps' hp' F' N' hb' ho'; (try dsimp only at N'); (try k_sweep))
  trivial
theorem tB (F : Fr H L s.heap (over [(Str.ofString "port", .int port t3), (Str.ofString "row", .ref row), (Str.ofString "fits", .ref ft), (Str.ofString "opening", .str opn t1), (Str.ofString "mark", .str mrk t2)] m₀)) (X : (hd.heap_39 w.params).In H)
   (N : News H L s.heap ((row, rowObj (itemsOf tl) n dx) :: (dx, dictOf [dEnt w.params size tk₀ tk₁] 1) :: (107, tabObj ps) :: (ft, W.listOf fv.toArray nf) :: rest))
   (T : Top p loose mean mg mb H) (hft : IntsAre fv fs) (hfl : fs.length ≤ 10) (hps : TabOk 48 19 ps) (hg : AllBare s.gens) (htl : tl.length ≤ 70) (htup : ∀ e ∈ tl, e.ent ∈ rest) (hlen : ∀ e ∈ tl, e.f.length + e.b.length ≤ 100) (hs0 : 0 ≤ size) (hs1 : size ≤ 10000)
   (h0 : 0 ≤ port) (h1 : port ≤ 10000) (ho : opn.length ≤ 10) (hm : mrk.length = 1) (h3 : (Txt.mul mrk 3).length = 3) (hp : (Str.ofString (toString port)).length ≤ 5)
   (n1 : row ≠ dx) (n2 : row ≠ 107) (n3 : row ≠ ft) (n4 : dx ≠ 107) (n5 : dx ≠ ft) (n6 : ft ≠ 107) (nr : ∀ p ∈ rest, p.1 ≠ row) (nt : ∀ p ∈ rest, p.1 ≠ 107) (nf' : ∀ p ∈ rest, p.1 ≠ ft)
   (hret1 : ∀ s' n' ps' fv' nf', b = size + total tl → b + ((opn.length : Int) + (bdy mrk port).length) = port → IntsAre fv' (fs ++ [port]) → TabOk 48 19 ps' → Fr H L s'.heap (over [(Str.ofString "port", .int port t3), (Str.ofString "row", .ref row), (Str.ofString "fits", .ref ft), (Str.ofString "opening", .str opn t1), (Str.ofString "mark", .str mrk t2)] m₀) →
     News H L s'.heap ((row, rowObj (itemsOf tl) n' dx) :: (dx, dictOf [dEnt w.params size tk₀ tk₁] 1) :: (107, tabObj ps') :: (ft, W.listOf fv'.toArray nf') :: rest) → AllBare s'.gens → s'.os = s.os → Q .next s')
   (hret2 : ∀ s' n' ps', ¬ b + ((opn.length : Int) + (bdy mrk port).length) = port → TabOk 48 19 ps' → Fr H L s'.heap (over [(Str.ofString "port", .int port t3), (Str.ofString "row", .ref row), (Str.ofString "fits", .ref ft), (Str.ofString "opening", .str opn t1), (Str.ofString "mark", .str mrk t2)] m₀) →
     News H L s'.heap ((row, rowObj (itemsOf tl) n' dx) :: (dx, dictOf [dEnt w.params size tk₀ tk₁] 1) :: (107, tabObj ps') :: (ft, W.listOf fv.toArray nf) :: rest) → AllBare s'.gens → s'.os = s.os → Q .next s') (hb : b = size + total tl) :
   wpAny (model Challenge.rw_pe0060_01.row.prog w) (callerA.deeper (lawEnv L fa cd)) (execs bodyB (lawEnv L fa cd)) Q (fun _ _ => False) s := by
  revert X
  k_fill
  intro X
  have B := below_caller H
  have ho1 : (Str.ofString "(").length = 1 := by decide
  have hc1 : (Str.ofString ")").length = 1 := by decide
  unfold bodyB lawEnv lawScope
  simp only [over] at F
  k_steps
  · rename size + total _ = port => a1
    rename News _ _ _ _ => kN
    rw [total_snoc] at a1
    dsimp only at a1
    refine hret1 _ (n + 1 + 1) _ (fv ++ [.int port t3]) (nf + 1) hb (by unfold bdy; omega) (IntsAre.append hft (IntsAre.cons _ _ IntsAre.nil)) (by assumption) (by assumption) (fun q hq => kN q ?_) (by assumption) (by assumption)
    rw [← List.push_toArray] at hq
    exact .tail _ hq
  · rename size + total _ ≠ port => a1
    rename News _ _ _ _ => kN
    rw [total_snoc] at a1
    dsimp only at a1
    exact hret2 _ (n + 1 + 1) _ (by unfold bdy; omega) (by assumption) (by assumption) (fun q hq => kN q (.tail _ hq)) (by assumption) (by assumption)
noncomputable abbrev nmB (row ft : Addr) (opn mrk : Str) (t1 t2 t4 : Tok) (sg : Int) : List (Str × Value) := [(Str.ofString "row", .ref row), (Str.ofString "fits", .ref ft), (Str.ofString "opening", .str opn t1), (Str.ofString "mark", .str mrk t2), (Str.ofString "signs", .int sg t4)]
theorem range6 (sg : Int) (h0 : 0 ≤ sg) (h1 : sg ≤ 9000) : Builtin.Range.small sg (sg + 6) 1 = true ∧ Builtin.Range.rangeSize sg (sg + 6) 1 = ((6 : Nat) : Int) := by
  have e : Builtin.Range.rangeSize sg (sg + 6) 1 = ((6 : Nat) : Int) := by
    unfold Builtin.Range.rangeSize
    rw [if_pos (by decide), if_pos (by omega)]
    simp only [Int.ediv_one]
    omega
  refine ⟨?_, e⟩
  unfold Builtin.Range.small
  rw [e]
  unfold Builtin.Range.rangeFitsLong
  simp
  omega
theorem forB_c {nx : List (Str × Value)} {t4 : Tok} {sg : Int} {m : Str → Option Value} (F : Fr H L s.heap m) (hnm : ∀ p ∈ nmB row ft opn mrk t1 t2 t4 sg, m p.1 = some p.2) (hnx : ∀ p ∈ nx, p.1 ≠ Str.ofString "port" ∧ m p.1 = some p.2) (X : (hd.heap_39 w.params).In H)
   (N : News H L s.heap ((row, rowObj (itemsOf tl) n dx) :: (dx, dictOf [dEnt w.params size tk₀ tk₁] 1) :: (107, tabObj ps) :: (ft, W.listOf #[] 0) :: rest))
   (T : Top p loose mean mg mb H) (hps : TabOk 48 19 ps) (hg : AllBare s.gens) (htl : tl.length ≤ 70) (htup : ∀ e ∈ tl, e.ent ∈ rest) (hlen : ∀ e ∈ tl, e.f.length + e.b.length ≤ 100) (hs0 : 0 ≤ size) (hs1 : size ≤ 10000)
   (h0 : 0 ≤ sg) (h1 : sg ≤ 9000) (ho : opn.length ≤ 10) (hm : mrk.length = 1) (h3 : (Txt.mul mrk 3).length = 3) (hp : ∀ port : Int, 0 ≤ port → port ≤ 10000 → (Str.ofString (toString port)).length ≤ 5)
   (n1 : row ≠ dx) (n2 : row ≠ 107) (n3 : row ≠ ft) (n4 : dx ≠ 107) (n5 : dx ≠ ft) (n6 : ft ≠ 107) (nr : ∀ p ∈ rest, p.1 ≠ row) (nt : ∀ p ∈ rest, p.1 ≠ 107) (nf' : ∀ p ∈ rest, p.1 ≠ ft) (hb : b = size + total tl)
   (hret : ∀ s' m' n' ps' fv' nf', IntsAre fv' (fitsTo b opn mrk sg 6) → TabOk 48 19 ps' → (∀ p ∈ nmB row ft opn mrk t1 t2 t4 sg ++ nx, m' p.1 = some p.2) → Fr H L s'.heap m' →
     News H L s'.heap ((row, rowObj (itemsOf tl) n' dx) :: (dx, dictOf [dEnt w.params size tk₀ tk₁] 1) :: (107, tabObj ps') :: (ft, W.listOf fv'.toArray nf') :: rest) → AllBare s'.gens → s'.os = s.os → Q .next s') :
   wpAny (model Challenge.rw_pe0060_01.row.prog w) (callerA.deeper (lawEnv L fa cd)) (exec forB (lawEnv L fa cd)) Q (fun _ _ => False) s := by
  have hR := range6 sg h0 h1
  have hport : ∀ q ∈ nmB row ft opn mrk t1 t2 t4 sg ++ nx, q.1 ≠ Str.ofString "port" := fun q hq => by
    rcases List.mem_append.mp hq with hq | hq
    · simp only [List.mem_cons, List.not_mem_nil, or_false] at hq
      rcases hq with rfl | rfl | rfl | rfl | rfl <;> dsimp only <;> decide
    · exact (hnx q hq).1
  unfold forB
  refine for_range (h₀ := H) (os₀ := s.os) (Q := Q) (n := 6) (by rfl) (fun I v => by rfl)
    (fun j m led => (∀ p ∈ nmB row ft opn mrk t1 t2 t4 sg ++ nx, m p.1 = some p.2) ∧ ∃ n' ps' fv nf, led = (row, rowObj (itemsOf tl) n' dx) :: (dx, dictOf [dEnt w.params size tk₀ tk₁] 1) :: (107, tabObj ps') :: (ft, W.listOf fv.toArray nf) :: rest ∧ TabOk 48 19 ps' ∧ IntsAre fv (fitsTo b opn mrk sg j))
    hR.1 hR.2 ?it ?step ?done
  case done =>
    rintro s' m' news' ⟨hn, n', ps', fv, nf, rfl, hp', hI⟩ F' N' G' o'
    exact hret s' m' n' ps' fv nf hI hp' hn F' N' G' o'
  case it =>
    clear hret
    rw [← over_eq hnm] at F
    revert X
    k_fill
    intro X
    have B := below_caller H
    unfold lawEnv lawScope
    simp only [over] at F
    repeat' ((fail_if_success (with_reducible show Exists _)); first | (k_unfold; (try dsimp only)) | walk1 | (dsimp only; walk1))
    rename Fr _ _ _ _ => kF
    exact ⟨_, _, _, _, m, _, rfl, by assumption, (by rw [← over_eq hnm]; exact kF), by assumption, hg, rfl, fun q hq => (List.mem_append.mp hq).elim (hnm q) fun h => (hnx q h).2, n, ps, [], 0, rfl, hps, IntsAre.nil⟩
  case step =>
    rintro i m₁ led s₁ own I t hi ⟨hn, n', ps', fv, nf, rfl, hp', hI⟩ off hown hcls F₁ N₁ G₁ o₁
    refine wpAny_assign_Name ?_
    refine storeX_L F₁ N₁ (fun h' F₂ N₂ => ?_) (by rfl) (by rfl)
    have hn5 : ∀ q ∈ [(Str.ofString "row", Value.ref row), (Str.ofString "fits", .ref ft), (Str.ofString "opening", .str opn t1), (Str.ofString "mark", .str mrk t2)], m₁ q.1 = some q.2 := fun q hq => hn q (by simp at hq ⊢; rcases hq with rfl | rfl | rfl | rfl <;> simp)
    have em : (fun y => if y = Str.ofString "port" then some (Value.int (sg + (i : Int) * 1) t) else m₁ y) = over [(Str.ofString "port", .int (sg + (i : Int)) t), (Str.ofString "row", .ref row), (Str.ofString "fits", .ref ft), (Str.ofString "opening", .str opn t1), (Str.ofString "mark", .str mrk t2)] m₁ := by
      funext y
      show _ = if y = Str.ofString "port" then _ else over _ m₁ y
      rw [over_eq hn5, Int.mul_one]
    have hnn : ∀ q ∈ nmB row ft opn mrk t1 t2 t4 sg ++ nx, over [(Str.ofString "port", .int (sg + (i : Int)) t), (Str.ofString "row", .ref row), (Str.ofString "fits", .ref ft), (Str.ofString "opening", .str opn t1), (Str.ofString "mark", .str mrk t2)] m₁ q.1 = some q.2 := fun q hq => by
      rw [← em]
      show (if q.1 = Str.ofString "port" then _ else m₁ q.1) = _
      rw [if_neg (hport q hq)]; exact hn q hq
    have em' := em
    rw [em] at F₂
    have own_ne : ∀ x, (∃ o, (x, o) ∈ (row, rowObj (itemsOf tl) n' dx) :: (dx, dictOf [dEnt w.params size tk₀ tk₁] 1) :: (107, tabObj ps') :: (ft, W.listOf fv.toArray nf) :: rest) → ∀ q ∈ own, q.1 ≠ x := by
      rintro x ⟨o, hx⟩ q hq e
      exact off _ hx (by rw [← show q.1 = x from e]; exact hown q hq)
    have app : ∀ x, (∀ q ∈ rest, q.1 ≠ x) → (∃ o, (x, o) ∈ (row, rowObj (itemsOf tl) n' dx) :: (dx, dictOf [dEnt w.params size tk₀ tk₁] 1) :: (107, tabObj ps') :: (ft, W.listOf fv.toArray nf) :: rest) → ∀ q ∈ rest ++ own, q.1 ≠ x := fun x h1 h2 q hq => (List.mem_append.mp hq).elim (h1 q) (own_ne x h2 q)
    have offs : ∀ n'' ps'' fv'' nf'', ∀ q ∈ (row, rowObj (itemsOf tl) n'' dx) :: (dx, dictOf [dEnt w.params size tk₀ tk₁] 1) :: (107, tabObj ps'') :: (ft, W.listOf fv'' nf'') :: rest, q.1 ∉ [I] := by
      intro n'' ps'' fv'' nf'' q hq
      have o1 : row ∉ [I] := off _ (.head _)
      have o2 : dx ∉ [I] := off _ (.tail _ (.head _))
      have o3 : 107 ∉ [I] := off _ (.tail _ (.tail _ (.head _)))
      have o4 : ft ∉ [I] := off _ (.tail _ (.tail _ (.tail _ (.head _))))
      rcases List.mem_cons.mp hq with rfl | hq
      · exact o1
      rcases List.mem_cons.mp hq with rfl | hq
      · exact o2
      rcases List.mem_cons.mp hq with rfl | hq
      · exact o3
      rcases List.mem_cons.mp hq with rfl | hq
      · exact o4
      · exact off _ (.tail _ (.tail _ (.tail _ (.tail _ hq))))
    have hfl : (fitsTo b opn mrk sg i).length ≤ 10 := by
      have : ∀ k, (fitsTo b opn mrk sg k).length ≤ k := by
        intro k
        induction k with
        | zero => exact Nat.le_refl _
        | succ k ih =>
          simp only [fitsTo, List.length_append]
          split <;> simp <;> omega
      have := this i
      omega
    refine tB (s := { s₁ with heap := h', toks := s₁.toks + 1 }) (rest := rest ++ own) (b := b) F₂ X N₂ T hI hfl hp' G₁ htl (fun e he => List.mem_append_left _ (htup e he)) hlen hs0 hs1 (by omega) (by omega) ho hm h3 (hp _ (by omega) (by omega)) n1 n2 n3 n4 n5 n6
      (app row nr ⟨_, .head _⟩) (app 107 nt ⟨_, .tail _ (.tail _ (.head _))⟩) (app ft nf' ⟨_, .tail _ (.tail _ (.tail _ (.head _)))⟩) ?_ ?_ hb
    · intro s' n'' ps'' fv'' nf'' _ c hI' hp'' F' N' G' o'
      refine ⟨_, (row, rowObj (itemsOf tl) n'' dx) :: (dx, dictOf [dEnt w.params size tk₀ tk₁] 1) :: (107, tabObj ps'') :: (ft, W.listOf fv''.toArray nf'') :: rest, ⟨hnn, n'', ps'', fv'', nf'', rfl, hp'', ?_⟩, F', N', offs _ _ _ _, G', o'.trans o₁⟩
      show IntsAre fv'' (fitsTo b opn mrk sg i ++ _)
      rw [if_pos c]
      exact hI'
    · intro s' n'' ps'' c hp'' F' N' G' o'
      refine ⟨_, (row, rowObj (itemsOf tl) n'' dx) :: (dx, dictOf [dEnt w.params size tk₀ tk₁] 1) :: (107, tabObj ps'') :: (ft, W.listOf fv.toArray nf) :: rest, ⟨hnn, n'', ps'', fv, nf, rfl, hp'', ?_⟩, F', N', offs _ _ _ _, G', o'.trans o₁⟩
      show IntsAre fv (fitsTo b opn mrk sg i ++ _)
      rw [if_neg c, List.append_nil]
      exact hI
end
end Mine
end
section
open PySem PySem.W PyProof.Rows
namespace Mine
theorem fresh25 : True ∧ True := by
  k_with_none
  first | (walk1; fail) | (w_top off; exact ⟨trivial, trivial⟩)
end Mine
end
section
open PySem PySem.W PyProof.Rows
namespace Mine
set_option maxRecDepth 100000
set_option maxHeartbeats 8000000
section
variable {w : World} {p : Program} {loose : List Str} {mean : ExcName → Option Value} {mg mb : Str → Option Value} {H : Heap} {L fa : Addr} {cd : Value} {m₀ : Str → Option Value} {s : Shared} {Q : Flow → Shared → Prop} {rest : List (Addr × Obj)} {ok osz : Obj} {more : List Stmt}
   {ft row dx bk bd : Addr} {tl : List TE} {n nf nk nb : Nat} {size : Int} {tk₀ tk₁ t1 t2 t3 t4 t5 tt tc : Tok} {fv bkv bdv : List Value} {brs bs : List Int} {sg xv b c : Int} {opn mrk text : Str}
theorem words16 : True := by
  k_with_none
  k_with "k_inst" => (refine' inst_row ?N ?h1 ?h2; (case N => k_asm); (case h1 => k_mem); (case h2 => k_mem))
  k_with "k_ne" => (refine neN ?_; (try dsimp only); first | with_reducible assumption | (refine Ne.symm ?_; with_reducible assumption))
  k_with "k_all" => with_reducible assumption
  k_with "getMethod ref" => (k_here; k_dflt (refine' method_own ?k1 ?k2 ?k3 ?k4 ?k5 ?k6 ?k7 ?k8 ?k9 ?_; (case k1 => k_in); (case k2 => k_inst); (case k3 => k_is); (case k4 => decide +kernel); (case k5 => k_is); (case k6 => k_is); (case k7 => k_is); (case k8 => decide +kernel); (case k9 => rfl); k_whole))
  k_with "call ref" => (k_here; k_dflt (refine' push_TL ?k1 ?k2 ?k3 ?k4 ?k5 ?k6 ?k7 ?k8 ?_; (case k1 => k_asm); (case k2 => k_asm); (case k3 => k_asm); (case k4 => k_asm); (case k5 => k_updF); (case k6 => k_mem); (case k7 => with_reducible assumption); (case k8 => omega); k_whole); intro h' tk' T' F' N' nT'; (try dsimp only at N'); (simp only [List.forall_mem_cons] at nT'); (repeat (obtain ⟨_, nT'⟩ := nT')); (try k_sweep))
  k_with "call ref" => (k_here; k_dflt (refine' pop_TL ?k1 ?k2 ?k3 ?k4 ?k5 ?k6 ?k7 ?k8 ?_; (case k1 => k_asm); (case k2 => k_asm); (case k3 => k_asm); (case k4 => k_asm); (case k5 => k_updF); (case k6 => k_mem); (case k7 => with_reducible assumption); (case k8 => omega); k_whole); intro h' tk' F' N'; (try dsimp only at N'); (try k_sweep))
  k_with "call builtin:len" => (k_here; (with_reducible show wpAny _ _ (call (Value.builtin "len") [Value.ref _]) _ _ _); k_dflt (refine' len_TL ?k1 ?k2 ?k3 ?k4 ?k5 ?k6 ?k7 ?k8 ?k9 ?l1 ?l2 ?l3 ?l4 ?l5 ?l6 ?l7 ?l8 ?_; (case k1 => k_asm); (case k2 => k_asm); (case k3 => k_asm); (case k4 => k_asm); (case k5 => k_updF); (case k6 => k_mem); (case k7 => k_mem); (case k8 => with_reducible assumption); (case k9 => simp only [List.length_append, List.length_cons, List.length_nil]; omega); (case l1 => assumption); (case l2 => assumption); (case l3 => assumption); (case l4 => assumption); (case l5 => assumption); (case l6 => assumption); (case l7 => exact ents_snoc (by assumption) (fun q hq => by repeat (first | exact hq | apply List.Mem.tail)) (by k_mem)); (case l8 => exact lens_snoc (by assumption) (by dsimp only; omega)); k_whole); intro s' t' ps' hp' F' N' hb' ho'; (try dsimp only at N'); (try k_sweep))
  k_with "call ref" => (k_here; k_dflt (refine' ends_c ?k1 ?k2 ?k3 ?k4 ?k5 ?k6 ?_; (case k1 => k_asm); (case k2 => k_asm); (case k3 => k_asm); (case k4 => k_asm); (case k5 => omega); (case k6 => omega); k_whole); intro h' tk' l' ys' hI' F' N' nl'; (simp only [List.forall_mem_cons] at nl'); (repeat (obtain ⟨_, nl'⟩ := nl')); (try k_sweep))
  trivial
theorem allLt_ne {T' : Addr} : ∀ {l : List (Addr × Obj)}, AllLt T' l → ∀ q ∈ l, q.1 ≠ T' := by
  intro l
  induction l with
  | nil => intro _ q hq; cases hq
  | cons x r ih =>
    intro hl q hq
    rcases List.mem_cons.mp hq with rfl | hq
    · exact Nat.ne_of_lt hl.1
    · exact ih hl.2 q hq
noncomputable def opnOf (x : Int) : Str := Str.ofString "229 " ++ Txt.slice (Str.ofString "ab") none (some (x.fmod 3))
noncomputable def mrkOf (x : Int) : Str := Txt.item (Str.ofString "|!-/") ((x.fdiv 3).fmod 4)
theorem tA1 (F : Fr H L s.heap (over [(Str.ofString "x", .int xv t5), (Str.ofString "bounds", .ref bd)] m₀)) (X : (hd.heap_39 w.params).In H)
   (N : News H L s.heap ((bd, W.listOf bdv.toArray nb) :: rest))
   (T : Top p loose mean mg mb H) (hbd : IntsAre bdv (bs ++ [b])) (hbl : bs.length ≤ 10) (h0 : 0 ≤ b) (hb : b ≤ 5000) (hx0 : 0 ≤ xv) (hx1 : xv < 1000000)
   (hret : ∀ h' tk ft t1 t2 t3 sg, sg = b + (opnOf xv).length + 6 → Fr H L h' (over [(Str.ofString "fits", .ref ft), (Str.ofString "signs", .int sg t3), (Str.ofString "mark", .str (mrkOf xv) t2), (Str.ofString "opening", .str (opnOf xv) t1), (Str.ofString "x", .int xv t5), (Str.ofString "bounds", .ref bd)] m₀) →
     News H L h' ((ft, W.listOf #[] 0) :: (bd, W.listOf bdv.toArray nb) :: rest) → (∀ p ∈ (bd, W.listOf bdv.toArray nb) :: rest, p.1 ≠ ft) → wpAny (model Challenge.rw_pe0060_01.row.prog w) (callerA.deeper (lawEnv L fa cd)) (execs more (lawEnv L fa cd)) Q (fun _ _ => False) { s with heap := h', toks := tk }) :
   wpAny (model Challenge.rw_pe0060_01.row.prog w) (callerA.deeper (lawEnv L fa cd)) (execs (aOpening :: aMark :: aSigns :: aFits :: more) (lawEnv L fa cd)) Q (fun _ _ => False) s := by
  revert X
  k_fill
  intro X
  have B := below_caller H
  have hsl := Txt.slice_le (Str.ofString "ab") none (some (xv.fmod 3))
  have hab : (Str.ofString "ab").length = 2 := by decide
  unfold aOpening aMark aSigns aFits lawEnv lawScope
  simp only [over] at F
  k_steps
  rename (bd : Nat) < _ ∧ AllLt _ rest => l1
  rename Fr _ _ _ _ => kF
  rename News _ _ _ _ => kN
  refine hret _ _ _ _ _ _ _ (by unfold opnOf; rw [Str.length_append]) kF kN fun q hq => ?_
  rcases List.mem_cons.mp hq with rfl | hq
  · exact Nat.ne_of_lt l1.1
  · exact allLt_ne l1.2 q hq
theorem tA3 (F : Fr H L s.heap (over [(Str.ofString "x", .int xv t5), (Str.ofString "fits", .ref ft), (Str.ofString "signs", .int sg t4)] m₀)) (X : (hd.heap_39 w.params).In H)
   (N : News H L s.heap ((ft, W.listOf fv.toArray nf) :: rest))
   (T : Top p loose mean mg mb H) (hft : IntsAre fv (lawEnds sg)) (hfl : 0 < (lawEnds sg).length) (hfl' : (lawEnds sg).length ≤ 5) (h0 : 0 ≤ sg) (h1 : sg ≤ 9000) (hx0 : 0 ≤ xv) (hx1 : xv < 1000000)
   (hret : ∀ h' tk c tc, c ∈ lawEnds sg → Fr H L h' (over [(Str.ofString "chosen", .int c tc), (Str.ofString "x", .int xv t5), (Str.ofString "fits", .ref ft), (Str.ofString "signs", .int sg t4)] m₀) → News H L h' rest → wpAny (model Challenge.rw_pe0060_01.row.prog w) (callerA.deeper (lawEnv L fa cd)) (execs more (lawEnv L fa cd)) Q (fun _ _ => False) { s with heap := h', toks := tk }) :
   wpAny (model Challenge.rw_pe0060_01.row.prog w) (callerA.deeper (lawEnv L fa cd)) (execs (aIf :: aChosen :: more) (lawEnv L fa cd)) Q (fun _ _ => False) s := by
  revert X
  k_fill
  intro X
  have B := below_caller H
  unfold aIf aChosen lawEnv lawScope
  simp only [over] at F
  k_steps
  · rename News _ _ _ _ => kN
    exact hret _ _ _ _ (by assumption) (by assumption) fun q hq => kN q (.tail _ (.tail _ hq))
  · rename News _ _ _ _ => kN
    exact hret _ _ _ _ (by assumption) (by assumption) fun q hq => kN q (.tail _ (.tail _ hq))
theorem tA4 (F : Fr H L s.heap (over [(Str.ofString "chosen", .int c tc), (Str.ofString "row", .ref row), (Str.ofString "opening", .str opn t1), (Str.ofString "mark", .str mrk t2), (Str.ofString "brackets", .ref bk), (Str.ofString "bounds", .ref bd), (Str.ofString "text", .str text tt)] m₀)) (X : (hd.heap_39 w.params).In H)
   (N : News H L s.heap ((row, rowObj (itemsOf tl) n dx) :: (dx, dictOf [dEnt w.params size tk₀ tk₁] 1) :: (bk, W.listOf bkv.toArray nk) :: (bd, W.listOf bdv.toArray nb) :: rest))
   (T : Top p loose mean mg mb H) (hbk : IntsAre bkv brs) (hkl : brs.length ≤ 10) (hbd : IntsAre bdv (bs ++ [b])) (hbl : bs.length ≤ 10) (h0 : 0 ≤ b) (h1 : b ≤ 5000) (hc0 : 0 ≤ c) (hc1 : c ≤ 10000) (htl : tl.length ≤ 70)
   (ho : opn.length ≤ 10) (hm : mrk.length = 1) (h3 : (Txt.mul mrk 3).length = 3) (hp : (Str.ofString (toString c)).length ≤ 5) (htx : text.length ≤ 1000)
   (n1 : row ≠ dx) (n2 : row ≠ bk) (n3 : row ≠ bd) (n4 : dx ≠ bk) (n5 : dx ≠ bd) (n6 : bk ≠ bd) (nr : ∀ p ∈ rest, p.1 ≠ row) (nt : ∀ p ∈ rest, p.1 ≠ bk) (nf' : ∀ p ∈ rest, p.1 ≠ bd)
   (hret : ∀ h' tk T' tb tt' tx nk' nb' n', Fr H L h' (over [(Str.ofString "text", .str (text ++ opn ++ bdy mrk c) tt'), (Str.ofString "body", .str (bdy mrk c) tb), (Str.ofString "chosen", .int c tc), (Str.ofString "row", .ref row), (Str.ofString "opening", .str opn t1), (Str.ofString "mark", .str mrk t2), (Str.ofString "brackets", .ref bk), (Str.ofString "bounds", .ref bd), (Str.ofString "text", .str text tt)] m₀) →
     News H L h' ((T', tupObj (.str opn t1) (.str (bdy mrk c) tb)) :: (row, rowObj (itemsOf (tl ++ [⟨T', opn, t1, bdy mrk c, tb⟩])) n' dx) :: (dx, dictOf [dEnt w.params size tk₀ tk₁] 1) :: (bk, W.listOf (bkv ++ [Value.int (b + opn.length) tx]).toArray nk') :: (bd, W.listOf (bdv ++ [Value.int c tc]).toArray nb') :: rest) →
     (∀ p ∈ (row, rowObj (itemsOf tl) n dx) :: (dx, dictOf [dEnt w.params size tk₀ tk₁] 1) :: (bk, W.listOf bkv.toArray nk) :: (bd, W.listOf bdv.toArray nb) :: rest, p.1 ≠ T') → wpAny (model Challenge.rw_pe0060_01.row.prog w) (callerA.deeper (lawEnv L fa cd)) (execs more (lawEnv L fa cd)) Q (fun _ _ => False) { s with heap := h', toks := tk }) :
   wpAny (model Challenge.rw_pe0060_01.row.prog w) (callerA.deeper (lawEnv L fa cd)) (execs (aBody :: aPush :: aText :: aBrackets :: aBounds :: more) (lawEnv L fa cd)) Q (fun _ _ => False) s := by
  revert X
  k_fill
  intro X
  have B := below_caller H
  have ho1 : (Str.ofString "(").length = 1 := by decide
  have hc1 : (Str.ofString ")").length = 1 := by decide
  unfold aBody aPush aText aBrackets aBounds lawEnv lawScope
  simp only [over] at F
  k_steps
  rename News _ _ _ _ => kN
  rw [List.push_toArray, List.push_toArray] at kN
  refine hret _ _ _ _ _ _ _ _ _ (by assumption) kN ?_
  simp only [List.forall_mem_cons]
  exact ⟨by assumption, by assumption, by assumption, by assumption, by assumption⟩
end
end Mine
end
section
open PySem PySem.W PyProof.Rows
namespace Mine
theorem fresh26 : True ∧ True := by
  k_with_none
  first | (walk1; fail) | (w_top off; exact ⟨trivial, trivial⟩)
end Mine
end
section
open PySem PySem.W PyProof.Rows
namespace Mine
set_option maxRecDepth 100000
set_option maxHeartbeats 1000000
noncomputable abbrev cs (s : Str) : List Nat := s.cps.toList
theorem cs_append (a b : Str) : cs (a ++ b) = cs a ++ cs b := by simp [cs, Str.cps_append]
theorem cs_len (a : Str) : (cs a).length = a.length := by simp [cs, Str.length]
theorem cs_inj {a b : Str} (h : cs a = cs b) : a = b := Str.ext' (Array.ext' h)
theorem cs_mk (l : List Nat) : cs (⟨l.toArray⟩ : Str) = l := rfl
theorem cs_empty : cs (Str.ofString "") = [] := by decide
theorem cs_open : cs (Str.ofString "(") = [40] := by decide
theorem cs_close : cs (Str.ofString ")") = [41] := by decide
noncomputable def OpOk (f : Str) : Prop := cs f = [50, 50, 57, 32] ∨ cs f = [50, 50, 57, 32, 97] ∨ cs f = [50, 50, 57, 32, 97, 98]
noncomputable def MkOk (m : Str) : Prop := cs m = [124] ∨ cs m = [33] ∨ cs m = [45] ∨ cs m = [47]
theorem fmod_cases {a : Int} {n : Int} (h : 0 < n) : 0 ≤ a.fmod n ∧ a.fmod n < n := ⟨fmod_lo a h, fmod_hi a h⟩
theorem opnOf_ok (x : Int) : OpOk (opnOf x) := by
  have h := @fmod_cases x 3 (by decide)
  unfold opnOf OpOk
  rw [cs_append]
  have : x.fmod 3 = 0 ∨ x.fmod 3 = 1 ∨ x.fmod 3 = 2 := by omega
  rcases this with e | e | e <;> rw [e]
  · exact .inl (by decide +kernel)
  · exact .inr (.inl (by decide +kernel))
  · exact .inr (.inr (by decide +kernel))
theorem mrkOf_ok (x : Int) : MkOk (mrkOf x) := by
  have h := @fmod_cases (x.fdiv 3) 4 (by decide)
  unfold mrkOf MkOk
  have : (x.fdiv 3).fmod 4 = 0 ∨ (x.fdiv 3).fmod 4 = 1 ∨ (x.fdiv 3).fmod 4 = 2 ∨ (x.fdiv 3).fmod 4 = 3 := by omega
  rcases this with e | e | e | e <;> rw [e]
  · exact .inl (by decide +kernel)
  · exact .inr (.inl (by decide +kernel))
  · exact .inr (.inr (.inl (by decide +kernel)))
  · exact .inr (.inr (.inr (by decide +kernel)))
theorem OpOk.len {f : Str} (h : OpOk f) : 4 ≤ f.length ∧ f.length ≤ 6 := by
  rw [← cs_len]
  rcases h with h | h | h <;> rw [h] <;> decide
theorem MkOk.one {m : Str} (h : MkOk m) : ∃ c, cs m = [c] ∧ (c = 124 ∨ c = 33 ∨ c = 45 ∨ c = 47) := by
  rcases h with h | h | h | h
  · exact ⟨_, h, by simp⟩
  · exact ⟨_, h, by simp⟩
  · exact ⟨_, h, by simp⟩
  · exact ⟨_, h, by simp⟩
theorem MkOk.len {m : Str} (h : MkOk m) : m.length = 1 := by
  obtain ⟨c, hc, _⟩ := h.one
  rw [← cs_len, hc]; rfl
theorem mul3 {m : Str} {c : Nat} (h : cs m = [c]) : cs (Txt.mul m 3) = [c, c, c] := by
  have e : m = ⟨#[c]⟩ := cs_inj (by rw [h])
  subst e
  with_unfolding_all rfl
theorem MkOk.mul {m : Str} (h : MkOk m) : (Txt.mul m 3).length = 3 := by
  obtain ⟨c, hc, _⟩ := h.one
  rw [← cs_len, mul3 hc]; rfl
noncomputable def dg (c : Int) : List Nat := cs (Str.ofString (toString c))
theorem dg_nat (m : Nat) : dg (m : Int) = (Nat.toDigits 10 m).map Char.toNat := KIN.signs_num m
theorem dg_le {c : Int} {k : Nat} (h0 : 0 ≤ c) (hk : 0 < k) : (dg c).length ≤ k ↔ c < (10 : Int) ^ k := by
  obtain ⟨m, rfl⟩ := Int.eq_ofNat_of_zero_le h0
  rw [dg_nat, List.length_map, Nat.length_toDigits_le_iff (by decide) hk]
  have : ((10 : Int) ^ k) = ((10 ^ k : Nat) : Int) := by simp
  rw [this]; omega
theorem dg_pos {c : Int} (h0 : 0 ≤ c) : 0 < (dg c).length := by
  obtain ⟨m, rfl⟩ := Int.eq_ofNat_of_zero_le h0
  rw [dg_nat, List.length_map]
  exact Nat.length_toDigits_pos
theorem dg_digit {c : Int} (h0 : 0 ≤ c) : ∀ d ∈ dg c, 48 ≤ d ∧ d ≤ 57 := by
  obtain ⟨m, rfl⟩ := Int.eq_ofNat_of_zero_le h0
  rw [dg_nat]
  intro d hd
  obtain ⟨ch, hc, rfl⟩ := List.mem_map.mp hd
  have := Nat.isDigit_of_mem_toDigits (by decide) (by decide) hc
  simp only [Char.isDigit, Bool.and_eq_true, decide_eq_true_eq] at this
  obtain ⟨h1, h2⟩ := this
  exact ⟨h1, h2⟩
theorem dec_len5 (port : Int) (h0 : 0 ≤ port) (h1 : port ≤ 10000) : (Str.ofString (toString port)).length ≤ 5 := by
  rw [← cs_len]
  exact (dg_le h0 (by decide)).mpr (by omega)
theorem cs_bdy {m : Str} {c : Nat} (h : cs m = [c]) (p : Int) : cs (bdy m p) = 40 :: c :: c :: c :: (dg p ++ [c, 41]) := by
  unfold bdy
  simp only [cs_append]
  rw [cs_open, cs_close, mul3 h, h]
  simp [dg]
theorem bdy_len {m : Str} (h : MkOk m) (p : Int) : (bdy m p).length = 6 + (dg p).length := by
  obtain ⟨c, hc, _⟩ := h.one
  rw [← cs_len, cs_bdy hc]
  simp; omega
theorem e1_iff {sg : Int} {k : Nat} {x : Int} : x ∈ e1 sg k ↔ x = sg + k ∧ (10 : Int) ^ (k - 1) ≤ sg + k ∧ sg + k < (10 : Int) ^ k := by
  unfold e1
  split
  · rename_i h; simp [h]
  · rename_i h; simp; intro _ a; omega
theorem ends_iff {sg x : Int} : x ∈ lawEnds sg ↔ ∃ k : Nat, 1 ≤ k ∧ k ≤ 5 ∧ x = sg + k ∧ (10 : Int) ^ (k - 1) ≤ sg + k ∧ sg + k < (10 : Int) ^ k := by
  unfold lawEnds endsTo endsTo endsTo endsTo endsTo endsTo
  simp only [List.mem_append, e1_iff, List.not_mem_nil, false_or]
  constructor
  · rintro ((((h | h) | h) | h) | h)
    · exact ⟨1, by decide, by decide, h⟩
    · exact ⟨2, by decide, by decide, h⟩
    · exact ⟨3, by decide, by decide, h⟩
    · exact ⟨4, by decide, by decide, h⟩
    · exact ⟨5, by decide, by decide, h⟩
  · rintro ⟨k, h1, h2, h⟩
    have : k = 1 ∨ k = 2 ∨ k = 3 ∨ k = 4 ∨ k = 5 := by omega
    rcases this with rfl | rfl | rfl | rfl | rfl
    · exact .inl (.inl (.inl (.inl h)))
    · exact .inl (.inl (.inl (.inr h)))
    · exact .inl (.inl (.inr h))
    · exact .inl (.inr h)
    · exact .inr h
theorem dg_eq {c : Int} {k : Nat} (h0 : 0 ≤ c) (hk : 1 ≤ k) : (dg c).length = k ↔ (if k = 1 then True else (10 : Int) ^ (k - 1) ≤ c) ∧ c < (10 : Int) ^ k := by
  have h1 := @dg_le c k h0 (by omega)
  have hp := dg_pos h0
  by_cases e : k = 1
  · subst e
    simp only [if_true, true_and]
    rw [← h1]; omega
  · have h2 := @dg_le c (k - 1) h0 (by omega)
    simp only [if_neg e]
    rw [← h1]
    omega
theorem ends_dg {sg x : Int} (h0 : 1 ≤ sg) (h : x ∈ lawEnds sg) : x = sg + (dg x).length := by
  obtain ⟨k, h1, h2, rfl, h3, h4⟩ := ends_iff.mp h
  have : (dg (sg + k)).length = k := (dg_eq (by omega) h1).mpr ⟨by split <;> first | trivial | exact h3, h4⟩
  rw [this]
theorem ends_bounds {sg x : Int} (h : x ∈ lawEnds sg) : sg + 1 ≤ x ∧ x ≤ sg + 5 := by
  obtain ⟨k, h1, h2, rfl, h3, h4⟩ := ends_iff.mp h
  omega
theorem ends_len (sg : Int) : (lawEnds sg).length ≤ 5 := by
  have h : ∀ k, (e1 sg k).length ≤ 1 := fun k => by unfold e1; split <;> simp
  unfold lawEnds endsTo endsTo endsTo endsTo endsTo endsTo
  simp only [List.length_append, List.length_nil]
  have := h (0 + 1); have := h (1 + 1); have := h (2 + 1); have := h (3 + 1); have := h (4 + 1)
  omega
theorem ends_some (sg : Int) (h0 : 1 ≤ sg) (h1 : sg ≤ 9000) : 0 < (lawEnds sg).length := by
  refine List.length_pos_iff_exists_mem.mpr ?_
  have key : ∃ k : Nat, 1 ≤ k ∧ k ≤ 5 ∧ (10 : Int) ^ (k - 1) ≤ sg + k ∧ sg + k < (10 : Int) ^ k := by
    by_cases a1 : sg + 1 < 10
    · exact ⟨1, by decide, by decide, by simp; omega, by simp; omega⟩
    by_cases a2 : sg + 2 < 100
    · exact ⟨2, by decide, by decide, by simp; omega, by simp; omega⟩
    by_cases a3 : sg + 3 < 1000
    · exact ⟨3, by decide, by decide, by simp; omega, by simp; omega⟩
    by_cases a4 : sg + 4 < 10000
    · exact ⟨4, by decide, by decide, by simp; omega, by simp; omega⟩
    · omega
  obtain ⟨k, a, b, c, d⟩ := key
  exact ⟨sg + k, ends_iff.mpr ⟨k, a, b, rfl, c, d⟩⟩
/-- the ports that the loop finds are those that the law reckons -/
theorem fits_ends {b sg : Int} {opn mrk : Str} (hm : MkOk mrk) (h0 : 1 ≤ sg) (hs : sg = b + opn.length + 6) : fitsTo b opn mrk sg 6 = lawEnds sg := by
  have step0 : fitsTo b opn mrk sg 1 = [] := by
    show [] ++ (if _ then _ else _) = []
    rw [if_neg, List.append_nil]
    rw [bdy_len hm]
    have := dg_pos (c := sg + ((0 : Nat) : Int)) (by simp; omega)
    have e : ((0 : Nat) : Int) = 0 := rfl
    rw [e] at this ⊢
    omega
  have step : ∀ k : Nat, 1 ≤ k → (if b + ((opn.length : Int) + (bdy mrk (sg + (k : Int))).length) = sg + (k : Int) then [sg + (k : Int)] else []) = e1 sg k := by
    intro k hk
    unfold e1
    have hd := @dg_eq (sg + k) k (by omega) hk
    have c1 : b + ((opn.length : Int) + (bdy mrk (sg + (k : Int))).length) = sg + (k : Int) ↔ (dg (sg + (k : Int))).length = k := by
      rw [bdy_len hm]; omega
    by_cases e : (dg (sg + (k : Int))).length = k
    · rw [if_pos (c1.mpr e), if_pos]
      obtain ⟨q1, q2⟩ := hd.mp e
      refine ⟨?_, q2⟩
      by_cases ek : k = 1
      · subst ek; simp; omega
      · rw [if_neg ek] at q1; exact q1
    · rw [if_neg (fun q => e (c1.mp q)), if_neg]
      rintro ⟨q1, q2⟩
      exact e (hd.mpr ⟨by split <;> first | trivial | exact q1, q2⟩)
  have chain : ∀ k, fitsTo b opn mrk sg (k + 1) = endsTo sg k := by
    intro k
    induction k with
    | zero => exact step0
    | succ k ih =>
      show fitsTo b opn mrk sg (k + 1) ++ _ = endsTo sg k ++ e1 sg (k + 1)
      rw [ih, step (k + 1) (by omega)]
  exact chain 5
end Mine
end
section
open PySem PySem.W PyProof.Rows
namespace Mine
theorem fresh27 : True ∧ True := by
  k_with_none
  first | (walk1; fail) | (w_top off; exact ⟨trivial, trivial⟩)
end Mine
end
section
open PySem PySem.W PyProof.Rows
namespace Mine
set_option maxRecDepth 100000
set_option maxHeartbeats 1000000
noncomputable def Shaped (o : Int) : List TE → Prop
  | [] => True
  | e :: r => OpOk e.f ∧ (∃ m, MkOk m ∧ e.b = bdy m (o + e.f.length + e.b.length)) ∧ e.b.length ≤ 11 ∧ Shaped (o + e.f.length + e.b.length) r
noncomputable def rows (o : Int) : List TE → List (Int × Int)
  | [] => []
  | e :: r => (o + e.f.length, o + e.f.length + e.b.length) :: rows (o + e.f.length + e.b.length) r
noncomputable def bInit (o : Int) : List TE → List Int
  | [] => []
  | e :: r => o :: bInit (o + e.f.length + e.b.length) r
theorem shaped_snoc : ∀ {tl : List TE} {o : Int} {e : TE}, Shaped o tl → OpOk e.f → (∃ m, MkOk m ∧ e.b = bdy m (o + total tl + e.f.length + e.b.length)) → e.b.length ≤ 11 → Shaped o (tl ++ [e])
  | [], o, e, _, h1, h2, h3 => ⟨h1, by simpa [total] using h2, h3, trivial⟩
  | x :: r, o, e, ⟨a1, a2, a3, a4⟩, h1, h2, h3 => ⟨a1, a2, a3, shaped_snoc a4 h1 (by
      obtain ⟨m, hm, hb⟩ := h2
      refine ⟨m, hm, ?_⟩
      rw [show o + x.f.length + x.b.length + total r + e.f.length + e.b.length = o + total (x :: r) + e.f.length + e.b.length by simp only [total]; omega]
      exact hb) h3⟩
theorem rows_snoc : ∀ (tl : List TE) (o : Int) (e : TE), rows o (tl ++ [e]) = rows o tl ++ [(o + total tl + e.f.length, o + total tl + e.f.length + e.b.length)]
  | [], o, e => by simp [rows, total]
  | x :: r, o, e => by
    show (_, _) :: rows _ (r ++ [e]) = (_, _) :: _
    rw [rows_snoc r]
    simp only [total]
    rw [show o + x.f.length + x.b.length + total r = o + (x.f.length + x.b.length + total r) by omega]
    rfl
theorem bnds_eq : ∀ (tl : List TE) (o : Int), o :: (rows o tl).map (·.2) = bInit o tl ++ [o + total tl]
  | [], o => by simp [rows, bInit, total]
  | e :: r, o => by
    have := bnds_eq r (o + e.f.length + e.b.length)
    show o :: (o + e.f.length + e.b.length) :: (rows _ r).map (·.2) = o :: (bInit _ r ++ _)
    rw [this]
    simp only [total]
    rw [show o + e.f.length + e.b.length + total r = o + (e.f.length + e.b.length + total r) by omega]
theorem bInit_snoc : ∀ (tl : List TE) (o : Int) (e : TE), bInit o (tl ++ [e]) = bInit o tl ++ [o + total tl]
  | [], o, e => by simp [bInit, total]
  | x :: r, o, e => by
    show o :: bInit _ (r ++ [e]) = o :: (bInit _ r ++ _)
    rw [bInit_snoc r]
    simp only [total]
    rw [show o + x.f.length + x.b.length + total r = o + (x.f.length + x.b.length + total r) by omega]
theorem bInit_len : ∀ (tl : List TE) (o : Int), (bInit o tl).length = tl.length
  | [], _ => rfl
  | _ :: r, _ => by simp [bInit, bInit_len r]
theorem rows_len : ∀ (tl : List TE) (o : Int), (rows o tl).length = tl.length
  | [], _ => rfl
  | _ :: r, _ => by simp [rows, rows_len r]
theorem shaped_lens : ∀ {tl : List TE} {o : Int}, Shaped o tl → ∀ e ∈ tl, e.f.length ≤ 6 ∧ e.b.length ≤ 11 ∧ 4 ≤ e.f.length
  | [], _, _, _, h => by cases h
  | x :: r, _, ⟨a1, _, a3, a4⟩, e, h => by
    rcases List.mem_cons.mp h with rfl | h
    · exact ⟨a1.len.2, a3, a1.len.1⟩
    · exact shaped_lens a4 e h
theorem total_bounds : ∀ {tl : List TE} {o : Int}, Shaped o tl → 0 ≤ total tl ∧ total tl ≤ 17 * tl.length
  | [], _, _ => by simp [total]
  | x :: r, o, h => by
    have h1 := shaped_lens h x (.head _)
    have h2 := total_bounds h.2.2.2
    simp only [total, List.length_cons]
    omega
noncomputable def textL (tl : List TE) : List Nat := tl.flatMap fun e => cs e.f ++ cs e.b
noncomputable def textOf (tl : List TE) : Str := ⟨(textL tl).toArray⟩
theorem cs_textOf (tl : List TE) : cs (textOf tl) = textL tl := rfl
theorem textL_snoc (tl : List TE) (e : TE) : textL (tl ++ [e]) = textL tl ++ (cs e.f ++ cs e.b) := by simp [textL]
theorem textOf_snoc (tl : List TE) (e : TE) : textOf (tl ++ [e]) = textOf tl ++ e.f ++ e.b := cs_inj (by
  rw [cs_append, cs_append, cs_textOf, cs_textOf, textL_snoc, List.append_assoc])
theorem textOf_nil : textOf [] = Str.ofString "" := cs_inj (by rw [cs_empty]; rfl)
theorem textL_len : ∀ (tl : List TE), ((textL tl).length : Int) = total tl
  | [] => rfl
  | e :: r => by
    have := textL_len r
    simp only [textL, List.flatMap_cons, List.length_append, cs_len, total] at this ⊢
    omega
theorem textOf_len (tl : List TE) : ((textOf tl).length : Int) = total tl := by rw [← textL_len, ← cs_textOf, cs_len]
theorem joinE (ts : List Str) : cs (Txt.join (Str.ofString "") ts) = ts.flatMap cs := by
  unfold Txt.join
  rw [StrLaws.glued_eq_join]
  induction ts with
  | nil => decide
  | cons x r ih =>
    cases r with
    | nil => simp [Str.join]
    | cons y r =>
      show cs (x ++ Str.ofString "" ++ Str.join (Str.ofString "") (y :: r)) = _
      rw [cs_append, cs_append, cs_empty, ih]
      simp
theorem join_text (tl : List TE) : Txt.join (Str.ofString "") (tl.map fun e => Txt.join (Str.ofString "") [e.f, e.b]) = textOf tl := cs_inj (by
  rw [joinE, cs_textOf, textL, List.flatMap_map]
  congr 1
  funext e
  rw [joinE]
  simp)
end Mine
end
section
open PySem PySem.W PyProof.Rows
namespace Mine
theorem fresh28 : True ∧ True := by
  k_with_none
  first | (walk1; fail) | (w_top off; exact ⟨trivial, trivial⟩)
end Mine
end
section
open PySem PySem.W PyProof.Rows
namespace Mine
set_option maxRecDepth 100000
set_option maxHeartbeats 8000000
noncomputable abbrev brsOf (o : Int) (tl : List TE) : List Int := (rows o tl).map (·.1)
noncomputable abbrev bndsOf (o : Int) (tl : List TE) : List Int := o :: (rows o tl).map (·.2)
noncomputable abbrev nmA (row bk bd : Addr) (tl : List TE) (tt : Tok) : List (Str × Value) := [(Str.ofString "row", .ref row), (Str.ofString "brackets", .ref bk), (Str.ofString "bounds", .ref bd), (Str.ofString "text", .str (textOf tl) tt)]
theorem names_of {m : Str → Option Value} {l : List (Str × Value)} (h : ∀ p ∈ l, m p.1 = some p.2) {p : Str × Value} (hp : p ∈ l) : m p.1 = some p.2 := h p hp
section
variable {w : World} {p : Program} {loose : List Str} {mean : ExcName → Option Value} {mg mb : Str → Option Value} {H : Heap} {L fa : Addr} {cd : Value} {m : Str → Option Value} {s : Shared} {Q : Flow → Shared → Prop} {R : List (Addr × Obj)}
   {row dx bk bd : Addr} {tl : List TE} {n nk nb : Nat} {size xv : Int} {tk₀ tk₁ tx tt : Tok} {bkv bdv : List Value} {ps : Array Value}
noncomputable abbrev ledA (w : World) (row dx bk bd : Addr) (tl : List TE) (n : Nat) (size : Int) (tk₀ tk₁ : Tok) (ps : Array Value) (bkv : List Value) (nk : Nat) (bdv : List Value) (nb : Nat) (R : List (Addr × Obj)) : List (Addr × Obj) :=
  (row, rowObj (itemsOf tl) n dx) :: (dx, dictOf [dEnt w.params size tk₀ tk₁] 1) :: (107, tabObj ps) :: (bk, W.listOf bkv.toArray nk) :: (bd, W.listOf bdv.toArray nb) :: (tl.map TE.ent ++ R)
noncomputable def Apart4 (row bk bd x : Addr) : Prop := x ≠ row ∧ x ≠ 107 ∧ x ≠ bk ∧ x ≠ bd
theorem turnA_c (F : Fr H L s.heap m) (hx : m (Str.ofString "x") = some (.int xv tx)) (hnm : ∀ p ∈ nmA row bk bd tl tt, m p.1 = some p.2) (X : (hd.heap_39 w.params).In H) (T : Top p loose mean mg mb H)
   (N : News H L s.heap (ledA w row dx bk bd tl n size tk₀ tk₁ ps bkv nk bdv nb R)) (hps : TabOk 48 19 ps) (hg : AllBare s.gens) (htl : tl.length ≤ 6)
   (hbk : IntsAre bkv (brsOf size tl)) (hbd : IntsAre bdv (bndsOf size tl)) (hsh : Shaped size tl) (hs0 : 21 ≤ size) (hs1 : size ≤ 2250) (hx0 : 0 ≤ xv) (hx1 : xv < 1000000)
   (n1 : row ≠ dx) (n2 : row ≠ 107) (n3 : row ≠ bk) (n4 : row ≠ bd) (n5 : dx ≠ 107) (n6 : dx ≠ bk) (n7 : dx ≠ bd) (n8 : bk ≠ 107) (n9 : bd ≠ 107) (n10 : bk ≠ bd) (hR : ∀ q ∈ R, Apart4 row bk bd q.1) (hT : ∀ e ∈ tl, Apart4 row bk bd e.T)
   (hret : ∀ s' m' n' ps' bkv' nk' bdv' nb' e tt', IntsAre bkv' (brsOf size (tl ++ [e])) → IntsAre bdv' (bndsOf size (tl ++ [e])) → Shaped size (tl ++ [e]) → Apart4 row bk bd e.T → (∀ q ∈ R, q.1 ≠ e.T) → TabOk 48 19 ps' → (∀ p ∈ nmA row bk bd (tl ++ [e]) tt', m' p.1 = some p.2) →
     Fr H L s'.heap m' → News H L s'.heap (ledA w row dx bk bd (tl ++ [e]) n' size tk₀ tk₁ ps' bkv' nk' bdv' nb' R) → AllBare s'.gens → s'.os = s.os → Q .next s') :
   wpAny (model Challenge.rw_pe0060_01.row.prog w) (callerA.deeper (lawEnv L fa cd)) (execs bodyA (lawEnv L fa cd)) Q (fun _ _ => False) s := by
  have tb := total_bounds hsh
  have hlens := shaped_lens hsh
  have hrow : m (Str.ofString "row") = some (.ref row) := hnm _ (.head _)
  have hbrk : m (Str.ofString "brackets") = some (.ref bk) := hnm _ (.tail _ (.head _))
  have hbnd : m (Str.ofString "bounds") = some (.ref bd) := hnm _ (.tail _ (.tail _ (.head _)))
  have htxt : m (Str.ofString "text") = some (.str (textOf tl) tt) := hnm _ (.tail _ (.tail _ (.tail _ (.head _))))
  have hbd' : IntsAre bdv (bInit size tl ++ [size + total tl]) := by rw [← bnds_eq]; exact hbd
  have hapR : ∀ q ∈ tl.map TE.ent ++ R, Apart4 row bk bd q.1 := fun q hq => by
    rcases List.mem_append.mp hq with hq | hq
    · obtain ⟨e, he, rfl⟩ := List.mem_map.mp hq
      exact hT e he
    · exact hR q hq
  have oo := opnOf_ok xv
  have mo := mrkOf_ok xv
  have ol := oo.len
  rw [bodyA_eq]
  refine tA1 (bd := bd) (bdv := bdv) (nb := nb) (rest := (row, rowObj (itemsOf tl) n dx) :: (dx, dictOf [dEnt w.params size tk₀ tk₁] 1) :: (107, tabObj ps) :: (bk, W.listOf bkv.toArray nk) :: (tl.map TE.ent ++ R)) (m₀ := m) (t5 := tx) ?F1 X ?N1 T hbd' (by rw [bInit_len]; omega) (by omega) (by omega) hx0 hx1 ?h1
  case F1 =>
    rw [over_eq]
    · exact F
    · intro q hq
      simp only [List.mem_cons, List.not_mem_nil, or_false] at hq
      rcases hq with rfl | rfl
      · exact hx
      · exact hbnd
  case N1 =>
    intro q hq
    refine N q ?_
    simp only [List.mem_cons] at hq ⊢
    rcases hq with h | h | h | h | h | h
    · exact .inr (.inr (.inr (.inr (.inl h))))
    · exact .inl h
    · exact .inr (.inl h)
    · exact .inr (.inr (.inl h))
    · exact .inr (.inr (.inr (.inl h)))
    · exact .inr (.inr (.inr (.inr (.inr h))))
  case h1 =>
    intro h₁ tk₁' ft t1 t2 t3 sg hsg F₁ N₁ fr₁
    simp only [List.forall_mem_cons] at fr₁
    obtain ⟨f1, f2, f3, f4, f5, f6⟩ := fr₁
    refine wpAny_execs_cons ?_
    refine forB_c (s := { s with heap := h₁, toks := tk₁' }) (ft := ft) (opn := opnOf xv) (mrk := mrkOf xv) (t1 := t1) (t2 := t2) (t4 := t3) (sg := sg) (b := size + total tl) (tl := tl) (n := n) (ps := ps) (row := row) (dx := dx) (size := size) (tk₀ := tk₀) (tk₁ := tk₁)
      (nx := [(Str.ofString "x", .int xv tx), (Str.ofString "brackets", .ref bk), (Str.ofString "bounds", .ref bd), (Str.ofString "text", .str (textOf tl) tt)]) (rest := (bk, W.listOf bkv.toArray nk) :: (bd, W.listOf bdv.toArray nb) :: (tl.map TE.ent ++ R))
      F₁ ?nm ?nx X ?N2 T hps hg (by omega) ?tup ?lens (by omega) (by omega) (by omega) (by omega) (by omega) mo.len mo.mul dec_len5 n1 n2 f2 n5 f3 (Ne.symm f4) ?r1 ?r2 ?r3 rfl ?h2
    case nm =>
      intro q hq
      simp only [List.mem_cons, List.not_mem_nil, or_false] at hq
      rcases hq with rfl | rfl | rfl | rfl | rfl
      · exact hrow
      · rfl
      · rfl
      · rfl
      · rfl
    case nx =>
      intro q hq
      simp only [List.mem_cons, List.not_mem_nil, or_false] at hq
      rcases hq with rfl | rfl | rfl | rfl
      · exact ⟨by dsimp only; decide, rfl⟩
      · exact ⟨by dsimp only; decide, hbrk⟩
      · exact ⟨by dsimp only; decide, rfl⟩
      · exact ⟨by dsimp only; decide, htxt⟩
    case N2 =>
      intro q hq
      refine N₁ q ?_
      simp only [List.mem_cons] at hq ⊢
      rcases hq with h | h | h | h | h | h | h
      · exact .inr (.inr (.inl h))
      · exact .inr (.inr (.inr (.inl h)))
      · exact .inr (.inr (.inr (.inr (.inl h))))
      · exact .inl h
      · exact .inr (.inr (.inr (.inr (.inr (.inl h)))))
      · exact .inr (.inl h)
      · exact .inr (.inr (.inr (.inr (.inr (.inr h)))))
    case tup => exact fun e he => .tail _ (.tail _ (List.mem_append_left _ (List.mem_map_of_mem he)))
    case lens => exact fun e he => by have := hlens e he; omega
    case r1 =>
      simp only [List.forall_mem_cons]
      exact ⟨Ne.symm n3, Ne.symm n4, fun q hq => (hapR q hq).1⟩
    case r2 =>
      simp only [List.forall_mem_cons]
      exact ⟨n8, n9, fun q hq => (hapR q hq).2.1⟩
    case r3 =>
      simp only [List.forall_mem_cons]
      exact ⟨f5, f1, f6⟩
    case h2 =>
      intro s₂ m₂ n₂ ps₂ fv₂ nf₂ hI₂ hp₂ hnm₂ F₂ N₂ G₂ o₂
      dsimp only
      rw [fits_ends mo (by omega) (by omega)] at hI₂
      have q2 : ∀ {x : Str} {v : Value}, (x, v) ∈ nmB row ft (opnOf xv) (mrkOf xv) t1 t2 t3 sg ++ [(Str.ofString "x", .int xv tx), (Str.ofString "brackets", .ref bk), (Str.ofString "bounds", .ref bd), (Str.ofString "text", .str (textOf tl) tt)] → m₂ x = some v := fun h => hnm₂ _ h
      refine tA3 (s := s₂) (ft := ft) (fv := fv₂) (nf := nf₂) (sg := sg) (xv := xv) (t5 := tx) (t4 := t3) (m₀ := m₂) (rest := (row, rowObj (itemsOf tl) n₂ dx) :: (dx, dictOf [dEnt w.params size tk₀ tk₁] 1) :: (107, tabObj ps₂) :: (bk, W.listOf bkv.toArray nk) :: (bd, W.listOf bdv.toArray nb) :: (tl.map TE.ent ++ R))
        ?F3 X ?N3 T hI₂ (ends_some sg (by omega) (by omega)) (ends_len sg) (by omega) (by omega) hx0 hx1 ?h3
      case F3 =>
        rw [over_eq]
        · exact F₂
        · intro q hq
          simp only [List.mem_cons, List.not_mem_nil, or_false] at hq
          rcases hq with rfl | rfl | rfl <;> exact q2 (by simp)
      case N3 =>
        intro q hq
        refine N₂ q ?_
        simp only [List.mem_cons] at hq ⊢
        rcases hq with h | h | h | h | h | h | h
        · exact .inr (.inr (.inr (.inl h)))
        · exact .inl h
        · exact .inr (.inl h)
        · exact .inr (.inr (.inl h))
        · exact .inr (.inr (.inr (.inr (.inl h))))
        · exact .inr (.inr (.inr (.inr (.inr (.inl h)))))
        · exact .inr (.inr (.inr (.inr (.inr (.inr h)))))
      case h3 =>
        intro h₃ tk₃ c tc hc F₃ N₃
        have hcb := ends_bounds hc
        have hcd := ends_dg (by omega) hc
        have hbl := bdy_len mo c
        have hdl : (dg c).length ≤ 5 := (dg_le (by omega) (by decide)).mpr (by omega)
        refine tA4 (s := { s₂ with heap := h₃, toks := tk₃ }) (c := c) (tc := tc) (row := row) (opn := opnOf xv) (mrk := mrkOf xv) (t1 := t1) (t2 := t2) (bk := bk) (bd := bd) (text := textOf tl) (tt := tt) (tl := tl) (n := n₂) (dx := dx) (size := size) (tk₀ := tk₀) (tk₁ := tk₁) (bkv := bkv) (nk := nk) (bdv := bdv) (nb := nb)
          (brs := brsOf size tl) (bs := bInit size tl) (b := size + total tl) (m₀ := over [(Str.ofString "chosen", .int c tc), (Str.ofString "x", .int xv tx), (Str.ofString "fits", .ref ft), (Str.ofString "signs", .int sg t3)] m₂) (rest := (107, tabObj ps₂) :: (tl.map TE.ent ++ R))
          ?F4 X ?N4 T hbk (by simp only [List.length_map, rows_len]; omega) hbd' (by rw [bInit_len]; omega) (by omega) (by omega) (by omega) (by omega) (by omega) (by omega) mo.len mo.mul (dec_len5 c (by omega) (by omega)) ?tlen n1 n3 n4 n6 n7 n10 ?r4 ?r5 ?r6 ?h4
        case F4 =>
          rw [over_eq]
          · exact F₃
          · intro q hq
            simp only [List.mem_cons, List.not_mem_nil, or_false] at hq
            rcases hq with rfl | rfl | rfl | rfl | rfl | rfl | rfl
            · rfl
            · exact q2 (x := Str.ofString "row") (by simp)
            · exact q2 (x := Str.ofString "opening") (by simp)
            · exact q2 (x := Str.ofString "mark") (by simp)
            · exact q2 (x := Str.ofString "brackets") (by simp)
            · exact q2 (x := Str.ofString "bounds") (by simp)
            · exact q2 (x := Str.ofString "text") (by simp)
        case N4 =>
          intro q hq
          refine N₃ q ?_
          simp only [List.mem_cons] at hq ⊢
          rcases hq with h | h | h | h | h | h
          · exact .inl h
          · exact .inr (.inl h)
          · exact .inr (.inr (.inr (.inl h)))
          · exact .inr (.inr (.inr (.inr (.inl h))))
          · exact .inr (.inr (.inl h))
          · exact .inr (.inr (.inr (.inr (.inr h))))
        case tlen => have := textOf_len tl; omega
        case r4 =>
          simp only [List.forall_mem_cons]
          exact ⟨Ne.symm n2, fun q hq => (hapR q hq).1⟩
        case r5 =>
          simp only [List.forall_mem_cons]
          exact ⟨Ne.symm n8, fun q hq => (hapR q hq).2.2.1⟩
        case r6 =>
          simp only [List.forall_mem_cons]
          exact ⟨Ne.symm n9, fun q hq => (hapR q hq).2.2.2⟩
        case h4 =>
          intro h₄ tk₄ T' tb tt' tx' nk' nb' n' F₄ N₄ fr₄
          simp only [List.forall_mem_cons] at fr₄
          obtain ⟨g1, g2, g3, g4, g5, g6⟩ := fr₄
          refine wpAny_execs_nil ?_
          refine hret _ _ n' ps₂ (bkv ++ [Value.int (size + total tl + (opnOf xv).length) tx']) nk' (bdv ++ [Value.int c tc]) nb' ⟨T', opnOf xv, t1, bdy (mrkOf xv) c, tb⟩ tt' ?i1 ?i2 ?i3 ⟨Ne.symm g1, Ne.symm g5, Ne.symm g3, Ne.symm g4⟩ (fun q hq => g6 q (List.mem_append_right _ hq)) hp₂ ?i4 F₄ ?i5 G₂ o₂
          case i1 =>
            unfold brsOf
            rw [rows_snoc, List.map_append]
            exact IntsAre.append hbk (IntsAre.cons _ _ IntsAre.nil)
          case i2 =>
            have e : bndsOf size (tl ++ [⟨T', opnOf xv, t1, bdy (mrkOf xv) c, tb⟩]) = bndsOf size tl ++ [c] := by
              unfold bndsOf
              rw [rows_snoc, List.map_append]
              dsimp only [List.map_cons, List.map_nil]
              rw [show size + total tl + ((opnOf xv).length : Int) + ((bdy (mrkOf xv) c).length : Int) = c by omega]
              rfl
            rw [e]
            exact IntsAre.append hbd (IntsAre.cons _ _ IntsAre.nil)
          case i3 =>
            refine shaped_snoc hsh oo ⟨mrkOf xv, mo, ?_⟩ (by dsimp only; omega)
            dsimp only
            rw [show size + total tl + ((opnOf xv).length : Int) + ((bdy (mrkOf xv) c).length : Int) = c by omega]
          case i4 =>
            intro q hq
            simp only [List.mem_cons, List.not_mem_nil, or_false] at hq
            rcases hq with rfl | rfl | rfl | rfl
            · rfl
            · rfl
            · rfl
            · rw [textOf_snoc]; rfl
          case i5 =>
            intro q hq
            refine N₄ q ?_
            simp only [ledA, List.map_append, List.map_cons, List.map_nil, List.mem_cons, List.mem_append, List.not_mem_nil, or_false] at hq ⊢
            rcases hq with h | h | h | h | h | (h | h) | h
            · exact .inr (.inl h)
            · exact .inr (.inr (.inl h))
            · exact .inr (.inr (.inr (.inr (.inr (.inl h)))))
            · exact .inr (.inr (.inr (.inl h)))
            · exact .inr (.inr (.inr (.inr (.inl h))))
            · exact .inr (.inr (.inr (.inr (.inr (.inr (.inl h))))))
            · exact .inl h
            · exact .inr (.inr (.inr (.inr (.inr (.inr (.inr h))))))
end
end Mine
end
section
open PySem PySem.W PyProof.Rows
namespace Mine
theorem fresh29 : True ∧ True := by
  k_with_none
  first | (walk1; fail) | (w_top off; exact ⟨trivial, trivial⟩)
end Mine
end
section
open PySem PySem.W PyProof.Rows
namespace Mine
set_option maxRecDepth 100000
set_option maxHeartbeats 8000000
section
variable {w : World} {p : Program} {loose : List Str} {mean : ExcName → Option Value} {mg mb : Str → Option Value} {H : Heap} {L fa : Addr} {cd : Value} {m m₀ : Str → Option Value} {s : Shared} {Q : Flow → Shared → Prop} {R rest : List (Addr × Obj)}
   {row dx bk bd nu : Addr} {n nk nb : Nat} {size : Int} {tk₀ tk₁ tt : Tok} {bkv bdv nvs : List Value} {nms : List Int} {ps : Array Value}
theorem words17 : True := by
  k_with_none
  k_with "k_ne" => (refine neN ?_; (try dsimp only); first | with_reducible assumption | (refine Ne.symm ?_; with_reducible assumption))
  k_with "k_all" => with_reducible assumption
  trivial
theorem iterA_c {Q : Value → Shared → Prop} (F : Fr H L s.heap (over [(Str.ofString "numbers", .ref nu)] m₀)) (X : (hd.heap_39 w.params).In H) (N : News H L s.heap ((nu, LCg.lst nvs) :: rest)) (T : Top p loose mean mg mb H) (hI : IntsAre nvs nms) (hl : nms.length ≤ 4)
   (hret : ∀ h' tk D ws, IntsAre ws ([0, 4, 20] ++ nms) → Fr H L h' (over [(Str.ofString "numbers", .ref nu)] m₀) → News H L h' ((D, W.listOf ws.toArray 0) :: rest) → (∀ p ∈ rest, p.1 ≠ D) → Q (.ref D) { s with heap := h', toks := tk }) :
   wpAny (model Challenge.rw_pe0060_01.row.prog w) (callerA.deeper (lawEnv L fa cd)) (eval iterA (lawEnv L fa cd)) Q (fun _ _ => False) s := by
  revert X
  k_fill
  intro X
  have B := below_caller H
  unfold iterA lawEnv lawScope
  simp only [over] at F
  k_steps
  rename Fr _ _ _ _ => kF
  rename News _ _ _ _ => kN
  rename_i l1
  exact hret _ _ _ _ (by assumption) kF (fun q hq => by
    rcases List.mem_cons.mp hq with rfl | hq
    · exact kN _ (.head _)
    · exact kN _ (.tail _ (.tail _ (.tail _ hq)))) (fun q hq => allLt_ne l1.2.2 q hq)
theorem forA_c (F : Fr H L s.heap m) (hnu : m (Str.ofString "numbers") = some (.ref nu)) (hnm : ∀ p ∈ nmA row bk bd [] tt, m p.1 = some p.2) (X : (hd.heap_39 w.params).In H) (T : Top p loose mean mg mb H)
   (N : News H L s.heap ((nu, LCg.lst nvs) :: ledA w row dx bk bd [] n size tk₀ tk₁ ps bkv nk bdv nb R)) (hI : IntsAre nvs nms) (hl : nms.length ≤ 4) (hx : ∀ x ∈ nms, 0 ≤ x ∧ x < 1000000) (hps : TabOk 48 19 ps) (hg : AllBare s.gens)
   (hbk : IntsAre bkv []) (hbd : IntsAre bdv [size]) (hs0 : 21 ≤ size) (hs1 : size ≤ 2250)
   (n1 : row ≠ dx) (n2 : row ≠ 107) (n3 : row ≠ bk) (n4 : row ≠ bd) (n5 : dx ≠ 107) (n6 : dx ≠ bk) (n7 : dx ≠ bd) (n8 : bk ≠ 107) (n9 : bd ≠ 107) (n10 : bk ≠ bd) (hR : ∀ q ∈ R, Apart4 row bk bd q.1)
   (hret : ∀ s' m' tl n' ps' bkv' nk' bdv' nb' tt', tl.length ≤ 7 → IntsAre bkv' (brsOf size tl) → IntsAre bdv' (bndsOf size tl) → Shaped size tl → (∀ e ∈ tl, Apart4 row bk bd e.T ∧ ∀ q ∈ R, q.1 ≠ e.T) → TabOk 48 19 ps' → (∀ p ∈ nmA row bk bd tl tt', m' p.1 = some p.2) →
     Fr H L s'.heap m' → News H L s'.heap (ledA w row dx bk bd tl n' size tk₀ tk₁ ps' bkv' nk' bdv' nb' R) → AllBare s'.gens → s'.os = s.os → Q .next s') :
   wpAny (model Challenge.rw_pe0060_01.row.prog w) (callerA.deeper (lawEnv L fa cd)) (exec forA (lawEnv L fa cd)) Q (fun _ _ => False) s := by
  unfold forA
  refine for_ints (h₀ := H) (os₀ := s.os) (Q := Q) (by rfl) (fun I v => by rfl)
    (fun i m led => ∃ tl n ps bkv nk bdv nb tt, led = ledA w row dx bk bd tl n size tk₀ tk₁ ps bkv nk bdv nb R ∧ tl.length = i ∧ TabOk 48 19 ps ∧ IntsAre bkv (brsOf size tl) ∧ IntsAre bdv (bndsOf size tl) ∧ Shaped size tl ∧ (∀ e ∈ tl, Apart4 row bk bd e.T ∧ ∀ q ∈ R, q.1 ≠ e.T) ∧ (∀ p ∈ nmA row bk bd tl tt, m p.1 = some p.2))
    ([0, 4, 20] ++ nms) ?it ?step ?done
  case it =>
    have hov : over [(Str.ofString "numbers", Value.ref nu)] m = m := over_eq (by
      intro q hq
      simp only [List.mem_cons, List.not_mem_nil, or_false] at hq
      rcases hq with rfl
      exact hnu)
    refine iterA_c (m₀ := m) (by rw [hov]; exact F) X N T hI hl fun h' tk D ws hI' F' N' fr => ?_
    rw [hov] at F'
    exact ⟨D, 0, ws, m, _, rfl, hI', F', N', fr, hg, rfl, [], n, ps, bkv, nk, bdv, nb, tt, rfl, rfl, hps, hbk, hbd, trivial, (fun e he => by cases he), hnm⟩
  case done =>
    rintro s' m' led ⟨tl, n, ps, bkv, nk, bdv, nb, tt, rfl, hlen, hp, hk, hb, hs, ha, hn⟩ F' N' G' o'
    exact hret s' m' tl n ps bkv nk bdv nb tt (by rw [hlen]; simp; omega) hk hb hs ha hp hn F' N' G' o'
  case step =>
    rintro i m₁ led s₁ own I l x t hxi ⟨tl, n, ps, bkv, nk, bdv, nb, tt, rfl, hlen, hp, hk, hb, hs, ha, hn⟩ off hown hcov F₁ N₁ G₁ o₁
    have hil : i < ([0, 4, 20] ++ nms).length := (List.getElem?_eq_some_iff.mp hxi).1
    have hxb : 0 ≤ x ∧ x < 1000000 := by
      have hm := List.mem_of_getElem? hxi
      rcases List.mem_append.mp hm with h | h
      · simp at h; omega
      · exact hx x h
    refine wpAny_assign_Name ?_
    refine storeX_L F₁ N₁ (fun h' F₂ N₂ => ?_) (by rfl) (by rfl)
    have eled : ∀ (tl : List TE) n ps bkv nk bdv nb, ledA w row dx bk bd tl n size tk₀ tk₁ ps bkv nk bdv nb R ++ own = ledA w row dx bk bd tl n size tk₀ tk₁ ps bkv nk bdv nb (R ++ own) := fun tl n ps bkv nk bdv nb => by simp [ledA]
    rw [eled] at N₂
    have oR : row ∉ [I, l] := off _ (.head _)
    have oD : dx ∉ [I, l] := off _ (.tail _ (.head _))
    have o7 : 107 ∉ [I, l] := off _ (.tail _ (.tail _ (.head _)))
    have oK : bk ∉ [I, l] := off _ (.tail _ (.tail _ (.tail _ (.head _))))
    have oB : bd ∉ [I, l] := off _ (.tail _ (.tail _ (.tail _ (.tail _ (.head _)))))
    have hown' : ∀ q ∈ own, ∀ y, y ∉ [I, l] → q.1 ≠ y := fun q hq y hy e => hy (e ▸ hown q hq)
    have hR' : ∀ q ∈ R ++ own, Apart4 row bk bd q.1 := fun q hq => (List.mem_append.mp hq).elim (hR q) fun hq => ⟨hown' q hq _ oR, hown' q hq _ o7, hown' q hq _ oK, hown' q hq _ oB⟩
    refine turnA_c (s := { s₁ with heap := h', toks := s₁.toks + 1 }) (tl := tl) (R := R ++ own) F₂ (xv := x) (tx := t) (by rfl) (tt := tt) (fun q hq => ?_) X T N₂ hp G₁ (by simp at hil; omega) hk hb hs hs0 hs1 hxb.1 hxb.2 n1 n2 n3 n4 n5 n6 n7 n8 n9 n10 hR' (fun e he => (ha e he).1) ?_
    · have := hn q hq
      simp only [List.mem_cons, List.not_mem_nil, or_false] at hq
      rcases hq with rfl | rfl | rfl | rfl <;> exact this
    · intro s' m' n' ps' bkv' nk' bdv' nb' e tt' hk' hb' hs' hT' hRT hp' hn' F' N' G' o'
      rw [← eled] at N'
      refine ⟨m', ledA w row dx bk bd (tl ++ [e]) n' size tk₀ tk₁ ps' bkv' nk' bdv' nb' R, ⟨tl ++ [e], n', ps', bkv', nk', bdv', nb', tt', rfl, by simp [hlen], hp', hk', hb', hs', ?_, hn'⟩, F', N', ?_, G', o'.trans o₁⟩
      · intro e' he'
        rcases List.mem_append.mp he' with he' | he'
        · exact ha e' he'
        · rw [List.mem_singleton.mp he']
          exact ⟨hT', fun q hq => hRT q (List.mem_append_left _ hq)⟩
      · intro q hq
        simp only [ledA, List.map_append, List.map_cons, List.map_nil, List.mem_cons, List.mem_append, List.not_mem_nil, or_false] at hq
        have off' : ∀ q ∈ tl.map TE.ent ++ R, q.1 ∉ [I, l] := fun q hq => off q (.tail _ (.tail _ (.tail _ (.tail _ (.tail _ hq)))))
        rcases hq with h | h | h | h | h | (h | h) | h
        · rw [h]; exact oR
        · rw [h]; exact oD
        · rw [h]; exact o7
        · rw [h]; exact oK
        · rw [h]; exact oB
        · exact off' q (List.mem_append_left _ h)
        · rw [h]
          intro hm
          obtain ⟨o, ho⟩ := hcov _ hm
          exact hRT (e.T, o) (List.mem_append_right _ ho) rfl
        · exact off' q (List.mem_append_right _ h)
end
end Mine
end
section
open PySem PySem.W PyProof.Rows
namespace Mine
theorem fresh30 : True ∧ True := by
  k_with_none
  first | (walk1; fail) | (w_top off; exact ⟨trivial, trivial⟩)
end Mine
end
section
open PySem PySem.W PyProof.Rows
namespace Mine
set_option maxRecDepth 100000
set_option maxHeartbeats 8000000
section
variable {w : World} {p : Program} {loose : List Str} {mean : ExcName → Option Value} {mg mb : Str → Option Value} {H : Heap} {L fa : Addr} {cd : Value} {m₀ : Str → Option Value} {s : Shared} {Q : Flow → Shared → Prop} {ok osz : Obj} {sl : Addr} {vs : List Value} {ns : List Int} {more : List Stmt}
theorem words18 : True := by
  k_with_none
  k_with "k_all" => with_reducible assumption
  trivial
theorem size_bounds (d : Int) : 21 ≤ ([60, 957, 2250] : List Int).getD (d.fmod 3).toNat 0 - (d.fdiv 3).fmod 40 ∧ ([60, 957, 2250] : List Int).getD (d.fmod 3).toNat 0 - (d.fdiv 3).fmod 40 ≤ 2250 := by
  have h1 := @fmod_cases d 3 (by decide)
  have h2 := @fmod_cases (d.fdiv 3) 40 (by decide)
  have : d.fmod 3 = 0 ∨ d.fmod 3 = 1 ∨ d.fmod 3 = 2 := by omega
  rcases this with e | e | e <;> rw [e]
  · show 21 ≤ (60 : Int) - _ ∧ (60 : Int) - _ ≤ 2250; omega
  · show 21 ≤ (957 : Int) - _ ∧ (957 : Int) - _ ≤ 2250; omega
  · show 21 ≤ (2250 : Int) - _ ∧ (2250 : Int) - _ ≤ 2250; omega
theorem head1 (F : Fr H L s.heap (fun y => if y = Str.ofString "script" then some (.ref sl) else none)) (X : (hd.heap_39 w.params).In H) (N : News H L s.heap [(L + 1 + 1, ok), (L + 1, osz), (107, tabObj #[]), (114, tabObj #[])])
   (T : Top p loose mean mg mb H) (hl : H.IsList sl vs.toArray) (hi : IntsAre vs ns) (hn : ns.length ≤ 63) (l7 : @LT.lt Nat _ 107 L) (l14 : @LT.lt Nat _ 114 L)
   (hret : ∀ h' tk nu nvs nms d t m, IntsAre nvs nms → nms = (ns.take 4).map (fun x => x.fmod (10 ^ Int.toNat 6)) → d = nms.sum → m (Str.ofString "numbers") = some (.ref nu) → m (Str.ofString "draw") = some (.int d t) → Fr H L h' m →
     News H L h' [(nu, LCg.lst nvs), (L + 1 + 1, ok), (L + 1, osz), (107, tabObj #[]), (114, tabObj #[])] → (@Ne Nat (L + 1 + 1) nu ∧ @Ne Nat (L + 1) nu ∧ @Ne Nat 107 nu ∧ @Ne Nat 114 nu) →
     wpAny (model Challenge.rw_pe0060_01.row.prog w) (callerA.deeper (lawEnv L fa cd)) (execs more (lawEnv L fa cd)) Q (fun _ _ => False) { s with heap := h', toks := tk }) :
   wpAny (model Challenge.rw_pe0060_01.row.prog w) (callerA.deeper (lawEnv L fa cd)) (execs (sNumbers :: sDraw :: more) (lawEnv L fa cd)) Q (fun _ _ => False) s := by
  revert X
  k_fill
  intro X
  have B := below_caller H
  unfold sNumbers sDraw lawEnv lawScope
  k_steps
  rename Fr _ _ _ _ => kF
  rename News _ _ _ _ => kN
  rename_i o1 _ _ _ _
  exact hret _ _ _ _ _ _ _ _ (by assumption) rfl rfl (by rfl) (by rfl) kF (fun q hq => by
    rcases List.mem_cons.mp hq with rfl | hq
    · exact kN _ (.head _)
    · exact kN _ (.tail _ (.tail _ hq))) o1.2
theorem head2 {d : Int} {t : Tok} {news : List (Addr × Obj)} (F : Fr H L s.heap (over [(Str.ofString "draw", .int d t)] m₀)) (X : (hd.heap_39 w.params).In H) (N : News H L s.heap ((L + 1, osz) :: news)) (hs : osz.data = .cell none)
   (T : Top p loose mean mg mb H) (hd0 : 0 ≤ d) (hd1 : d ≤ 10000000) (hne : ∀ q ∈ news, q.1 ≠ L + 1)
   (hret : ∀ h' tk osz' sz t', 21 ≤ sz → sz ≤ 2250 → osz'.data = .cell (some (.int sz t')) → Fr H L h' (over [(Str.ofString "draw", .int d t)] m₀) →
     News H L h' ((L + 1, osz') :: news) → wpAny (model Challenge.rw_pe0060_01.row.prog w) (callerA.deeper (lawEnv L fa cd)) (execs more (lawEnv L fa cd)) Q (fun _ _ => False) { s with heap := h', toks := tk }) :
   wpAny (model Challenge.rw_pe0060_01.row.prog w) (callerA.deeper (lawEnv L fa cd)) (execs (sSize :: more) (lawEnv L fa cd)) Q (fun _ _ => False) s := by
  revert X
  k_fill
  intro X
  have B := below_caller H
  unfold sSize lawEnv lawScope
  simp only [over] at F
  k_steps
  rename Fr _ _ _ _ => kF
  rename News _ _ _ _ => kN
  have hb := size_bounds d
  exact hret _ _ _ _ _ hb.1 hb.2 (by assumption) kF fun q hq => kN q (.tail _ hq)
end
end Mine
end
section
open PySem PySem.W PyProof.Rows
namespace Mine
theorem fresh31 : True ∧ True := by
  k_with_none
  first | (walk1; fail) | (w_top off; exact ⟨trivial, trivial⟩)
end Mine
end
section
open PySem PySem.W PyProof.Rows
namespace Mine
set_option maxRecDepth 100000
set_option maxHeartbeats 8000000
section
variable {w : World} {p : Program} {loose : List Str} {mean : ExcName → Option Value} {mg mb : Str → Option Value} {H : Heap} {L fa : Addr} {cd : Value} {m₀ : Str → Option Value} {s : Shared} {Q : Flow → Shared → Prop} {osz : Obj} {more : List Stmt} {rest : List (Addr × Obj)} {size : Int} {t : Tok}
theorem words19 : True := by
  k_with_none
  k_with "k_ne" => (refine neN ?_; (try dsimp only); first | with_reducible assumption | (refine Ne.symm ?_; with_reducible assumption))
  k_with "k_all" => with_reducible assumption
  trivial
theorem word_create : True := by
  k_with "call ref" => (k_here; k_dflt (refine' create_c ?k1 ?k2 ?k3 ?k4 ?_; (case k1 => k_asm); (case k2 => k_asm); (case k3 => k_asm); (case k4 => k_asm); k_whole); intro h' tk' tk0' row' dx' F' N' ne' nr' nd'; (simp only [List.forall_mem_cons] at nr' nd'); (try k_sweep))
  trivial
theorem head3 (F : Fr H L s.heap m₀) (X : (hd.heap_39 w.params).In H) (N : News H L s.heap ((L + 1, osz) :: rest)) (hs : osz.data = .cell (some (.int size t))) (hs0 : 21 ≤ size) (hs1 : size ≤ 2250)
   (T : Top p loose mean mg mb H)
   (hret : ∀ h' tk row dx bk bd tk₀ tt, Fr H L h' (over [(Str.ofString "bounds", .ref bd), (Str.ofString "brackets", .ref bk), (Str.ofString "text", .str (Str.ofString "") tt), (Str.ofString "row", .ref row)] m₀) →
     News H L h' ((bd, W.listOf #[.int size t] 0) :: (bk, W.listOf #[] 0) :: (row, rowObj #[] 0 dx) :: (dx, dictOf [dEnt w.params size tk₀ t] 1) :: (L + 1, osz) :: rest) →
     row ≠ dx → row ≠ bk → row ≠ bd → dx ≠ bk → dx ≠ bd → bk ≠ bd → (∀ q ∈ (L + 1, osz) :: rest, q.1 ≠ row ∧ q.1 ≠ dx ∧ q.1 ≠ bk ∧ q.1 ≠ bd) →
     wpAny (model Challenge.rw_pe0060_01.row.prog w) (callerA.deeper (lawEnv L fa cd)) (execs more (lawEnv L fa cd)) Q (fun _ _ => False) { s with heap := h', toks := tk }) :
   wpAny (model Challenge.rw_pe0060_01.row.prog w) (callerA.deeper (lawEnv L fa cd)) (execs (sRow :: sText :: sBrackets :: sBounds :: more) (lawEnv L fa cd)) Q (fun _ _ => False) s := by
  revert X
  k_fill
  intro X
  have B := below_caller H
  unfold sRow sText sBrackets sBounds lawEnv lawScope
  k_steps
  rename Fr _ _ _ _ => kF
  rename News _ _ _ _ => kN
  have a1 := ne'
  have a2 := nr'
  have a3 := nd'
  rename_i _ _ _ _ _ b1 _ _ _ b2 _
  refine hret _ _ _ _ _ _ _ _ kF kN a1 (Nat.ne_of_lt b1.1) (Nat.ne_of_lt b2.2.1) (Nat.ne_of_lt b1.2.1) (Nat.ne_of_lt b2.2.2.1) (Nat.ne_of_lt b2.1) ?_
  intro q hq
  rcases List.mem_cons.mp hq with rfl | hq
  · exact ⟨a2.1, a3.1, Nat.ne_of_lt b1.2.2.1, Nat.ne_of_lt b2.2.2.2.1⟩
  · exact ⟨a2.2 q hq, a3.2 q hq, allLt_ne b1.2.2.2 q hq, allLt_ne b2.2.2.2.2 q hq⟩
end
end Mine
end
section
open PySem PySem.W PyProof.Rows
namespace Mine
theorem fresh32 : True ∧ True := by
  k_with_none
  first | (walk1; fail) | (w_top off; exact ⟨trivial, trivial⟩)
end Mine
end
section
open PySem PySem.W PyProof.Rows
namespace Mine
set_option maxRecDepth 100000
set_option maxHeartbeats 8000000
section
variable {w : World} {p : Program} {loose : List Str} {mean : ExcName → Option Value} {mg mb : Str → Option Value} {H : Heap} {L fa : Addr} {cd : Value} {m₀ : Str → Option Value} {s : Shared} {Q : Flow → Shared → Prop} {rest : List (Addr × Obj)} {more : List Stmt}
   {row dx : Addr} {tl : List TE} {n : Nat} {size : Int} {tk₀ tk₁ tt : Tok} {qs : Array Value}
theorem words20 : True := by
  k_with_none
  k_with "k_ne" => (refine neN ?_; (try dsimp only); first | with_reducible assumption | (refine Ne.symm ?_; with_reducible assumption))
  k_with "k_all" => with_reducible assumption
  k_with "call type:str" => (k_here; (with_reducible show wpAny _ _ (call (Value.type "str") [Value.ref _]) _ _ _); k_dflt (refine' str_TL ?k1 ?k2 ?k3 ?k4 ?k5 ?k6 ?k7 ?k8 ?k9 ?l1 ?l2 ?l3 ?l4 ?l7 ?l8 ?_; (case k1 => k_asm); (case k2 => k_asm); (case k3 => k_asm); (case k4 => k_asm); (case k5 => k_updF); (case k6 => k_mem); (case k7 => k_mem); (case k8 => with_reducible assumption); (case k9 => omega); (case l1 => assumption); (case l2 => assumption); (case l3 => assumption); (case l4 => assumption); (case l7 => exact fun e he => by repeat (first | exact (by assumption : ∀ e ∈ _, TE.ent e ∈ _) e he | apply List.Mem.tail)); (case l8 => assumption); k_whole); intro s' t' ps' hp' F' N' hb' ho'; (try dsimp only at N'); (try k_sweep))
  trivial
theorem str_seg (F : Fr H L s.heap (over [(Str.ofString "row", .ref row), (Str.ofString "text", .str (textOf tl) tt)] m₀)) (X : (hd.heap_39 w.params).In H)
   (N : News H L s.heap ((row, rowObj (itemsOf tl) n dx) :: (dx, dictOf [dEnt w.params size tk₀ tk₁] 1) :: (114, tabObj qs) :: rest))
   (T : Top p loose mean mg mb H) (hqs : TabOk 51 32 qs) (hg : AllBare s.gens) (htl : tl.length ≤ 70) (htup : ∀ e ∈ tl, e.ent ∈ rest) (hlen : ∀ e ∈ tl, e.f.length + e.b.length ≤ 100)
   (n1 : row ≠ dx) (n2 : row ≠ 114) (n4 : dx ≠ 114) (nt : ∀ p ∈ rest, p.1 ≠ 114)
   (hret : ∀ s' qs', TabOk 51 32 qs' → Fr H L s'.heap (over [(Str.ofString "row", .ref row), (Str.ofString "text", .str (textOf tl) tt)] m₀) → News H L s'.heap ((row, rowObj (itemsOf tl) n dx) :: (dx, dictOf [dEnt w.params size tk₀ tk₁] 1) :: (114, tabObj qs') :: rest) → AllBare s'.gens → s'.os = s.os →
     wpAny (model Challenge.rw_pe0060_01.row.prog w) (callerA.deeper (lawEnv L fa cd)) (execs more (lawEnv L fa cd)) Q (fun _ _ => False) s') :
   wpAny (model Challenge.rw_pe0060_01.row.prog w) (callerA.deeper (lawEnv L fa cd)) (execs (ifStr :: more) (lawEnv L fa cd)) Q (fun _ _ => False) s := by
  revert X
  k_fill
  intro X
  have B := below_caller H
  unfold ifStr lawEnv lawScope
  simp only [over] at F
  k_steps
  · rename (_ != _) = true => a1
    rw [join_text] at a1
    simp at a1
  · dsimp only
    exact hret _ _ (by assumption) (by assumption) (by assumption) (by assumption) (by assumption)
end
end Mine
end
section
open PySem PySem.W PyProof.Rows
namespace Mine
theorem fresh33 : True ∧ True := by
  k_with_none
  first | (walk1; fail) | (w_top off; exact ⟨trivial, trivial⟩)
end Mine
end
section
open PySem PySem.W PyProof.Rows PySem.Builtin PySem.Builtin.Str
namespace Mine
set_option maxRecDepth 100000
set_option maxHeartbeats 1000000
theorem slice_text (x : Str) (l u : Option Int) : Txt.slice x l u = StrLaws.sliceText x l u := by
  unfold Txt.slice StrLaws.sliceText
  simp
theorem clip_hi (l : Option Int) (j n : Nat) (h : n ≤ j) : strSliceIndices l (some (j : Int)) 1 n = strSliceIndices l (some (n : Int)) 1 n := by
  have a : ¬ ((j : Int) < 0) := by omega
  have b : ¬ ((n : Int) < 0) := by omega
  have e1 : max (0 : Int) (min (j : Int) (n : Int)) = n := by omega
  have e2 : max (0 : Int) (min (n : Int) (n : Int)) = n := by omega
  simp only [strSliceIndices, a, b, if_false, e1, e2, show ((1 : Int) > 0) = True from by simp, if_true]
theorem sl_to (x : Str) (j : Nat) : cs (Txt.slice x none (some (j : Int))) = (cs x).take j := by
  rw [slice_text]
  by_cases h : j ≤ x.length
  · rw [StrLaws.sliceText_to ⟨by omega, by rw [show x.cps.toList.length = x.length from cs_len x]; omega⟩, cs_mk]
    simp
  · have e : StrLaws.sliceText x none (some (j : Int)) = StrLaws.sliceText x none (some (x.length : Int)) := by
      unfold StrLaws.sliceText
      rw [clip_hi none j x.length (by omega)]
    rw [e, StrLaws.sliceText_to ⟨by omega, by rw [show x.cps.toList.length = x.length from cs_len x]; omega⟩, cs_mk]
    have := cs_len x
    simp only [List.drop_zero, Int.sub_zero, Int.toNat_natCast]
    show (cs x).take x.length = (cs x).take j
    rw [List.take_of_length_le (by omega), List.take_of_length_le (by omega)]
theorem sl_from (x : Str) (k : Nat) (h : k ≤ x.length) : cs (Txt.slice x (some (k : Int)) none) = (cs x).drop k := by
  have := cs_len x
  rw [slice_text, StrLaws.sliceText_from ⟨by omega, by rw [show x.cps.toList.length = x.length from cs_len x]; omega⟩, cs_mk]
  simp only [Int.toNat_natCast]
  rw [List.take_of_length_le]
  rw [List.length_drop]
  show (cs x).length - k ≤ _
  have e : (x.cps.toList.length : Int) = ((cs x).length : Int) := rfl
  rw [e]; omega
theorem sl_mid (x : Str) (a b : Nat) (hab : a ≤ b) (hb : b ≤ x.length) : cs (Txt.slice x (some (a : Int)) (some (b : Int))) = ((cs x).drop a).take (b - a) := by
  rw [slice_text, StrLaws.sliceText_nat x hab hb]
theorem sl_three (x : Str) (k : Nat) (h : k ≤ x.length) : cs (Txt.slice x (some (k : Int)) (some ((k : Int) + 3))) = ((cs x).drop k).take 3 := by
  have hl := cs_len x
  by_cases h3 : k + 3 ≤ x.length
  · have := sl_mid x k (k + 3) (by omega) h3
    rw [show ((k : Int) + 3) = ((k + 3 : Nat) : Int) by omega, this]
    rw [show k + 3 - k = 3 by omega]
  · have e : Txt.slice x (some (k : Int)) (some ((k : Int) + 3)) = Txt.slice x (some (k : Int)) (some (x.length : Int)) := by
      rw [slice_text, slice_text]
      unfold StrLaws.sliceText
      rw [show ((k : Int) + 3) = ((k + 3 : Nat) : Int) by omega, clip_hi _ (k + 3) x.length (by omega)]
    rw [e, sl_mid x k x.length h (Nat.le_refl _)]
    rw [List.take_of_length_le (by rw [List.length_drop]; omega), List.take_of_length_le (by rw [List.length_drop]; omega)]
theorem sl_to_neg (x : Str) (j : Nat) (h0 : 1 ≤ j) (h : j ≤ x.length) : cs (Txt.slice x none (some (-(j : Int)))) = (cs x).take (x.length - j) := by
  rw [slice_text, StrLaws.sliceText_to_neg (by omega) (by omega), cs_mk]
  simp only [List.drop_zero]
  rw [show (-(j : Int) + x.length - 0).toNat = x.length - j by omega]
theorem sl_from_neg (x : Str) (j : Nat) (h0 : 1 ≤ j) (h : j ≤ x.length) : cs (Txt.slice x (some (-(j : Int))) none) = (cs x).drop (x.length - j) := by
  have hl := cs_len x
  rw [slice_text, StrLaws.sliceText_from_neg (by omega) (by omega), cs_mk]
  rw [show (-(j : Int) + x.length).toNat = x.length - j by omega]
  rw [List.take_of_length_le]
  rw [List.length_drop]
  have e : (x.cps.toList.length : Int) = ((cs x).length : Int) := rfl
  rw [e]
  show (cs x).length - _ ≤ _
  omega
theorem at_one (x : Str) (c i : Nat) : StrLaws.At x ⟨#[c]⟩ x.length i ↔ (cs x)[i]? = some c := StrLaws.subAt_one x c i
theorem get_mid {A B : List Nat} {c : Nat} : (A ++ c :: B)[A.length]? = some c := by simp
theorem get_pre {A B : List Nat} {i c : Nat} (hi : i < A.length) (h : (A ++ B)[i]? = some c) : c ∈ A := by
  rw [List.getElem?_append_left hi] at h
  exact List.mem_of_getElem? h
theorem find_at {x : Str} {c : Nat} {A B : List Nat} (h : cs x = A ++ c :: B) (hA : c ∉ A) : Txt.find x ⟨#[c]⟩ = A.length := by
  unfold Txt.find
  rcases StrLaws.occ_head x ⟨#[c]⟩ 1 (Nat.le_refl 1) with ⟨_, hn⟩ | ⟨i, r, h0, hi, hn⟩
  · exact absurd ((at_one x c A.length).mpr (by rw [h]; exact get_mid)) (hn _)
  · rw [h0]
    have h1 := (at_one x c i).mp hi
    rw [h] at h1
    have h2 : ¬ i < A.length := fun q => hA (get_pre q h1)
    have h3 : ¬ A.length < i := fun q => hn _ q ((at_one x c A.length).mpr (by rw [h]; exact get_mid))
    show (i : Int) = A.length
    omega
theorem find_none {x : Str} {c : Nat} (h : c ∉ cs x) : Txt.find x ⟨#[c]⟩ = -1 := by
  unfold Txt.find
  rcases StrLaws.occ_head x ⟨#[c]⟩ 1 (Nat.le_refl 1) with ⟨h0, _⟩ | ⟨i, r, h0, hi, hn⟩
  · rw [h0]
  · exact absurd (List.mem_of_getElem? ((at_one x c i).mp hi)) h
theorem fromIndex_nat {n i : Nat} : fromIndex n (i : Int) = i := by
  unfold fromIndex
  rw [if_neg (by omega)]
  omega
theorem getD_cs {x : Str} {v c : Nat} (hv : v < x.length) : x.cps.getD v 0 = c ↔ (cs x)[v]? = some c := ⟨StrLaws.getElem?_of_getD hv, StrLaws.getD_of_getElem?⟩
theorem find3_at {x : Str} {c : Nat} {A B C : List Nat} (h : cs x = A ++ B ++ c :: C) (hB : c ∉ B) {i : Int} (hi : i = A.length) : Txt.find3 x ⟨#[c]⟩ i = ((A ++ B).length : Nat) := by
  subst hi
  have hl := cs_len x
  have hlen : (A ++ B).length < x.length := by rw [← hl, h]; simp
  have hg : (cs x)[(A ++ B).length]? = some c := by rw [h]; exact get_mid
  rcases StrLaws.find3_spec x c (A.length : Int) with ⟨_, hn⟩ | ⟨k, h0, h1, h2, h3, hn⟩
  · rw [fromIndex_nat] at hn
    exact absurd ((getD_cs hlen).mpr hg) (hn _ (by simp) hlen)
  · rw [h0]
    rw [fromIndex_nat] at h1 hn
    have h3' := (getD_cs h2).mp h3
    have a1 : ¬ (A ++ B).length < k := fun q => hn _ (by simp) q ((getD_cs hlen).mpr hg)
    have a2 : ¬ k < (A ++ B).length := fun q => by
      rw [h, List.getElem?_append_left q, List.getElem?_append_right h1] at h3'
      exact hB (List.mem_of_getElem? h3')
    omega
theorem find3_none {x : Str} {c : Nat} {A B : List Nat} (h : cs x = A ++ B) (hB : c ∉ B) {i : Int} (hi : i = A.length) : Txt.find3 x ⟨#[c]⟩ i = -1 := by
  subst hi
  rcases StrLaws.find3_spec x c (A.length : Int) with ⟨h0, _⟩ | ⟨k, h0, h1, h2, h3, hn⟩
  · exact h0
  · rw [fromIndex_nat] at h1
    have h3' := (getD_cs h2).mp h3
    rw [h, List.getElem?_append_right h1] at h3'
    exact absurd (List.mem_of_getElem? h3') hB
theorem item_at {x : Str} {i : Nat} {c : Nat} (h : (cs x)[i]? = some c) : Txt.item x (i : Int) = ⟨#[c]⟩ := by
  have hl : i < (cs x).length := (List.getElem?_eq_some_iff.mp h).1
  have hc : x.cps[i]? = some c := by simpa using h
  unfold Txt.item Txt.charAt
  rw [StrLaws.seqIndex_nonneg (by omega) (by rw [← cs_len]; omega)]
  simp [hc]
noncomputable def J (c : Nat) : List (List Nat) → List Nat
  | [] => []
  | [x] => x
  | x :: y :: r => x ++ c :: J c (y :: r)
theorem split_first {c : Nat} : ∀ {x y A B : List Nat}, c ∉ x → c ∉ y → x ++ c :: A = y ++ c :: B → x = y ∧ A = B
  | [], [], _, _, _, _, h => ⟨rfl, by simpa using h⟩
  | [], b :: y, _, _, _, hy, h => by simp at h; exact absurd h.1 (fun e => hy (by rw [e]; exact .head _))
  | a :: x, [], _, _, hx, _, h => by simp at h; exact absurd h.1 (fun e => hx (by rw [← e]; exact .head _))
  | a :: x, b :: y, A, B, hx, hy, h => by
    simp at h
    obtain ⟨h1, h2⟩ := split_first (fun q => hx (.tail _ q)) (fun q => hy (.tail _ q)) h.2
    exact ⟨by rw [h.1, h1], h2⟩
theorem J_inj (c : Nat) : ∀ (P Q : List (List Nat)), P ≠ [] → Q ≠ [] → (∀ p ∈ P, c ∉ p) → (∀ q ∈ Q, c ∉ q) → J c P = J c Q → P = Q
  | [], _, h, _, _, _, _ => absurd rfl h
  | _ :: _, [], _, h, _, _, _ => absurd rfl h
  | [x], [y], _, _, _, _, h => by simpa [J] using h
  | [x], y :: z :: r, _, _, hP, _, h => by
    have e : x = y ++ c :: J c (z :: r) := h
    have : c ∈ x := by rw [e]; simp
    exact absurd this (hP x (.head _))
  | x :: z :: r, [y], _, _, _, hQ, h => by
    have e : x ++ c :: J c (z :: r) = y := h
    have : c ∈ y := by rw [← e]; simp
    exact absurd this (hQ y (.head _))
  | x :: x' :: r, y :: y' :: r', _, _, hP, hQ, h => by
    obtain ⟨h1, h2⟩ := split_first (hP x (.head _)) (hQ y (.head _)) h
    rw [h1, J_inj c (x' :: r) (y' :: r') (by simp) (by simp) (fun p hp => hP p (.tail _ hp)) (fun q hq => hQ q (.tail _ hq)) h2]
theorem join_J (c : Nat) : ∀ ts : List Str, cs (Str.join ⟨#[c]⟩ ts) = J c (ts.map cs)
  | [] => rfl
  | [x] => rfl
  | x :: y :: r => by
    show cs (x ++ ⟨#[c]⟩ ++ Str.join ⟨#[c]⟩ (y :: r)) = _
    rw [cs_append, cs_append, join_J c (y :: r)]
    show cs x ++ [c] ++ _ = cs x ++ c :: _
    simp
theorem split_ne (x y : Str) : Txt.split x y ≠ [] := by
  unfold Txt.split
  split
  · simp
  · split
    · simp
    · rw [StrLaws.partsBetween_eq]
      obtain ⟨p, r, e⟩ := StrLaws.partsFrom_ne x y.length 0 (occurrences x y 0 x.length (x.length + 1))
      rw [e]; simp
theorem split_eq {x : Str} {c : Nat} {P : List (List Nat)} (hP : P ≠ []) (hf : ∀ p ∈ P, c ∉ p) (h : cs x = J c P) : (Txt.split x ⟨#[c]⟩).map cs = P := by
  refine J_inj c _ _ (by simp [split_ne]) hP (fun p hp => ?_) hf ?_
  · obtain ⟨q, hq, rfl⟩ := List.mem_map.mp hp
    exact StrLaws.split_free x c q hq
  · rw [← join_J, StrLaws.join_split, h]
end Mine
end
section
open PySem PySem.W PyProof.Rows
namespace Mine
theorem fresh34 : True ∧ True := by
  k_with_none
  first | (walk1; fail) | (w_top off; exact ⟨trivial, trivial⟩)
end Mine
end
section
open PySem PySem.W PyProof.Rows
namespace Mine
set_option maxRecDepth 100000
set_option maxHeartbeats 1000000
noncomputable abbrev three : List Nat := [50, 50, 57]
theorem cs_229 : cs (Str.ofString "229") = three := by decide
theorem cond_iff (r : Str) : (Txt.slice r none (some 3) != Str.ofString "229") = false ↔ (cs r).take 3 = three := by
  have h := sl_to r 3
  have h' : cs (Txt.slice r none (some 3)) = (cs r).take 3 := h
  rw [bne_eq_false_iff_eq]
  constructor
  · intro e; rw [← h', e, cs_229]
  · intro e; exact cs_inj (by rw [h', e, cs_229])
theorem tells_code {r : Str} (h : (cs r).take 3 ≠ three) {v : Value} (pv : PVal r v) : ∃ t, v = .str (Str.ofString "another code") t := by
  have hc : ¬ (Txt.slice r none (some 3) != Str.ofString "229") = false := fun q => h ((cond_iff r).mp q)
  cases pv with
  | code _ => exact ⟨_, rfl⟩
  | none q _ => exact absurd q hc
  | num q _ _ _ _ _ _ => exact absurd q hc
theorem tells_none {r : Str} (h : (cs r).take 3 = three) (hn : NoPort r) {v : Value} (pv : PVal r v) : ∃ t, v = .str (Str.ofString "no port") t := by
  have hc := (cond_iff r).mpr h
  cases pv with
  | code q => rw [hc] at q; cases q
  | none _ _ => exact ⟨_, rfl⟩
  | num _ a b c d _ _ =>
    rcases hn with hn | ⟨_, hn⟩ | ⟨_, _, hn⟩ | ⟨_, _, hn⟩
    · exact absurd hn a
    · exact absurd hn b
    · rw [c] at hn; cases hn
    · exact absurd d hn
theorem intOk_none {r : Str} (hn : NoPort r) : IntOk r := fun a b c d => by
  rcases hn with hn | ⟨_, hn⟩ | ⟨_, _, hn⟩ | ⟨_, _, hn⟩
  · exact absurd hn a
  · exact absurd hn b
  · rw [c] at hn; cases hn
  · exact absurd d hn
theorem op_eq : Str.ofString "(" = ⟨#[40]⟩ := by decide
theorem cl_eq : Str.ofString ")" = ⟨#[41]⟩ := by decide
theorem no_open {r : Str} (h : 40 ∉ cs r) : NoPort r := .inl (by
  show Txt.find r (Str.ofString "(") < 0
  rw [op_eq, find_none h]; decide)
section
variable {r : Str} {pre B post : List Nat} {c : Nat}
theorem pL_eq (h : cs r = pre ++ 40 :: B) (hp : 40 ∉ pre) : pL r = pre.length := by
  show Txt.find r (Str.ofString "(") = _
  rw [op_eq, find_at h hp]
theorem no_close (h : cs r = pre ++ 40 :: B) (hp : 40 ∉ pre) (hB : 41 ∉ B) : NoPort r := by
  have e := pL_eq h hp
  refine .inr (.inl ⟨by rw [e]; omega, ?_⟩)
  show Txt.find3 r (Str.ofString ")") (pL r + 1) < 0
  rw [e, cl_eq, find3_none (A := pre ++ [40]) (B := B) (by rw [h]; simp) hB (by simp)]
  decide
theorem pR_eq (h : cs r = pre ++ 40 :: (B ++ 41 :: post)) (hp : 40 ∉ pre) (hB : 41 ∉ B) : pR r = ((pre ++ [40] ++ B).length : Nat) := by
  have e := pL_eq h hp
  show Txt.find3 r (Str.ofString ")") (pL r + 1) = _
  rw [e, cl_eq, find3_at (A := pre ++ [40]) (B := B) (C := post) (by rw [h]; simp) hB (by simp)]
theorem item_l (h : cs r = pre ++ 40 :: (c :: B ++ 41 :: post)) (hp : 40 ∉ pre) : Txt.item r (pL r + 1) = ⟨#[c]⟩ := by
  rw [pL_eq h hp]
  refine item_at (i := pre.length + 1) ?_
  rw [h]; simp
theorem item_r (h : cs r = pre ++ 40 :: (B ++ [c] ++ 41 :: post)) (hp : 40 ∉ pre) (hB : 41 ∉ B ++ [c]) : Txt.item r (pR r - 1) = ⟨#[c]⟩ := by
  rw [pR_eq h hp hB]
  have e : (((pre ++ [40] ++ (B ++ [c])).length : Nat) : Int) - 1 = ((pre ++ [40] ++ B).length : Nat) := by
    simp only [List.length_append, List.length_cons, List.length_nil]; omega
  rw [e]
  refine item_at ?_
  rw [h, show pre ++ 40 :: (B ++ [c] ++ 41 :: post) = (pre ++ [40] ++ B) ++ c :: (41 :: post) by simp]
  exact get_mid
theorem parts_split (h : cs r = pre ++ 40 :: (c :: B ++ 41 :: post)) (hp : 40 ∉ pre) (hB : 41 ∉ c :: B) {P : List (List Nat)} (hP : P ≠ []) (hf : ∀ p ∈ P, c ∉ p) (hJ : c :: B = J c P) : (pParts r).map cs = P := by
  show (Txt.split (Txt.slice r (some (pL r + 1)) (some (pR r))) (Txt.item r (pL r + 1))).map cs = P
  rw [item_l h hp]
  refine split_eq hP hf ?_
  rw [← hJ, pL_eq h hp, pR_eq h hp hB]
  have hl := cs_len r
  have hlen : (pre ++ [40] ++ (c :: B)).length ≤ r.length := by rw [← hl, h]; simp
  have := sl_mid r (pre.length + 1) (pre ++ [40] ++ (c :: B)).length (by simp) hlen
  rw [show ((pre.length : Int) + 1) = ((pre.length + 1 : Nat) : Int) by omega, this, h]
  rw [show pre ++ 40 :: (c :: B ++ 41 :: post) = (pre ++ [40]) ++ ((c :: B) ++ (41 :: post)) by simp]
  rw [show pre.length + 1 = (pre ++ [40]).length by simp, List.drop_left]
  have e : (pre ++ [40] ++ (c :: B)).length - (pre ++ [40]).length = (c :: B).length := by
    simp only [List.length_append, List.length_cons, List.length_nil]; omega
  rw [e]
  exact List.take_left
theorem parts_len (h : cs r = pre ++ 40 :: (c :: B ++ 41 :: post)) (hp : 40 ∉ pre) (hB : 41 ∉ c :: B) {P : List (List Nat)} (hP : P ≠ []) (hf : ∀ p ∈ P, c ∉ p) (hJ : c :: B = J c P) : (pParts r).length = P.length := by
  rw [← parts_split h hp hB hP hf hJ, List.length_map]
theorem num_shape {p : Int} (h0 : 0 ≤ p) (h1 : p < 10 ^ 10) (hc : c ≠ 41) (hd : ∀ d ∈ dg p, 48 ≤ d ∧ d ≤ 57) (hcd : ¬ (48 ≤ c ∧ c ≤ 57)) (h : cs r = pre ++ 40 :: c :: c :: c :: (dg p ++ c :: 41 :: post)) (hp : 40 ∉ pre) (ht : (cs r).take 3 = three) :
    IntOk r ∧ ∀ v, PVal r v → ∃ t, v = .int p t := by
  have hcn : c ∉ dg p := fun q => hcd (hd c q)
  have h4 : 41 ∉ dg p := fun q => by have := hd _ q; omega
  have e1 : cs r = pre ++ 40 :: (c :: (c :: c :: (dg p ++ [c])) ++ 41 :: post) := by rw [h]; simp
  have hB : 41 ∉ c :: (c :: c :: (dg p ++ [c])) := by simp [h4, Ne.symm hc]
  have P := parts_split e1 hp hB (P := [[], [], [], dg p, []]) (by simp) (by simp [hcn]) (by simp [J])
  have hl : (pParts r).length = 5 := by have := congrArg List.length P; simpa using this
  have il := item_l e1 hp
  have e2 : cs r = pre ++ 40 :: (c :: c :: c :: dg p ++ [c] ++ 41 :: post) := by rw [h]; simp
  have ir := item_r e2 hp (by simpa using hB)
  have key : ∀ y, (pParts r)[3]? = some y → PySem.intText? y = some p := fun y hy => by
    have h3 : ((pParts r).map cs)[3]? = some (cs y) := by simp [hy]
    rw [P] at h3
    have e : dg p = cs y := by simpa using h3
    have : y = Str.ofString (toString p) := cs_inj e.symm
    rw [this]
    exact KIN.num_reads h0 h1
  refine ⟨fun _ _ _ _ y hy => ⟨p, key y hy, h0, h1⟩, fun v pv => ?_⟩
  have hcond := (cond_iff r).mpr ht
  cases pv with
  | code q => rw [hcond] at q; cases q
  | none _ hn =>
    exfalso
    rcases hn with hn | ⟨_, hn⟩ | ⟨_, _, hn⟩ | ⟨_, _, hn⟩
    · rw [pL_eq e1 hp] at hn; omega
    · rw [pR_eq e1 hp hB] at hn; omega
    · rw [il, ir] at hn; simp at hn
    · exact hn hl
  | num _ _ _ _ _ hy hn =>
    have := key _ hy
    rw [hn] at this
    cases this
    exact ⟨_, rfl⟩
end
end Mine
end
section
open PySem PySem.W PyProof.Rows
namespace Mine
theorem fresh35 : True ∧ True := by
  k_with_none
  first | (walk1; fail) | (w_top off; exact ⟨trivial, trivial⟩)
end Mine
end
section
open PySem PySem.W PySem.W.X PyProof.Rows PySem.Calls PySem.Spec
namespace Mine
set_option maxHeartbeats 1000000
section
variable {prog : Program} {w : World} {A : Around} {E : Value → Shared → Prop} {s : Shared} {h₀ : Heap} {L : Addr} {m : Str → Option Value} {env : Env} {news : List (Addr × Obj)}
/-- a list comprehension with a pair target and one test, over an iterator of pairs -/
theorem block_Z {elt iter ct : PySem.Expr} {a b : Str} {pa pb tp : Pos} {kk : Nat} {scope : Scope} {cl : List (Str × Addr)} {pos : Pos} {s₂ : Shared} {I : Addr} {fp wr : List Addr} {n : Nat} {Pt : Nat → Array Value → Prop} {St : Nat → Heap → Prop} {Mid : Nat → Addr → Heap → Prop} {xs ys : Nat → Value} {RR : Value → Addr → Result → Shared → Prop}
    (W : WalksU prog w A I fp wr n Pt St Mid) (hPt : ∀ i vals, i < n → Pt i vals → vals = #[xs i, ys i]) (hfp : ∀ b ∈ fp, b < s₂.heap.objs.size) (hsz : n ≤ sizeLine) (hst : St 0 s₂.heap) (hh : A.handled = none)
    (hcell : ∀ y ∈ scope.names, y.2 ≠ .cell) (hkind : scope.kind = .function) (hxa : scope.names.lookup a = some .local) (hxb : scope.names.lookup b = some .local) (hab : ¬ a = b)
    (Inv : Nat → List Value → Prop) (h0 : Inv 0 [])
    (turn : ∀ i zs C m₂ h tk (E' : Value → Shared → Prop) (Z1 : Value → Shared → Prop) (Z0 : Shared → Prop), i < n → Inv i zs → h.Ns C m₂ → m₂ a = some (xs i) → m₂ b = some (ys i) → (∀ c o, c ∉ wr → s₂.heap.get? c = some o → h.get? c = some o) → s₂.heap.objs.size ≤ C →
      (∀ v tk', Inv (i + 1) (zs ++ [v]) → Z1 v { s₂ with heap := h, toks := tk' }) → (∀ tk', Inv (i + 1) zs → Z0 { s₂ with heap := h, toks := tk' }) →
      wpAny (model prog w) A (isTrue ct (compEnvC scope cl C env) (eval ct (compEnvC scope cl C env))) (fun ok s' => if ok = true then wpAny (model prog w) A (eval elt (compEnvC scope cl C env)) Z1 E' s' else Z0 s') E' { s₂ with heap := h, toks := tk })
    (hRR : ∀ C h tk m' zs, Inv n zs → (∀ c o, c ∉ wr → s₂.heap.get? c = some o → h.get? c = some o) → h.get? s₂.heap.objs.size = some (LCg.lst zs) → h.Ns C m' → s₂.heap.objs.size < C → RR (.ref s₂.heap.objs.size) C (.ok .next) { s₂ with heap := h, toks := tk }) :
    wpAny (model prog w) A (newList []) (fun acc s₃ => wpAny (model prog w) A (newFunctionEnv scope env.globals cl [] env.qual none .none (some env)) (fun cenv s₄ =>
      codeAny (model prog w) A (.compStart (.ListComp elt [⟨.Tuple [.Name a pa, .Name b pb] kk tp, iter, [ct], 0⟩] scope pos) 0 (.ref I) acc { cenv with scope := relabel scope env }) (RR acc cenv.locals) s₄) E s₃) E s₂ := by
  refine wpAny_newObj_type (wpAny_newFunctionEnv hcell (by intro y hy; simp at hy) (fun h₁ hns₁ hsb₁ => ?_) hkind)
  dsimp only at hns₁ hsb₁ ⊢
  generalize hH2 : s₂.heap.push { cls := .type "list", dict := none, data := .seq ([] : List Value).toArray } = H2 at hns₁ hsb₁ ⊢
  have hC : H2.objs.size = s₂.heap.objs.size + 1 := by rw [← hH2, Heap.size_push]
  have hDC : s₂.heap.objs.size ≠ H2.objs.size := by rw [hC]; exact Nat.ne_of_lt (Nat.lt_succ_self _)
  have hDw : ∀ c ∈ fp, c ≠ s₂.heap.objs.size ∧ c ≠ H2.objs.size := fun c hc => ⟨Nat.ne_of_lt (hfp c hc), by rw [hC]; exact Nat.ne_of_lt (Nat.lt_succ_of_lt (hfp c hc))⟩
  have old : ∀ c o, s₂.heap.get? c = some o → h₁.get? c = some o := fun c o e => hsb₁.extBut c o (by rw [hC]; exact Nat.ne_of_lt (Nat.lt_succ_of_lt (Heap.lt_size e))) (Heap.get?_push_of_some _ (hH2 ▸ Heap.get?_push_of_some _ e))
  have hacc : h₁.get? s₂.heap.objs.size = some (LCg.lst []) := hsb₁.extBut _ _ hDC (Heap.get?_push_of_some _ (hH2 ▸ Heap.get?_push_size _ rfl))
  have hst₁ : St 0 h₁ := W.frame _ _ _ hst fun c _ o e => old c o e
  have hIf : ∀ c ∈ wr, c ∈ fp := W.sub
  have hDwr : s₂.heap.objs.size ∉ wr := fun q => (hDw _ (hIf _ q)).1 rfl
  have hCwr : H2.objs.size ∉ wr := fun q => (hDw _ (hIf _ q)).2 rfl
  have loop : ∀ s₃ : Shared, s₃ = { s₂ with heap := h₁, toks := s₂.toks + ([] : List (Str × Value)).length } →
      codeAny (model prog w) A (.compLoop (.ListComp elt [⟨.Tuple [.Name a pa, .Name b pb] kk tp, iter, [ct], 0⟩] scope pos) 0 (.ref I) (.ref s₂.heap.objs.size) (compEnvC scope cl H2.objs.size env))
        (RR (.ref s₂.heap.objs.size) H2.objs.size) s₃ := by
    rintro s₃ rfl
    refine kct_loop
      (fun k s' => ∃ h' tk i zs m', s' = { s₂ with heap := h', toks := tk } ∧ i ≤ n ∧ k = n + 1 - i ∧ zs.length ≤ i ∧ St i h' ∧ h'.Ns H2.objs.size m' ∧ h'.get? s₂.heap.objs.size = some (LCg.lst zs) ∧
        (∀ c o, c ∉ wr → s₂.heap.get? c = some o → h'.get? c = some o) ∧ Inv i zs) ?_ (n + 1)
      ⟨h₁, _, 0, [], _, rfl, Nat.zero_le _, rfl, Nat.le_refl _, hst₁, hns₁, hacc, fun c o _ e => old c o e, h0⟩
    rintro k s' ⟨h', tk, i, zs, m', rfl, hi, rfl, hzl, hst', hn', hD', hk', hInv⟩
    by_cases hlt : i < n
    · refine W.item i _ _ _ hlt hst' fun T vals h₂ tk₂ hP hT hM hk₂ => ?_
      refine W.go _ _ _ i T _ _ _ hM fun h₃ hst₃ hk₃ => ?_
      have hv := hPt i vals hlt hP
      subst hv
      have up₃ : ∀ c o, c ∉ wr → h'.get? c = some o → h₃.get? c = some o := fun c o hc e => hk₃ c o hc (hk₂ c o hc e)
      have hT₃ : h₃.IsTuple T #[xs i, ys i] := hT.at fun o e => hk₃ T o (W.apart i T _ hM) e
      refine kcp_assign (env := compEnvC scope cl H2.objs.size env) hh hT₃ (lookup_relabel_local hxa) (lookup_relabel_local hxb) (by simp [compEnvC, relabel, hkind]) (hn'.at' fun o e => up₃ _ o hCwr e) fun h₄ tk₄ hn₄ hs₄ => ?_
      have hst₄ : St (i + 1) h₄ := W.frame _ _ _ hst₃ fun c hc o e => hs₄ c o (hDw c hc).2 e
      have up₄ : ∀ c o, c ∉ wr → s₂.heap.get? c = some o → h₄.get? c = some o := fun c o hc e => hs₄ c o (by
        intro q
        have q' : c = H2.objs.size := q
        have := Heap.lt_size e
        rw [q', hC] at this
        exact Nat.lt_irrefl _ (Nat.lt_of_succ_lt this)) (up₃ c o hc (hk' c o hc e))
      have hD₄ : h₄.get? s₂.heap.objs.size = some (LCg.lst zs) := hs₄ _ _ hDC (up₃ _ _ hDwr hD')
      refine turn i zs H2.objs.size _ h₄ tk₄ _ _ _ hlt hInv hn₄ (by simp [hab]) (by simp) up₄ (by rw [hC]; exact Nat.le_succ _) (fun v tk₅ hI => ?_) fun tk₅ hI => ?_
      · refine append_at (hsz := by show zs.toArray.size ≤ sizeLine; rw [List.size_toArray]; exact Nat.le_trans hzl (Nat.le_trans hi hsz)) hD₄ fun h₅ hs₅ hD₅ => ?_
        refine ⟨n + 1 - (i + 1), by omega, h₅, tk₅, i + 1, zs ++ [v], _, rfl, hlt, rfl, by rw [List.length_append, List.length_singleton]; exact Nat.succ_le_succ hzl, W.frame _ _ _ hst₄ fun c hc o e => hs₅.extBut c o (hDw c hc).1 e,
          hn₄.sameBut hs₅ (Ne.symm hDC), hD₅.trans (congrArg some (LCg.lst_snoc zs v)), fun c o hc e => hs₅.extBut c o (Nat.ne_of_lt (Heap.lt_size e)) (up₄ c o hc e), hI⟩
      · exact ⟨n + 1 - (i + 1), by omega, h₄, tk₅, i + 1, zs, _, rfl, hlt, rfl, Nat.le_succ_of_le hzl, hst₄, hn₄, hD₄, up₄, hI⟩
    · obtain rfl : i = n := Nat.le_antisymm hi (Nat.not_lt.mp hlt)
      refine W.done _ _ _ hst' fun h₂ tk₂ hk₂ => ?_
      exact hRR _ h₂ tk₂ m' zs hInv (fun c o hc e => hk₂ c o hc (hk' c o hc e)) (hk₂ _ _ hDwr hD') (hn'.at' fun o e => hk₂ _ o hCwr e) (by rw [hC]; exact Nat.lt_succ_self _)
  exact codeAny_compStart_list (loop _ rfl) (W.self 0 _ _ _ hst₁ (loop _ rfl))
/-- zip over two lists, its pairs tested, the result bound to a name -/
theorem Assign_zip {elt iter ct : PySem.Expr} {a b y : Str} {pa pb tp py : Pos} {kk : Nat} {scope : Scope} {cl : List (Str × Addr)} {pos spos : Pos} {Q : Flow → Shared → Prop} (hLe : env.locals = L)
    (hsw : swapsWith (.ListComp elt [⟨.Tuple [.Name a pa, .Name b pb] kk tp, iter, [ct], 0⟩] scope pos) (some (.Name y py)) spos.line env = pure true)
    (hclos : closureFor scope env = pure cl) (hcell : ∀ z ∈ scope.names, z.2 ≠ .cell) (hkind : scope.kind = .function)
    (hnames : ∀ z ∈ scope.names, z.2 = .local → scope.names.lookup z.1 = some .local) (hxa : scope.names.lookup a = some .local) (hxb : scope.names.lookup b = some .local) (hab : ¬ a = b)
    (hy : env.kindOf y = some .local) (hp : (env.scope.kind == .class || (env.scope.kind == .module && env.locals != env.globals)) = false) (hh : A.handled = none)
    (h : wpAny (model prog w) A (eval iter env) (fun xv s₁ => ∃ z TI TO i1 i2 l1 l2 xs ys m news, xv = .ref z ∧ ZipApart z TI TO i1 i2 l1 l2 ∧ (IsZip s₁.heap z TI TO .none ∧ IsPair s₁.heap TI (.ref i1) (.ref i2) ∧ (∃ a b, IsPair s₁.heap TO a b) ∧ s₁.heap.IsListIter i1 l1 0 ∧ s₁.heap.IsListIter i2 l2 0 ∧ s₁.heap.IsList l1 xs ∧ s₁.heap.IsList l2 ys) ∧
      Fr h₀ L s₁.heap m ∧ News h₀ L s₁.heap news ∧ (∀ c ∈ [z, TO, i1, i2], c ≠ L ∧ h₀.get? c = none ∧ ∀ p ∈ news, p.1 ≠ c) ∧ min xs.size ys.size ≤ sizeLine ∧
      ∃ (Inv : Nat → List Value → Prop), Inv 0 [] ∧
        (∀ i zs C m₂ h oC tk (E' : Value → Shared → Prop) (Z1 : Value → Shared → Prop) (Z0 : Shared → Prop) x v, i < min xs.size ys.size → Inv i zs → xs[i]? = some x → ys[i]? = some v → LCg.NsObj oC m₂ → m₂ a = some x → m₂ b = some v → Fr h₀ L h m → News h₀ L h ((C, oC) :: news) →
          (∀ v tk', Inv (i + 1) (zs ++ [v]) → Z1 v { s₁ with heap := h, toks := tk' }) → (∀ tk', Inv (i + 1) zs → Z0 { s₁ with heap := h, toks := tk' }) →
          wpAny (model prog w) A (isTrue ct (compEnvC scope cl C env) (eval ct (compEnvC scope cl C env))) (fun ok s' => if ok = true then wpAny (model prog w) A (eval elt (compEnvC scope cl C env)) Z1 E' s' else Z0 s') E' { s₁ with heap := h, toks := tk }) ∧
        ∀ D h tk zs, Inv (min xs.size ys.size) zs → Fr h₀ L h (fun q => if q = y then some (.ref D) else m q) → News h₀ L h ((D, LCg.lst zs) :: news) → (∀ p ∈ news, p.1 ≠ D) → Q .next { s₁ with heap := h, toks := tk }) E s)
    (hs : ∀ x, foldedSetIterable iter env x = pure x := by intro _; rfl) :
    wpAny (model prog w) A (exec (.Assign [.Name y py] (.ListComp elt [⟨.Tuple [.Name a pa, .Name b pb] kk tp, iter, [ct], 0⟩] scope pos) spos) env) Q E s := by
  subst hLe
  rw [exec_Assign_Name_used _ _ _ _ hsw]
  refine wpAny_bind (wpAny_standAt (wpAny_bind ?_))
  show wpAny _ A (do let _ ← comprehension (.ListComp elt [⟨.Tuple [.Name a pa, .Name b pb] kk tp, iter, [ct], 0⟩] scope pos) scope env _ (newList []) false (eval iter env) (some (assign (.Name y py) env))) _ _ s
  refine wpAny_bind (wpAny_mono (wpAny_comprehension_free (use := some (assign (.Name y py) env)) (Q := fun _ s' => Q .next s') rfl hs hclos hkind hnames
    (wpAny_mono h (fun xv s₁ h₁ => ?_) fun _ _ e => e)) (fun _ s' hq => wpAny_pure (wpAny_pure hq)) fun _ _ e => e)
  obtain ⟨z, TI, TO, i1, i2, l1, l2, xs, ys, m, news, rfl, D, hst, F, N, hw, hsz, Inv, hI0, turn, fin⟩ := h₁
  have W := (WalksT.zip2 (prog := prog) (w := w) hh z TI TO i1 i2 l1 l2 D xs ys).toU
  refine W.self 0 _ _ _ hst ?_
  obtain ⟨hz, hTI, ⟨ta, tb, hTO⟩, ⟨o1, h1, c1, r1⟩, ⟨o2, h2, c2, r2⟩, ⟨ol1, hl1, cl1, q1⟩, ⟨ol2, hl2, cl2, q2⟩⟩ := hst
  have hst : IsZip s₁.heap z TI TO .none ∧ IsPair s₁.heap TI (.ref i1) (.ref i2) ∧ (∃ a b, IsPair s₁.heap TO a b) ∧ s₁.heap.IsListIter i1 l1 0 ∧ s₁.heap.IsListIter i2 l2 0 ∧ s₁.heap.IsList l1 xs ∧ s₁.heap.IsList l2 ys := ⟨hz, hTI, ⟨ta, tb, hTO⟩, ⟨o1, h1, c1, r1⟩, ⟨o2, h2, c2, r2⟩, ⟨ol1, hl1, cl1, q1⟩, ⟨ol2, hl2, cl2, q2⟩⟩
  have hfp : ∀ c ∈ [z, TI, TO, i1, i2, l1, l2], c < s₁.heap.objs.size := by
    intro c hc
    simp only [List.mem_cons, List.not_mem_nil, or_false] at hc
    rcases hc with rfl | rfl | rfl | rfl | rfl | rfl | rfl
    · exact Heap.lt_size hz
    · exact Heap.lt_size hTI
    · exact Heap.lt_size hTO
    · exact Heap.lt_size h1
    · exact Heap.lt_size h2
    · exact Heap.lt_size hl1
    · exact Heap.lt_size hl2
  have fresh₀ : ∀ c, s₁.heap.objs.size ≤ c → h₀.get? c = none := fun c hc => by
    cases e : h₀.get? c with
    | none => rfl
    | some o => exact absurd (Heap.lt_size (F.keep _ _ e)) (Nat.not_lt.mpr hc)
  have fr : ∀ h : Heap, (∀ c o, c ∉ [z, TO, i1, i2] → s₁.heap.get? c = some o → h.get? c = some o) → Fr h₀ env.locals h m ∧ News h₀ env.locals h news := fun h hk =>
    ⟨⟨F.ns.at' fun o e => hk _ o (fun q => (hw _ q).1 rfl) e, fun c o e => hk c o (fun q => by rw [(hw _ q).2.1] at e; cases e) (F.keep c o e), F.above⟩, fun p hp => ⟨hk _ _ (fun q => (hw _ q).2.2 p hp rfl) (N p hp).1, (N p hp).2⟩⟩
  refine block_Z (xs := fun i => (xs[i]?).getD .none) (ys := fun i => (ys[i]?).getD .none) W (fun i vals hi hP => ?_) hfp hsz hst hh hcell hkind hxa hxb hab Inv hI0 ?_ ?_
  · obtain ⟨x, y', e1, e2, rfl⟩ := hP
    simp [e1, e2]
  · intro i zs C m₂ h tk E' Z1 Z0 hi hI hn ha hb hk hCs z1 z0
    obtain ⟨F', N'⟩ := fr h hk
    obtain ⟨oC, heC, hoC⟩ := LCg.ns_obj hn
    have hx : i < xs.size := Nat.lt_of_lt_of_le hi (Nat.min_le_left ..)
    have hyy : i < ys.size := Nat.lt_of_lt_of_le hi (Nat.min_le_right ..)
    have ex : xs[i]? = some xs[i] := by simp [hx]
    have ey : ys[i]? = some ys[i] := by simp [hyy]
    rw [ex] at ha
    rw [ey] at hb
    refine turn i zs C m₂ h oC tk E' Z1 Z0 xs[i] ys[i] hi hI ex ey hoC ha hb F' (fun p hp => ?_) z1 z0
    rcases List.mem_cons.mp hp with rfl | hp
    · exact ⟨heC, fun q => by have q' : C = env.locals := q; rw [q'] at hCs; exact absurd F.ns.lt (Nat.not_lt.mpr hCs), fresh₀ _ hCs⟩
    · exact N' p hp
  · intro C h tk m' zs hI hk hD hn hCs
    obtain ⟨F', N'⟩ := fr h hk
    have hCL : C ≠ env.locals := Nat.ne_of_gt (Nat.lt_trans F.ns.lt hCs)
    have hDL : s₁.heap.objs.size ≠ env.locals := Nat.ne_of_gt F.ns.lt
    show wpAny _ A (assign (.Name y py) env (.ref s₁.heap.objs.size)) _ _ _
    refine wpAny_assign_Name (wpAny_storeName_local hy F'.ns (fun h₂ hn₂ hs₂ => ?_) hp)
    have hL₀ : h₀.get? env.locals = none := Heap.get?_none_of_le F'.above
    have F₂ : Fr h₀ env.locals h₂ (fun q => if q = y then some (.ref s₁.heap.objs.size) else m q) := ⟨hn₂, fun b o e => hs₂.extBut b o (fun q => by rw [q, hL₀] at e; cases e) (F'.keep b o e), F'.above⟩
    refine ⟨m', hn.sameBut hs₂ hCL, fun h'' hs'' => fin _ h'' _ zs hI (F₂.change hs'' hCL (fresh₀ _ (Nat.le_of_lt hCs))) (fun p hp => ?_) fun p hp => Nat.ne_of_lt (Heap.lt_size (N p hp).1)⟩
    rcases List.mem_cons.mp hp with rfl | hp
    · exact ⟨hs''.extBut _ _ (Nat.ne_of_lt hCs) (hs₂.extBut _ _ hDL hD), hDL, fresh₀ _ (Nat.le_refl _)⟩
    · have e1 := hs₂.extBut _ _ (N' p hp).2.1 (N' p hp).1
      exact ⟨hs''.extBut _ _ (Nat.ne_of_lt (Nat.lt_trans (Heap.lt_size (N p hp).1) hCs)) e1, (N' p hp).2⟩
end
end Mine
end
section
open PySem PySem.W PyProof.Rows
namespace Mine
theorem fresh36 : True ∧ True := by
  k_with_none
  first | (walk1; fail) | (w_top off; exact ⟨trivial, trivial⟩)
end Mine
end
section
open PySem PySem.W PyProof.Rows
namespace Mine
set_option maxRecDepth 100000
set_option maxHeartbeats 8000000
noncomputable section
noncomputable def cLater : Stmt := by
  refine (fun (_ : cIf = .If ?t [?a, ?b] ?o ?p) => ?a) ?h
  case h => with_unfolding_all rfl
noncomputable def cDue2 : Stmt := by
  refine (fun (_ : cIf = .If ?t [?a, ?b] ?o ?p) => ?b) ?h
  case h => with_unfolding_all rfl
noncomputable def lCt : PySem.Expr := by
  refine (fun (_ : cLater = .Assign ?tt (.ListComp ?elt [⟨?t, ?it, [?ct], ?a⟩] ?sc ?p) ?q) => ?ct) ?h
  case h => with_unfolding_all rfl
noncomputable def lElt : PySem.Expr := by
  refine (fun (_ : cLater = .Assign ?tt (.ListComp ?elt [⟨?t, ?it, [?ct], ?a⟩] ?sc ?p) ?q) => ?elt) ?h
  case h => with_unfolding_all rfl
noncomputable def lIter : PySem.Expr := by
  refine (fun (_ : cLater = .Assign ?tt (.ListComp ?elt [⟨?t, ?it, [?ct], ?a⟩] ?sc ?p) ?q) => ?it) ?h
  case h => with_unfolding_all rfl
noncomputable def lScope : Scope := by
  refine (fun (_ : cLater = .Assign ?tt (.ListComp ?elt [⟨?t, ?it, [?ct], ?a⟩] ?sc ?p) ?q) => ?sc) ?h
  case h => with_unfolding_all rfl
end
section
variable {w : World} {p : Program} {loose : List Str} {mean : ExcName → Option Value} {mg mb : Str → Option Value} {H : Heap} {L fa : Addr} {cd : Value} {m m₀ : Str → Option Value} {s : Shared} {rest : List (Addr × Obj)} {more : List Stmt}
theorem zip_turn {A : Around} {Z1 E' : Value → Shared → Prop} {Z0 : Shared → Prop} {h : Heap} {C : Addr} {oC ok osz : Obj} {m₂ : Str → Option Value} {x y sz k : Int} {tx ty t1 t2 : Tok} {tk : Nat} {cl : List (Str × Addr)} (hcl : cl = [(Str.ofString "size", L + 1), (Str.ofString "k", L + 1 + 1)])
   (hx : m₂ (Str.ofString "bracket") = some (.int x tx)) (hy : m₂ (Str.ofString "end") = some (.int y ty)) (hC : LCg.NsObj oC m₂) (X : (hd.heap_39 w.params).In H) (F : Fr H L h m)
   (N : News H L h ((C, oC) :: (L + 1 + 1, ok) :: (L + 1, osz) :: rest)) (hk : ok.data = .cell (some (.int k t2))) (hsz : osz.data = .cell (some (.int sz t1))) (hb1 : 0 ≤ sz) (hb2 : sz ≤ 10000) (hb3 : 0 ≤ k) (hb4 : k ≤ 10000) (hb5 : 0 ≤ x) (hb6 : x ≤ 100000)
   (z1 : ∀ tk, sz + k ≤ x → Z1 (.int y ty) { s with heap := h, toks := tk }) (z0 : ∀ tk, ¬ sz + k ≤ x → Z0 { s with heap := h, toks := tk }) :
   wpAny (model Challenge.rw_pe0060_01.row.prog w) A (isTrue lCt (compEnvC lScope cl C (lawEnv L fa cd)) (eval lCt (compEnvC lScope cl C (lawEnv L fa cd))))
     (fun ok s' => if ok = true then wpAny (model Challenge.rw_pe0060_01.row.prog w) A (eval lElt (compEnvC lScope cl C (lawEnv L fa cd))) Z1 E' s' else Z0 s') E' { s with heap := h, toks := tk } := by
  subst hcl
  revert X
  k_fill
  intro X
  unfold lCt lElt lScope lawEnv lawScope
  repeat' (first | (k_unfold; (try dsimp only)) | walk1 | (dsimp only; walk1))
  · exact z1 _ (by assumption)
  · exact z0 _ (by assumption)
noncomputable def laterTo (brs bnds : List Int) (c : Int) (i : Nat) : List Int := (((brs.zip bnds).take i).filter fun p => decide (c ≤ p.1)).map (·.2)
noncomputable def laterOf (brs bnds : List Int) (c : Int) : List Int := ((brs.zip bnds).filter fun p => decide (c ≤ p.1)).map (·.2)
theorem later_yes {brs bnds : List Int} {c x y : Int} {i : Nat} (hx : brs[i]? = some x) (hy : bnds[i]? = some y) (h : c ≤ x) : laterTo brs bnds c (i + 1) = laterTo brs bnds c i ++ [y] := by
  unfold laterTo
  have : (brs.zip bnds)[i]? = some (x, y) := by simp [List.getElem?_zip_eq_some, hx, hy]
  rw [List.take_add_one, this]
  simp [h]
theorem later_no {brs bnds : List Int} {c x y : Int} {i : Nat} (hx : brs[i]? = some x) (hy : bnds[i]? = some y) (h : ¬ c ≤ x) : laterTo brs bnds c (i + 1) = laterTo brs bnds c i := by
  unfold laterTo
  have : (brs.zip bnds)[i]? = some (x, y) := by simp [List.getElem?_zip_eq_some, hx, hy]
  rw [List.take_add_one, this]
  simp [h]
theorem ints_at {vs : List Value} {ns : List Int} (h : IntsAre vs ns) {i : Nat} {v : Value} (e : vs.toArray[i]? = some v) : ∃ n t, ns[i]? = some n ∧ v = .int n t := by
  have hi : i < vs.length := by
    have := (Array.getElem?_eq_some_iff.mp e).1
    simpa using this
  have hn : i < ns.length := by have := h.length; omega
  obtain ⟨t, ht⟩ := h.get i ns[i] (by simp [hn])
  have e' : vs[i]? = some v := by simpa using e
  rw [ht] at e'
  exact ⟨ns[i], t, by simp [hn], (Option.some.inj e').symm⟩
theorem later_c {Q : Flow → Shared → Prop} {ok osz : Obj} {bk bd : Addr} {bkv bdv : List Value} {nk nb : Nat} {brs bnds : List Int} {b0 sz k : Int} {t1 t2 : Tok} (F : Fr H L s.heap (over [(Str.ofString "brackets", .ref bk), (Str.ofString "bounds", .ref bd)] m₀)) (X : (hd.heap_39 w.params).In H) (T : Top p loose mean mg mb H)
   (N : News H L s.heap ((bk, W.listOf bkv.toArray nk) :: (bd, W.listOf bdv.toArray nb) :: (L + 1 + 1, ok) :: (L + 1, osz) :: rest)) (hbk : IntsAre bkv brs) (hbd : IntsAre bdv (b0 :: bnds)) (hl1 : brs.length ≤ 10) (hl2 : bnds.length ≤ 10)
   (hk : ok.data = .cell (some (.int k t2))) (hsz : osz.data = .cell (some (.int sz t1))) (hb1 : 0 ≤ sz) (hb2 : sz ≤ 10000) (hb3 : 0 ≤ k) (hb4 : k ≤ 10000) (hb5 : ∀ x ∈ brs, 0 ≤ x ∧ x ≤ 100000)
   (hret : ∀ h' tk l zs, IntsAre zs (laterOf brs bnds (sz + k)) → Fr H L h' (over [(Str.ofString "later", .ref l), (Str.ofString "brackets", .ref bk), (Str.ofString "bounds", .ref bd)] m₀) →
     News H L h' ((l, LCg.lst zs) :: (bk, W.listOf bkv.toArray nk) :: (bd, W.listOf bdv.toArray nb) :: (L + 1 + 1, ok) :: (L + 1, osz) :: rest) → Q .next { s with heap := h', toks := tk }) :
   wpAny (model Challenge.rw_pe0060_01.row.prog w) (callerA.deeper (lawEnv L fa cd)) (exec cLater (lawEnv L fa cd)) Q (fun _ _ => False) s := by
  revert X
  k_fill
  intro X
  have B := below_caller H
  unfold cLater lawEnv lawScope
  refine Assign_zip (h₀ := H) (L := L) (by rfl) (by with_unfolding_all rfl) (by with_unfolding_all rfl) (by decide) (by rfl) (by decide) (by rfl) (by rfl) (by decide) (by rfl) (by rfl) (by rfl) ?_
  simp only [over] at F
  repeat' ((fail_if_success (with_reducible show wpAny _ _ (PySem.call (Value.type "zip") _ _) _ _ _)); first | walk1 | (dsimp only; walk1))
  rename Fr _ _ _ _ => kF
  rename News _ _ _ _ => kN
  rename_i D ws h₁ hI hC hL l1
  replace hI : IntsAre ws bnds := hI
  refine zip_rows (xs := bkv.toArray) (ys := ws.toArray) kF ⟨_, (kN _ (.tail _ (.head _))).1, rfl, _, rfl⟩ ⟨_, (kN _ (.head _)).1, rfl, _, rfl⟩ fun h' z TI TO i1 i2 D' st F' kk lz lTO li1 li2 hLs => ?_
  dsimp only at lz lTO li1 li2
  have big : ∀ c, h₁.objs.size ≤ c → c ≠ L ∧ H.get? c = none ∧ ∀ q ∈ (D, W.listOf ws.toArray 0) :: (bk, W.listOf bkv.toArray nk) :: (bd, W.listOf bdv.toArray nb) :: (L + 1 + 1, ok) :: (L + 1, osz) :: rest, q.1 ≠ c := fun c hc =>
    ⟨fun e => by rw [e] at hc; exact absurd kF.ns.lt (Nat.not_lt.mpr hc), by
      cases e : H.get? c with
      | none => rfl
      | some o => exact absurd (Heap.lt_size (kF.keep _ _ e)) (Nat.not_lt.mpr hc), fun q hq e => by
      have := Heap.lt_size (kN q hq).1
      rw [e] at this
      exact absurd this (Nat.not_lt.mpr hc)⟩
  have hmin : min bkv.toArray.size ws.toArray.size ≤ 10 := by
    have := hbk.length
    have e : bkv.toArray.size = brs.length := by simp [this]
    omega
  refine ⟨z, TI, TO, i1, i2, bk, D, bkv.toArray, ws.toArray, _, _, rfl, D', st, F', fun q hq => ⟨kk _ _ (kN q hq).1, (kN q hq).2⟩, ?_, Nat.le_trans hmin (by decide), fun i zs => IntsAre zs (laterTo brs bnds (sz + k) i), IntsAre.nil, ?_, ?_⟩
  · intro c hc
    simp only [List.mem_cons, List.not_mem_nil, or_false] at hc
    rcases hc with rfl | rfl | rfl | rfl
    · exact big _ lz
    · exact big _ lTO
    · exact big _ li1
    · exact big _ li2
  · intro i zs C m₂ h oC tk E' Z1 Z0 x v hi hz ex ey hoC ha hb Fh Nh z1 z0
    obtain ⟨x', tx, hx', rfl⟩ := ints_at hbk ex
    obtain ⟨y', ty, hy', rfl⟩ := ints_at hI ey
    have hxb := hb5 x' (List.mem_of_getElem? hx')
    refine zip_turn (rest := []) (cl := _) (by rfl) ha hb hoC X Fh (fun q hq => Nh q ?_) hk hsz hb1 hb2 hb3 hb4 hxb.1 hxb.2 (fun tk hc => z1 _ _ ?_) fun tk hc => z0 _ ?_
    · simp only [List.mem_cons, List.not_mem_nil, or_false] at hq ⊢
      rcases hq with e | e | e
      · exact .inl e
      · exact .inr (.inr (.inr (.inr (.inl e))))
      · exact .inr (.inr (.inr (.inr (.inr (.inl e)))))
    · show IntsAre (zs ++ [Value.int y' ty]) (laterTo brs bnds (sz + k) (i + 1))
      rw [later_yes hx' hy' hc]
      exact IntsAre.append hz (IntsAre.cons _ _ IntsAre.nil)
    · show IntsAre zs (laterTo brs bnds (sz + k) (i + 1))
      rw [later_no hx' hy' hc]
      exact hz
  · intro l h tk zs hz Fh Nh _
    have e : laterTo brs bnds (sz + k) (min bkv.toArray.size ws.toArray.size) = laterOf brs bnds (sz + k) := by
      unfold laterTo laterOf
      have h1 : bkv.toArray.size = brs.length := by simp [hbk.length]
      have h2 : ws.toArray.size = bnds.length := by simp [hI.length]
      rw [h1, h2, ← List.length_zip, List.take_length]
    rw [e] at hz
    refine hret _ _ _ _ hz Fh fun q hq => Nh q ?_
    rcases List.mem_cons.mp hq with rfl | hq
    · exact .head _
    · exact .tail _ (.tail _ hq)
end
end Mine
end
section
open PySem PySem.W PyProof.Rows
namespace Mine
theorem fresh37 : True ∧ True := by
  k_with_none
  first | (walk1; fail) | (w_top off; exact ⟨trivial, trivial⟩)
end Mine
end
section
open PySem PySem.W PyProof.Rows
namespace Mine
set_option maxRecDepth 100000
set_option maxHeartbeats 8000000
section
variable {w : World} {p : Program} {loose : List Str} {mean : ExcName → Option Value} {mg mb : Str → Option Value} {H : Heap} {L fa : Addr} {cd : Value} {m m₀ : Str → Option Value} {s : Shared} {rest : List (Addr × Obj)} {more : List Stmt} {Q : Flow → Shared → Prop} {ok osz : Obj} {bk bd : Addr} {bkv bdv : List Value} {nk nb : Nat} {brs bnds : List Int} {b0 sz k : Int} {t1 t2 tt : Tok} {text : Str}
theorem words21 : True := by
  k_with_none
  k_with "k_ne" => (refine neN ?_; (try dsimp only); first | with_reducible assumption | (refine Ne.symm ?_; with_reducible assumption))
  k_with "k_all" => with_reducible assumption
  k_with "ite" => first | (refine ite_pos (by with_reducible assumption) ?_) | (refine ite_neg (by with_reducible assumption) ?_)
  trivial
theorem later_K {m : Str → Option Value} (F : Fr H L s.heap m) (h1 : m (Str.ofString "brackets") = some (.ref bk)) (h2 : m (Str.ofString "bounds") = some (.ref bd)) (X : (hd.heap_39 w.params).In H) (T : Top p loose mean mg mb H)
   (N : News H L s.heap ((bk, W.listOf bkv.toArray nk) :: (bd, W.listOf bdv.toArray nb) :: (L + 1 + 1, ok) :: (L + 1, osz) :: rest)) (hbk : IntsAre bkv brs) (hbd : IntsAre bdv (b0 :: bnds)) (hl1 : brs.length ≤ 10) (hl2 : bnds.length ≤ 10)
   (hk : ok.data = .cell (some (.int k t2))) (hsz : osz.data = .cell (some (.int sz t1))) (hb1 : 0 ≤ sz) (hb2 : sz ≤ 10000) (hb3 : 0 ≤ k) (hb4 : k ≤ 10000) (hb5 : ∀ x ∈ brs, 0 ≤ x ∧ x ≤ 100000) {zl : List Int} (hzl : laterOf brs bnds (sz + k) = zl)
   (hret : ∀ h' tk l zs, IntsAre zs zl → Fr H L h' (fun y => if y = Str.ofString "later" then some (.ref l) else m y) →
     News H L h' ((l, LCg.lst zs) :: (bk, W.listOf bkv.toArray nk) :: (bd, W.listOf bdv.toArray nb) :: (L + 1 + 1, ok) :: (L + 1, osz) :: rest) → Q .next { s with heap := h', toks := tk }) :
   wpAny (model Challenge.rw_pe0060_01.row.prog w) (callerA.deeper (lawEnv L fa cd)) (exec cLater (lawEnv L fa cd)) Q (fun _ _ => False) s := by
  have e : over [(Str.ofString "brackets", Value.ref bk), (Str.ofString "bounds", .ref bd)] m = m := over_eq (by
    intro q hq
    simp only [List.mem_cons, List.not_mem_nil, or_false] at hq
    rcases hq with rfl | rfl
    · exact h1
    · exact h2)
  subst hzl
  refine later_c (m₀ := m) (by rw [e]; exact F) X T N hbk hbd hl1 hl2 hk hsz hb1 hb2 hb3 hb4 hb5 fun h' tk l zs hz F' N' => hret h' tk l zs hz ?_ N'
  have F2 : Fr H L h' (fun y => if y = Str.ofString "later" then some (.ref l) else over [(Str.ofString "brackets", Value.ref bk), (Str.ofString "bounds", .ref bd)] m y) := F'
  rw [e] at F2
  exact F2
theorem words22 : True := by
  k_with_none
  k_with "k_ne" => (refine neN ?_; (try dsimp only); first | with_reducible assumption | (refine Ne.symm ?_; with_reducible assumption))
  k_with "k_all" => with_reducible assumption
  k_with "ite" => first | (refine ite_pos (by with_reducible assumption) ?_) | (refine ite_neg (by with_reducible assumption) ?_)
  k_with "exec Assign cons ListComp" => (k_here; k_dflt (refine' later_K ?k1 ?kb ?kd ?k2 ?k3 ?k4 ?k5 ?k6 ?k7 ?k8 ?k9 ?l1 ?l2 ?l3 ?l4 ?l5 ?l6 ?l7 ?_; (case k1 => k_asm); (case kb => exact rfl); (case kd => exact rfl); (case k2 => k_asm); (case k3 => k_asm); (case k4 => k_asm); (case k5 => with_reducible assumption); (case k6 => with_reducible assumption); (case k7 => with_reducible assumption); (case k8 => with_reducible assumption); (case k9 => with_reducible assumption); (case l1 => with_reducible assumption); (case l2 => with_reducible assumption); (case l3 => with_reducible assumption); (case l4 => with_reducible assumption); (case l5 => with_reducible assumption); (case l6 => with_reducible assumption); (case l7 => with_reducible assumption)); intro h' tk' l' zs' hz' F' N'; (try k_sweep))
  trivial
theorem tC1a (F : Fr H L s.heap (over [(Str.ofString "text", .str text tt), (Str.ofString "brackets", .ref bk), (Str.ofString "bounds", .ref bd)] m₀)) (X : (hd.heap_39 w.params).In H) (T : Top p loose mean mg mb H)
   (N : News H L s.heap ((bk, W.listOf bkv.toArray nk) :: (bd, W.listOf bdv.toArray nb) :: (L + 1 + 1, ok) :: (L + 1, osz) :: rest)) (hbk : IntsAre bkv brs) (hbd : IntsAre bdv (b0 :: bnds)) (hl1 : brs.length ≤ 10) (hl2 : bnds.length ≤ 10)
   (hk : ok.data = .cell (some (.int k t2))) (hsz : osz.data = .cell (some (.int sz t1))) (hb1 : 0 ≤ sz) (hb2 : sz ≤ 10000) (hb3 : 0 ≤ k) (hb4 : k ≤ 10000) (hb5 : ∀ x ∈ brs, 0 ≤ x ∧ x ≤ 100000) (hlen : text.length ≤ 500)
   (h3 : ¬ (Txt.slice text (some k) (some (k + 3)) == Str.ofString "229") = true)
   (hret : ∀ h' tk td m', m' (Str.ofString "due") = some (.str (Str.ofString "another code") td) → (∀ x, x ≠ Str.ofString "due" → x ≠ Str.ofString "later" → m' x = (over [(Str.ofString "text", .str text tt), (Str.ofString "brackets", .ref bk), (Str.ofString "bounds", .ref bd)] m₀) x) → Fr H L h' m' →
     News H L h' ((bk, W.listOf bkv.toArray nk) :: (bd, W.listOf bdv.toArray nb) :: (L + 1 + 1, ok) :: (L + 1, osz) :: rest) →
     wpAny (model Challenge.rw_pe0060_01.row.prog w) (callerA.deeper (lawEnv L fa cd)) (execs more (lawEnv L fa cd)) Q (fun _ _ => False) { s with heap := h', toks := tk }) :
   wpAny (model Challenge.rw_pe0060_01.row.prog w) (callerA.deeper (lawEnv L fa cd)) (execs (cDue :: cIf :: more) (lawEnv L fa cd)) Q (fun _ _ => False) s := by
  revert X
  k_fill
  intro X
  have B := below_caller H
  unfold cDue cIf lawEnv lawScope
  simp only [over] at F
  k_steps
  · rename Fr _ _ _ _ => kF
    rename News _ _ _ _ => kN
    dsimp only
    exact hret _ _ _ _ (by rfl) (fun x h1 h2 => by simp only [over, if_neg h1, if_neg h2]) kF fun q hq => kN q hq
theorem tC1b (F : Fr H L s.heap (over [(Str.ofString "text", .str text tt), (Str.ofString "brackets", .ref bk), (Str.ofString "bounds", .ref bd)] m₀)) (X : (hd.heap_39 w.params).In H) (T : Top p loose mean mg mb H)
   (N : News H L s.heap ((bk, W.listOf bkv.toArray nk) :: (bd, W.listOf bdv.toArray nb) :: (L + 1 + 1, ok) :: (L + 1, osz) :: rest)) (hbk : IntsAre bkv brs) (hbd : IntsAre bdv (b0 :: bnds)) (hl1 : brs.length ≤ 10) (hl2 : bnds.length ≤ 10)
   (hk : ok.data = .cell (some (.int k t2))) (hsz : osz.data = .cell (some (.int sz t1))) (hb1 : 0 ≤ sz) (hb2 : sz ≤ 10000) (hb3 : 0 ≤ k) (hb4 : k ≤ 10000) (hb5 : ∀ x ∈ brs, 0 ≤ x ∧ x ≤ 100000) (hlen : text.length ≤ 500)
   (h3 : (Txt.slice text (some k) (some (k + 3)) == Str.ofString "229") = true) (hl : laterOf brs bnds (sz + k) = [])
   (hret : ∀ h' tk td m', m' (Str.ofString "due") = some (.str (Str.ofString "no port") td) → (∀ x, x ≠ Str.ofString "due" → x ≠ Str.ofString "later" → m' x = (over [(Str.ofString "text", .str text tt), (Str.ofString "brackets", .ref bk), (Str.ofString "bounds", .ref bd)] m₀) x) → Fr H L h' m' →
     News H L h' ((bk, W.listOf bkv.toArray nk) :: (bd, W.listOf bdv.toArray nb) :: (L + 1 + 1, ok) :: (L + 1, osz) :: rest) →
     wpAny (model Challenge.rw_pe0060_01.row.prog w) (callerA.deeper (lawEnv L fa cd)) (execs more (lawEnv L fa cd)) Q (fun _ _ => False) { s with heap := h', toks := tk }) :
   wpAny (model Challenge.rw_pe0060_01.row.prog w) (callerA.deeper (lawEnv L fa cd)) (execs (cDue :: cIf :: more) (lawEnv L fa cd)) Q (fun _ _ => False) s := by
  revert X
  k_fill
  intro X
  have B := below_caller H
  unfold cDue cIf lawEnv lawScope
  simp only [over] at F
  k_steps
  · rename Fr _ _ _ _ => kF
    rename News _ _ _ _ => kN
    dsimp only
    exact hret _ _ _ _ (by rfl) (fun x h1 h2 => by simp only [over, if_neg h1, if_neg h2]) kF fun q hq => kN q (.tail _ (.tail _ hq))
theorem tC1c (F : Fr H L s.heap (over [(Str.ofString "text", .str text tt), (Str.ofString "brackets", .ref bk), (Str.ofString "bounds", .ref bd)] m₀)) (X : (hd.heap_39 w.params).In H) (T : Top p loose mean mg mb H)
   (N : News H L s.heap ((bk, W.listOf bkv.toArray nk) :: (bd, W.listOf bdv.toArray nb) :: (L + 1 + 1, ok) :: (L + 1, osz) :: rest)) (hbk : IntsAre bkv brs) (hbd : IntsAre bdv (b0 :: bnds)) (hl1 : brs.length ≤ 10) (hl2 : bnds.length ≤ 10)
   (hk : ok.data = .cell (some (.int k t2))) (hsz : osz.data = .cell (some (.int sz t1))) (hb1 : 0 ≤ sz) (hb2 : sz ≤ 10000) (hb3 : 0 ≤ k) (hb4 : k ≤ 10000) (hb5 : ∀ x ∈ brs, 0 ≤ x ∧ x ≤ 100000) (hlen : text.length ≤ 500)
   (h3 : (Txt.slice text (some k) (some (k + 3)) == Str.ofString "229") = true) {e : Int} {zr : List Int} (he : e ≤ 100000) (he0 : 0 ≤ e) (hl : laterOf brs bnds (sz + k) = e :: zr)
   (hret : ∀ h' tk td m', m' (Str.ofString "due") = some (.int e td) → (∀ x, x ≠ Str.ofString "due" → x ≠ Str.ofString "later" → m' x = (over [(Str.ofString "text", .str text tt), (Str.ofString "brackets", .ref bk), (Str.ofString "bounds", .ref bd)] m₀) x) → Fr H L h' m' →
     News H L h' ((bk, W.listOf bkv.toArray nk) :: (bd, W.listOf bdv.toArray nb) :: (L + 1 + 1, ok) :: (L + 1, osz) :: rest) →
     wpAny (model Challenge.rw_pe0060_01.row.prog w) (callerA.deeper (lawEnv L fa cd)) (execs more (lawEnv L fa cd)) Q (fun _ _ => False) { s with heap := h', toks := tk }) :
   wpAny (model Challenge.rw_pe0060_01.row.prog w) (callerA.deeper (lawEnv L fa cd)) (execs (cDue :: cIf :: more) (lawEnv L fa cd)) Q (fun _ _ => False) s := by
  revert X
  k_fill
  intro X
  have B := below_caller H
  unfold cDue cIf lawEnv lawScope
  simp only [over] at F
  k_steps
  · rename decide _ = true => a1
    simp at a1
  · rename Fr _ _ _ _ => kF
    rename News _ _ _ _ => kN
    dsimp only
    exact hret _ _ _ _ (by rfl) (fun x h1 h2 => by simp only [over, if_neg h1, if_neg h2]) kF fun q hq => kN q (.tail _ (.tail _ hq))
end
end Mine
end
section
open PySem PySem.W PyProof.Rows
namespace Mine
theorem fresh38 : True ∧ True := by
  k_with_none
  first | (walk1; fail) | (w_top off; exact ⟨trivial, trivial⟩)
end Mine
end
section
open PySem PySem.W PyProof.Rows
namespace Mine
set_option maxRecDepth 100000
set_option maxHeartbeats 8000000
section
variable {w : World} {p : Program} {loose : List Str} {mean : ExcName → Option Value} {mg mb : Str → Option Value} {H : Heap} {L fa : Addr} {cd : Value} {m m₀ : Str → Option Value} {s : Shared} {rest : List (Addr × Obj)} {more : List Stmt} {Q : Flow → Shared → Prop} {ok osz : Obj} {bk bd : Addr} {bkv bdv : List Value} {nk nb : Nat} {brs bnds : List Int} {b0 sz k : Int} {t1 t2 tt : Tok} {text : Str}
theorem words23 : True := by
  k_with_none
  k_with "k_ne" => (refine neN ?_; (try dsimp only); first | with_reducible assumption | (refine Ne.symm ?_; with_reducible assumption))
  k_with "k_all" => with_reducible assumption
  k_with "ite" => first | (refine ite_pos (by with_reducible assumption) ?_) | (refine ite_neg (by with_reducible assumption) ?_)
  trivial
theorem port_S {c : Str} {r : Str} {t : Tok} {cn : Str} {nms : List (Str × NameKind)} {ig ic : Bool} {mr : List (Str × Const)} {a : Addr} {ccd : Value} {cl : List (Str × Addr)} {news : List (Addr × Obj)} {Q E : Value → Shared → Prop} (F : Fr H L s.heap m) (X : (hd.heap_39 w.params).In H) (N : News H L s.heap news) (T : Top p loose mean mg mb H) (hr : r.length ≤ 600)
   (hint : IntOk r) (hv : ∀ v, PVal r v → ∃ t, v = .str c t) (hret : ∀ h' tk t, Fr H L h' m → News H L h' news → Q (.str c t) { s with heap := h', toks := tk }) :
   wpAny (model Challenge.rw_pe0060_01.row.prog w) (callerA.deeper (envX cn (Scope.mk .function nms ig ic mr) L a ccd cl)) (call (.ref 156) [.str r t]) Q E s :=
  port_c F X N T hr hint fun h' tk v pv F' N' => by
    obtain ⟨t, rfl⟩ := hv v pv
    exact hret h' tk t F' N'
theorem port_I {e : Int} {r : Str} {t : Tok} {cn : Str} {nms : List (Str × NameKind)} {ig ic : Bool} {mr : List (Str × Const)} {a : Addr} {ccd : Value} {cl : List (Str × Addr)} {news : List (Addr × Obj)} {Q E : Value → Shared → Prop} (F : Fr H L s.heap m) (X : (hd.heap_39 w.params).In H) (N : News H L s.heap news) (T : Top p loose mean mg mb H) (hr : r.length ≤ 600)
   (hint : IntOk r) (hv : ∀ v, PVal r v → ∃ t, v = .int e t) (hret : ∀ h' tk t, Fr H L h' m → News H L h' news → Q (.int e t) { s with heap := h', toks := tk }) :
   wpAny (model Challenge.rw_pe0060_01.row.prog w) (callerA.deeper (envX cn (Scope.mk .function nms ig ic mr) L a ccd cl)) (call (.ref 156) [.str r t]) Q E s :=
  port_c F X N T hr hint fun h' tk v pv F' N' => by
    obtain ⟨t, rfl⟩ := hv v pv
    exact hret h' tk t F' N'
theorem words24 : True := by
  k_with_none
  k_with "k_ne" => (refine neN ?_; (try dsimp only); first | with_reducible assumption | (refine Ne.symm ?_; with_reducible assumption))
  k_with "k_all" => with_reducible assumption
  k_with "ite" => first | (refine ite_pos (by with_reducible assumption) ?_) | (refine ite_neg (by with_reducible assumption) ?_)
  k_with "call ref" => (k_here; k_dflt (refine' port_S ?k1 ?k2 ?k3 ?k4 ?k5 ?k6 ?k7 ?_; (case k1 => k_asm); (case k2 => k_asm); (case k3 => k_asm); (case k4 => k_asm); (case k5 => omega); (case k7 => with_reducible assumption); (case k6 => with_reducible assumption); k_whole); intro h' tk' t' F' N'; (try k_sweep))
  trivial
theorem tC2s {c : Str} {td : Tok} (F : Fr H L s.heap (over [(Str.ofString "due", .str c td), (Str.ofString "text", .str text tt)] m₀)) (X : (hd.heap_39 w.params).In H) (T : Top p loose mean mg mb H)
   (N : News H L s.heap ((L + 1 + 1, ok) :: rest)) (hk : ok.data = .cell (some (.int k t2))) (hb3 : 0 ≤ k) (hb4 : k ≤ 10000) (hlen : text.length ≤ 500) (hi : IntOk (Txt.slice text (some k) none)) (hv : ∀ v, PVal (Txt.slice text (some k) none) v → ∃ t, v = .str c t)
   (hret : ∀ h' tk, Fr H L h' (over [(Str.ofString "due", .str c td), (Str.ofString "text", .str text tt)] m₀) → News H L h' ((L + 1 + 1, ok) :: rest) →
     wpAny (model Challenge.rw_pe0060_01.row.prog w) (callerA.deeper (lawEnv L fa cd)) (execs more (lawEnv L fa cd)) Q (fun _ _ => False) { s with heap := h', toks := tk }) :
   wpAny (model Challenge.rw_pe0060_01.row.prog w) (callerA.deeper (lawEnv L fa cd)) (execs (cPort :: more) (lawEnv L fa cd)) Q (fun _ _ => False) s := by
  revert X
  k_fill
  intro X
  have B := below_caller H
  unfold cPort lawEnv lawScope
  simp only [over] at F
  k_steps
  · rename (_ != _) = true => a1
    simp at a1
  · dsimp only
    exact hret _ _ (by assumption) (by assumption)
theorem words25 : True := by
  k_with_none
  k_with "k_ne" => (refine neN ?_; (try dsimp only); first | with_reducible assumption | (refine Ne.symm ?_; with_reducible assumption))
  k_with "k_all" => with_reducible assumption
  k_with "ite" => first | (refine ite_pos (by with_reducible assumption) ?_) | (refine ite_neg (by with_reducible assumption) ?_)
  k_with "call ref" => (k_here; k_dflt (refine' port_S ?k1 ?k2 ?k3 ?k4 ?k5 ?k6 ?k7 ?_; (case k1 => k_asm); (case k2 => k_asm); (case k3 => k_asm); (case k4 => k_asm); (case k5 => omega); (case k7 => with_reducible assumption); (case k6 => with_reducible assumption); k_whole); intro h' tk' t' F' N'; (try k_sweep))
  k_with "call ref" => (k_here; k_dflt (refine' port_I ?k1 ?k2 ?k3 ?k4 ?k5 ?k6 ?k7 ?_; (case k1 => k_asm); (case k2 => k_asm); (case k3 => k_asm); (case k4 => k_asm); (case k5 => omega); (case k7 => with_reducible assumption); (case k6 => with_reducible assumption); k_whole); intro h' tk' t' F' N'; (try k_sweep))
  trivial
theorem tC2i {e : Int} {td : Tok} (F : Fr H L s.heap (over [(Str.ofString "due", .int e td), (Str.ofString "text", .str text tt)] m₀)) (X : (hd.heap_39 w.params).In H) (T : Top p loose mean mg mb H)
   (N : News H L s.heap ((L + 1 + 1, ok) :: rest)) (hk : ok.data = .cell (some (.int k t2))) (hb3 : 0 ≤ k) (hb4 : k ≤ 10000) (hlen : text.length ≤ 500) (hi : IntOk (Txt.slice text (some k) none)) (hv : ∀ v, PVal (Txt.slice text (some k) none) v → ∃ t, v = .int e t)
   (hret : ∀ h' tk, Fr H L h' (over [(Str.ofString "due", .int e td), (Str.ofString "text", .str text tt)] m₀) → News H L h' ((L + 1 + 1, ok) :: rest) →
     wpAny (model Challenge.rw_pe0060_01.row.prog w) (callerA.deeper (lawEnv L fa cd)) (execs more (lawEnv L fa cd)) Q (fun _ _ => False) { s with heap := h', toks := tk }) :
   wpAny (model Challenge.rw_pe0060_01.row.prog w) (callerA.deeper (lawEnv L fa cd)) (execs (cPort :: more) (lawEnv L fa cd)) Q (fun _ _ => False) s := by
  revert X
  k_fill
  intro X
  have B := below_caller H
  unfold cPort lawEnv lawScope
  simp only [over] at F
  k_steps
  · exfalso
    rename_i a1
    simp at a1
  · dsimp only
    exact hret _ _ (by assumption) (by assumption)
end
end Mine
end
section
open PySem PySem.W PyProof.Rows
namespace Mine
theorem fresh39 : True ∧ True := by
  k_with_none
  first | (walk1; fail) | (w_top off; exact ⟨trivial, trivial⟩)
end Mine
end
section
open PySem PySem.W PyProof.Rows
namespace Mine
set_option maxRecDepth 100000
set_option maxHeartbeats 1000000
theorem num_int {r : Str} {pre post : List Nat} {c : Nat} {p : Int} (h0 : 0 ≤ p) (h1 : p < 10 ^ 10) (hc : c ≠ 41) (hd : ∀ d ∈ dg p, 48 ≤ d ∧ d ≤ 57) (hcd : ¬ (48 ≤ c ∧ c ≤ 57)) (h : cs r = pre ++ 40 :: c :: c :: c :: (dg p ++ c :: 41 :: post)) (hp : 40 ∉ pre) : IntOk r := by
  have hcn : c ∉ dg p := fun q => hcd (hd c q)
  have h4 : 41 ∉ dg p := fun q => by have := hd _ q; omega
  have e1 : cs r = pre ++ 40 :: (c :: (c :: c :: (dg p ++ [c])) ++ 41 :: post) := by rw [h]; simp
  have hB : 41 ∉ c :: (c :: c :: (dg p ++ [c])) := by simp [h4, Ne.symm hc]
  have P := parts_split e1 hp hB (P := [[], [], [], dg p, []]) (by simp) (by simp [hcn]) (by simp [J])
  have key : ∀ y, (pParts r)[3]? = some y → PySem.intText? y = some p := fun y hy => by
    have h3 : ((pParts r).map cs)[3]? = some (cs y) := by simp [hy]
    rw [P] at h3
    have e : dg p = cs y := by simpa using h3
    have : y = Str.ofString (toString p) := cs_inj e.symm
    rw [this]
    exact KIN.num_reads h0 h1
  exact fun _ _ _ _ y hy => ⟨p, key y hy, h0, h1⟩
theorem later_rows (R : List (Int × Int)) (c : Int) : laterOf (R.map (·.1)) (R.map (·.2)) c = (R.filter fun p => decide (c ≤ p.1)).map (·.2) := by
  unfold laterOf
  have : (R.map (·.1)).zip (R.map (·.2)) = R := by
    induction R with
    | nil => rfl
    | cons x r ih => simp [ih]
  rw [this]
theorem rows_ge : ∀ {tl : List TE} {o : Int}, ∀ q ∈ rows o tl, o ≤ q.1 ∧ q.1 ≤ q.2 ∧ q.2 ≤ o + total tl
  | [], _, q, h => by cases h
  | e :: r, o, q, h => by
    have hf : 0 ≤ (e.f.length : Int) ∧ 0 ≤ (e.b.length : Int) := ⟨by omega, by omega⟩
    have ht : 0 ≤ total r := by rw [← textL_len]; omega
    simp only [total]
    rcases List.mem_cons.mp h with rfl | h
    · dsimp only; omega
    · have := rows_ge q h
      omega
theorem rows_shift (tl : List TE) {o c c' : Int} (h : c = c' ∨ (c ≤ o ∧ c' ≤ o)) : ((rows o tl).filter fun p => decide (c ≤ p.1)).map (·.2) = ((rows o tl).filter fun p => decide (c' ≤ p.1)).map (·.2) := by
  rcases h with rfl | ⟨h1, h2⟩
  · rfl
  · congr 1
    refine List.filter_congr fun q hq => ?_
    have := (rows_ge q hq).1
    rw [decide_eq_true (by omega), decide_eq_true (by omega)]
noncomputable def Numd (t : List Nat) (e : Int) : Prop := ∃ pre c post, t = pre ++ 40 :: c :: c :: c :: (dg e ++ c :: 41 :: post) ∧ 40 ∉ pre ∧ (c = 124 ∨ c = 33 ∨ c = 45 ∨ c = 47)
theorem Numd.pre {t : List Nat} {e : Int} {A : List Nat} (h : Numd t e) (hA : 40 ∉ A) : Numd (A ++ t) e := by
  obtain ⟨pre, c, post, rfl, h1, h2⟩ := h
  exact ⟨A ++ pre, c, post, by simp, by simp [hA, h1], h2⟩
theorem OpOk.no40 {f : Str} (h : OpOk f) : 40 ∉ cs f := by
  rcases h with h | h | h <;> rw [h] <;> decide
theorem drop_case : ∀ {tl : List TE} {o : Int} (k : Nat), 0 ≤ o → Shaped o tl →
    (((rows o tl).filter fun p => decide (o + (k : Int) ≤ p.1)).map (·.2) = [] ∧ 40 ∉ (textL tl).drop k) ∨
    ∃ e zr, ((rows o tl).filter fun p => decide (o + (k : Int) ≤ p.1)).map (·.2) = e :: zr ∧ Numd ((textL tl).drop k) e
  | [], o, k, _, _ => .inl ⟨rfl, by simp [textL]⟩
  | e :: r, o, k, h0, ⟨a1, ⟨m, hm, hb⟩, a3, a4⟩ => by
    obtain ⟨c, hc, hcc⟩ := hm.one
    have hbd : cs e.b = 40 :: c :: c :: c :: (dg (o + e.f.length + e.b.length) ++ [c, 41]) := by
      have := cs_bdy hc (o + e.f.length + e.b.length)
      rw [← hb] at this
      exact this
    have hdg := dg_digit (c := o + e.f.length + e.b.length) (by omega)
    have e0 : textL (e :: r) = cs e.f ++ (cs e.b ++ textL r) := by simp [textL]
    have el : (cs e.f).length = e.f.length := cs_len _
    have eb : (cs e.b).length = e.b.length := cs_len _
    by_cases hk : k ≤ e.f.length
    · refine .inr ⟨o + e.f.length + e.b.length, ((rows (o + e.f.length + e.b.length) r).filter fun p => decide (o + (k : Int) ≤ p.1)).map (·.2), ?_, ?_⟩
      · show (((o + e.f.length, o + e.f.length + e.b.length) :: rows _ r).filter _).map _ = _
        rw [List.filter_cons_of_pos (by simp; omega)]
        rfl
      · rw [e0, List.drop_append_of_le_length (by omega)]
        refine Numd.pre ⟨[], c, textL r, ?_, by simp, hcc⟩ fun q => a1.no40 (List.mem_of_mem_drop q)
        rw [hbd]; simp
    · have ek : textL (e :: r) = (cs e.f ++ cs e.b) ++ textL r := by rw [e0]; simp
      have h1 : 40 ∉ (cs e.f ++ cs e.b).drop k := by
        rw [List.drop_append, List.drop_eq_nil_of_le (by omega), List.nil_append, hbd]
        obtain ⟨j, hj⟩ : ∃ j, k - (cs e.f).length = j + 1 := ⟨k - (cs e.f).length - 1, by omega⟩
        rw [hj, List.drop_succ_cons]
        intro q
        have := List.mem_of_mem_drop q
        simp only [List.mem_cons, List.mem_append, List.not_mem_nil, or_false] at this
        rcases this with h | h | h | h | h | h
        · omega
        · omega
        · omega
        · have := hdg _ h; omega
        · omega
        · omega
      have hd : (textL (e :: r)).drop k = (cs e.f ++ cs e.b).drop k ++ (textL r).drop (k - (e.f.length + e.b.length)) := by
        rw [ek, List.drop_append, List.length_append, el, eb]
      have hf : ((rows o (e :: r)).filter fun p => decide (o + (k : Int) ≤ p.1)).map (·.2) = ((rows (o + e.f.length + e.b.length) r).filter fun p => decide (o + e.f.length + e.b.length + ((k - (e.f.length + e.b.length) : Nat) : Int) ≤ p.1)).map (·.2) := by
        show (((o + e.f.length, o + e.f.length + e.b.length) :: rows _ r).filter _).map _ = _
        rw [List.filter_cons_of_neg (by simp; omega)]
        exact rows_shift r (by omega)
      rw [hf, hd]
      rcases drop_case (k - (e.f.length + e.b.length)) (by omega) a4 with ⟨h2, h3⟩ | ⟨x, zr, h2, h3⟩
      · exact .inl ⟨h2, by rw [List.mem_append]; exact fun q => q.elim h1 h3⟩
      · exact .inr ⟨x, zr, h2, h3.pre h1⟩
theorem Numd.port {r : Str} {p : Int} (h : Numd (cs r) p) (h0 : 0 ≤ p) (h1 : p < 10 ^ 10) : IntOk r ∧ ((cs r).take 3 = three → ∀ v, PVal r v → ∃ t, v = .int p t) := by
  obtain ⟨pre, c, post, e, hp, hc⟩ := h
  have hd := dg_digit h0
  exact ⟨num_int h0 h1 (by omega) hd (by omega) e hp, fun ht => (num_shape h0 h1 (by omega) hd (by omega) e hp ht).2⟩
end Mine
end
section
open PySem PySem.W PyProof.Rows
namespace Mine
theorem fresh40 : True ∧ True := by
  k_with_none
  first | (walk1; fail) | (w_top off; exact ⟨trivial, trivial⟩)
end Mine
end
section
open PySem PySem.W PyProof.Rows
namespace Mine
set_option maxRecDepth 100000
set_option maxHeartbeats 8000000
section
variable {w : World} {p : Program} {loose : List Str} {mean : ExcName → Option Value} {mg mb : Str → Option Value} {H : Heap} {L fa : Addr} {cd : Value} {m m₀ : Str → Option Value} {s : Shared} {rest : List (Addr × Obj)} {Q : Flow → Shared → Prop} {ok osz : Obj} {bk bd : Addr} {bkv bdv : List Value} {nk nb : Nat} {tl : List TE} {size : Int} {t1 t2 tt : Tok}
noncomputable abbrev nmC (bk bd : Addr) (tl : List TE) (tt : Tok) : List (Str × Value) := [(Str.ofString "text", .str (textOf tl) tt), (Str.ofString "brackets", .ref bk), (Str.ofString "bounds", .ref bd)]
theorem three_iff {x : Str} {k : Nat} (h : k ≤ x.length) : (Txt.slice x (some (k : Int)) (some ((k : Int) + 3)) == Str.ofString "229") = true ↔ ((cs x).drop k).take 3 = three := by
  rw [beq_iff_eq, ← sl_three x k h, ← cs_229]
  exact ⟨fun e => by rw [e], fun e => cs_inj e⟩
theorem rows_hi {tl : List TE} {o : Int} (hs : Shaped o tl) (hl : tl.length ≤ 7) (h0 : 0 ≤ o) (h1 : o ≤ 2250) : ∀ q ∈ rows o tl, 0 ≤ q.1 ∧ q.1 ≤ 100000 ∧ 0 ≤ q.2 ∧ q.2 ≤ 100000 := fun q hq => by
  have a := rows_ge q hq
  have b := total_bounds hs
  omega
theorem turnC_c (F : Fr H L s.heap m) (hnm : ∀ p ∈ nmC bk bd tl tt, m p.1 = some p.2) (X : (hd.heap_39 w.params).In H) (T : Top p loose mean mg mb H)
   (N : News H L s.heap ((bk, W.listOf bkv.toArray nk) :: (bd, W.listOf bdv.toArray nb) :: (L + 1 + 1, ok) :: (L + 1, osz) :: rest)) (hbk : IntsAre bkv (brsOf size tl)) (hbd : IntsAre bdv (bndsOf size tl)) (hl : tl.length ≤ 7) (hsh : Shaped size tl)
   {k : Nat} (hk : ok.data = .cell (some (.int (k : Int) t2))) (hsz : osz.data = .cell (some (.int size t1))) (hs0 : 0 ≤ size) (hs1 : size ≤ 2250) (hkl : k ≤ (textOf tl).length)
   (hret : ∀ h' tk m', (∀ p ∈ nmC bk bd tl tt, m' p.1 = some p.2) → (∀ x, x ≠ Str.ofString "due" → x ≠ Str.ofString "later" → m' x = m x) → Fr H L h' m' →
     News H L h' ((bk, W.listOf bkv.toArray nk) :: (bd, W.listOf bdv.toArray nb) :: (L + 1 + 1, ok) :: (L + 1, osz) :: rest) → Q .next { s with heap := h', toks := tk }) :
   wpAny (model Challenge.rw_pe0060_01.row.prog w) (callerA.deeper (lawEnv L fa cd)) (execs bodyC (lawEnv L fa cd)) Q (fun _ _ => False) s := by
  have hov : over (nmC bk bd tl tt) m = m := over_eq hnm
  have htb := total_bounds hsh
  have hlen : ((textOf tl).length : Int) = total tl := textOf_len tl
  have hk1 : (k : Int) ≤ 10000 := by omega
  have hk0 : 0 ≤ (k : Int) := by omega
  have hrl : (rows size tl).length ≤ 7 := by rw [rows_len]; exact hl
  have hl1 : (brsOf size tl).length ≤ 10 := by simp only [brsOf, List.length_map]; omega
  have hl2 : ((rows size tl).map (·.2)).length ≤ 10 := by simp only [List.length_map]; omega
  have hhi := rows_hi hsh hl hs0 hs1
  have hb5 : ∀ x ∈ brsOf size tl, 0 ≤ x ∧ x ≤ 100000 := fun x hx => by
    obtain ⟨q, hq, rfl⟩ := List.mem_map.mp hx
    exact ⟨(hhi q hq).1, (hhi q hq).2.1⟩
  have hF : cs (Txt.slice (textOf tl) (some (k : Int)) none) = (textL tl).drop k := by rw [sl_from _ _ hkl]; rfl
  have ht3 := three_iff (x := textOf tl) hkl
  rw [cs_textOf] at ht3
  have hnm' : ∀ m' : Str → Option Value, (∀ x, x ≠ Str.ofString "due" → x ≠ Str.ofString "later" → m' x = over (nmC bk bd tl tt) m x) → (∀ x, x ≠ Str.ofString "due" → x ≠ Str.ofString "later" → m' x = m x) ∧ ∀ p ∈ nmC bk bd tl tt, m' p.1 = some p.2 := fun m' h => by
    rw [hov] at h
    refine ⟨h, fun q hq => ?_⟩
    rw [← hnm q hq]
    simp only [List.mem_cons, List.not_mem_nil, or_false] at hq
    rcases hq with rfl | rfl | rfl <;> exact h _ (by dsimp only; decide) (by dsimp only; decide)
  have hov2 : ∀ (m' : Str → Option Value) (v : Value), m' (Str.ofString "due") = some v → (∀ p ∈ nmC bk bd tl tt, m' p.1 = some p.2) → over [(Str.ofString "due", v), (Str.ofString "text", .str (textOf tl) tt)] m' = m' := fun m' v h1 h2 => over_eq fun q hq => by
    simp only [List.mem_cons, List.not_mem_nil, or_false] at hq
    rcases hq with rfl | rfl
    · exact h1
    · exact h2 _ (.head _)
  have N2 : ∀ h' : Heap, News H L h' ((bk, W.listOf bkv.toArray nk) :: (bd, W.listOf bdv.toArray nb) :: (L + 1 + 1, ok) :: (L + 1, osz) :: rest) → News H L h' ((L + 1 + 1, ok) :: (bk, W.listOf bkv.toArray nk) :: (bd, W.listOf bdv.toArray nb) :: (L + 1, osz) :: rest) := fun h' N q hq => N q (by
    simp only [List.mem_cons] at hq ⊢
    rcases hq with h | h | h | h | h <;> simp [h])
  have N3 : ∀ h' : Heap, News H L h' ((L + 1 + 1, ok) :: (bk, W.listOf bkv.toArray nk) :: (bd, W.listOf bdv.toArray nb) :: (L + 1, osz) :: rest) → News H L h' ((bk, W.listOf bkv.toArray nk) :: (bd, W.listOf bdv.toArray nb) :: (L + 1 + 1, ok) :: (L + 1, osz) :: rest) := fun h' N q hq => N q (by
    simp only [List.mem_cons] at hq ⊢
    rcases hq with h | h | h | h | h <;> simp [h])
  have lr := later_rows (rows size tl) (size + (k : Int))
  rw [bodyC_eq]
  rw [← hov] at F
  have fin : ∀ h' (tk' : Nat) m', (∀ p ∈ nmC bk bd tl tt, m' p.1 = some p.2) → (∀ x, x ≠ Str.ofString "due" → x ≠ Str.ofString "later" → m' x = m x) → Fr H L h' m' →
     News H L h' ((bk, W.listOf bkv.toArray nk) :: (bd, W.listOf bdv.toArray nb) :: (L + 1 + 1, ok) :: (L + 1, osz) :: rest) → wpAny (model Challenge.rw_pe0060_01.row.prog w) (callerA.deeper (lawEnv L fa cd)) (execs [] (lawEnv L fa cd)) Q (fun _ _ => False) { s with heap := h', toks := tk' } :=
    fun h' tk' m' a1 a2 a3 a4 => wpAny_execs_nil (hret h' tk' m' a1 a2 a3 a4)
  by_cases h3 : ((textL tl).drop k).take 3 = three
  · rcases drop_case (tl := tl) (o := size) k hs0 hsh with ⟨hl', h40⟩ | ⟨e, zr, hl', hnum⟩
    · refine tC1b (m₀ := m) (rest := rest) F X T N hbk hbd hl1 hl2 hk hsz hs0 (by omega) hk0 hk1 hb5 (by omega) (ht3.mpr h3) (lr.trans hl') fun h' tk td m' hdue hoff F' N' => ?_
      obtain ⟨a1, a2⟩ := hnm' m' hoff
      have hno := no_open (r := Txt.slice (textOf tl) (some (k : Int)) none) (by rw [hF]; exact h40)
      refine tC2s (s := { s with heap := h', toks := tk }) (m₀ := m') (by rw [hov2 m' _ hdue a2]; exact F') X T (N2 h' N') hk hk0 hk1 (by omega) (intOk_none hno) (fun v pv => tells_none (by rw [hF]; exact h3) hno pv) fun h'' tk' F'' N'' => ?_
      rw [hov2 m' _ hdue a2] at F''
      exact fin h'' tk' m' a2 a1 F'' (N3 h'' N'')
    · have he : e ∈ (rows size tl).map (·.2) := by
        have : e ∈ ((rows size tl).filter fun p => decide (size + (k : Int) ≤ p.1)).map (·.2) := by rw [hl']; exact .head _
        obtain ⟨q, hq, rfl⟩ := List.mem_map.mp this
        exact List.mem_map_of_mem (List.mem_filter.mp hq).1
      obtain ⟨q, hq, rfl⟩ := List.mem_map.mp he
      have hqb := hhi q hq
      refine tC1c (m₀ := m) (rest := rest) F X T N hbk hbd hl1 hl2 hk hsz hs0 (by omega) hk0 hk1 hb5 (by omega) (ht3.mpr h3) hqb.2.2.2 hqb.2.2.1 (lr.trans hl') fun h' tk td m' hdue hoff F' N' => ?_
      obtain ⟨a1, a2⟩ := hnm' m' hoff
      have hp := Numd.port (r := Txt.slice (textOf tl) (some (k : Int)) none) (by rw [hF]; exact hnum) hqb.2.2.1 (by omega)
      refine tC2i (s := { s with heap := h', toks := tk }) (m₀ := m') (by rw [hov2 m' _ hdue a2]; exact F') X T (N2 h' N') hk hk0 hk1 (by omega) hp.1 (hp.2 (by rw [hF]; exact h3)) fun h'' tk' F'' N'' => ?_
      rw [hov2 m' _ hdue a2] at F''
      exact fin h'' tk' m' a2 a1 F'' (N3 h'' N'')
  · refine tC1a (m₀ := m) (rest := rest) F X T N hbk hbd hl1 hl2 hk hsz hs0 (by omega) hk0 hk1 hb5 (by omega) (fun q => h3 (ht3.mp q)) fun h' tk td m' hdue hoff F' N' => ?_
    obtain ⟨a1, a2⟩ := hnm' m' hoff
    have hint : IntOk (Txt.slice (textOf tl) (some (k : Int)) none) := by
      rcases drop_case (tl := tl) (o := size) k hs0 hsh with ⟨hl', h40⟩ | ⟨e, zr, hl', hnum⟩
      · exact intOk_none (no_open (by rw [hF]; exact h40))
      · have he : e ∈ (rows size tl).map (·.2) := by
          have : e ∈ ((rows size tl).filter fun p => decide (size + (k : Int) ≤ p.1)).map (·.2) := by rw [hl']; exact .head _
          obtain ⟨q, hq, rfl⟩ := List.mem_map.mp this
          exact List.mem_map_of_mem (List.mem_filter.mp hq).1
        obtain ⟨q, hq, rfl⟩ := List.mem_map.mp he
        have hqb := hhi q hq
        exact (Numd.port (r := Txt.slice (textOf tl) (some (k : Int)) none) (by rw [hF]; exact hnum) hqb.2.2.1 (by omega)).1
    refine tC2s (s := { s with heap := h', toks := tk }) (m₀ := m') (by rw [hov2 m' _ hdue a2]; exact F') X T (N2 h' N') hk hk0 hk1 (by omega) hint (fun v pv => tells_code (by rw [hF]; exact h3) pv) fun h'' tk' F'' N'' => ?_
    rw [hov2 m' _ hdue a2] at F''
    exact fin h'' tk' m' a2 a1 F'' (N3 h'' N'')
end
end Mine
end
section
open PySem PySem.W PyProof.Rows
namespace Mine
theorem fresh41 : True ∧ True := by
  k_with_none
  first | (walk1; fail) | (w_top off; exact ⟨trivial, trivial⟩)
end Mine
end
section
open PySem PySem.W PyProof.Rows
namespace Mine
set_option maxRecDepth 100000
set_option maxHeartbeats 8000000
section
variable {w : World} {p : Program} {loose : List Str} {mean : ExcName → Option Value} {mg mb : Str → Option Value} {H : Heap} {L fa : Addr} {cd : Value} {m m₀ : Str → Option Value} {s : Shared} {rest : List (Addr × Obj)} {Q : Flow → Shared → Prop} {ok osz : Obj} {bk bd : Addr} {bkv bdv : List Value} {nk nb : Nat} {tl : List TE} {size : Int} {t1 t2 tt : Tok}
theorem rangeN (n : Nat) (h1 : n ≤ 10000) : Builtin.Range.small 0 (n : Int) 1 = true ∧ Builtin.Range.rangeSize 0 (n : Int) 1 = (n : Int) := by
  have e : Builtin.Range.rangeSize 0 (n : Int) 1 = (n : Int) := by
    unfold Builtin.Range.rangeSize
    rw [if_pos (by decide)]
    simp only [Int.ediv_one]
    split <;> omega
  refine ⟨?_, e⟩
  unfold Builtin.Range.small
  rw [e]
  unfold Builtin.Range.rangeFitsLong
  simp
  omega
theorem iterC_c {Q : Value → Shared → Prop} (F : Fr H L s.heap (over [(Str.ofString "text", .str (textOf tl) tt)] m₀)) (X : (hd.heap_39 w.params).In H) (N : News H L s.heap rest) (T : Top p loose mean mg mb H) (hl : (textOf tl).length ≤ 500)
   (hret : ∀ h' tk r t u v, IsRange h' r 0 (((textOf tl).length : Int) + 1) 1 t u v → Fr H L h' (over [(Str.ofString "text", .str (textOf tl) tt)] m₀) → News H L h' rest → Q (.ref r) { s with heap := h', toks := tk }) :
   wpAny (model Challenge.rw_pe0060_01.row.prog w) (callerA.deeper (lawEnv L fa cd)) (eval iterC (lawEnv L fa cd)) Q (fun _ _ => False) s := by
  revert X
  k_fill
  intro X
  have B := below_caller H
  unfold iterC lawEnv lawScope
  simp only [over] at F
  k_steps
  exact hret _ _ _ _ _ _ (by assumption) (by assumption) (by assumption)
noncomputable abbrev ledC (L : Addr) (bk bd : Addr) (bkv : List Value) (nk : Nat) (bdv : List Value) (nb : Nat) (ok osz : Obj) (rest : List (Addr × Obj)) : List (Addr × Obj) := (bk, W.listOf bkv.toArray nk) :: (bd, W.listOf bdv.toArray nb) :: (L + 1 + 1, ok) :: (L + 1, osz) :: rest
theorem forC_c (F : Fr H L s.heap m₀) (hnm : ∀ p ∈ nmC bk bd tl tt, m₀ p.1 = some p.2) (X : (hd.heap_39 w.params).In H) (T : Top p loose mean mg mb H)
   (N : News H L s.heap (ledC L bk bd bkv nk bdv nb ok osz rest)) (hbk : IntsAre bkv (brsOf size tl)) (hbd : IntsAre bdv (bndsOf size tl)) (hl : tl.length ≤ 7) (hsh : Shaped size tl) (hg : AllBare s.gens)
   {v₀ : Option Value} (hk : ok.data = .cell v₀) (hsz : osz.data = .cell (some (.int size t1))) (hs0 : 0 ≤ size) (hs1 : size ≤ 2250) (c1 : bk ≠ L + 1 + 1) (c2 : bd ≠ L + 1 + 1) (c3 : ∀ q ∈ rest, q.1 ≠ L + 1 + 1)
   (hret : ∀ s' m' ok' v', ok'.data = .cell v' → (∀ x, x ≠ Str.ofString "due" → x ≠ Str.ofString "later" → m' x = m₀ x) → Fr H L s'.heap m' →
     News H L s'.heap (ledC L bk bd bkv nk bdv nb ok' osz rest) → AllBare s'.gens → s'.os = s.os → Q .next s') :
   wpAny (model Challenge.rw_pe0060_01.row.prog w) (callerA.deeper (lawEnv L fa cd)) (exec forC (lawEnv L fa cd)) Q (fun _ _ => False) s := by
  have htb := total_bounds hsh
  have hlen : ((textOf tl).length : Int) = total tl := textOf_len tl
  have hR := rangeN ((textOf tl).length + 1) (by omega)
  have ecast : (((textOf tl).length + 1 : Nat) : Int) = ((textOf tl).length : Int) + 1 := by omega
  rw [ecast] at hR
  have hov : over [(Str.ofString "text", Value.str (textOf tl) tt)] m₀ = m₀ := over_eq fun q hq => by
    simp only [List.mem_cons, List.not_mem_nil, or_false] at hq
    rw [hq]
    exact hnm _ (.head _)
  unfold forC
  refine for_range (h₀ := H) (os₀ := s.os) (Q := Q) (n := (textOf tl).length + 1) (by rfl) (fun I v => by rfl)
    (fun j m led => (∀ x, x ≠ Str.ofString "due" → x ≠ Str.ofString "later" → m x = m₀ x) ∧ ∃ ok v, led = ledC L bk bd bkv nk bdv nb ok osz rest ∧ ok.data = .cell v)
    hR.1 (hR.2.trans ecast.symm) ?it ?step ?done
  case it =>
    refine iterC_c (m₀ := m₀) (by rw [hov]; exact F) X N T (by omega) fun h' tk r t u v hr F' N' => ?_
    rw [hov] at F'
    exact ⟨r, t, u, v, m₀, _, rfl, hr, F', N', hg, rfl, (fun _ _ _ => rfl), ok, v₀, rfl, hk⟩
  case done =>
    rintro s' m' led ⟨hn, ok', v', rfl, hk'⟩ F' N' G' o'
    exact hret s' m' ok' v' hk' hn F' N' G' o'
  case step =>
    rintro i m₁ led s₁ own I t hi ⟨hn, ok', v', rfl, hk'⟩ off hown hcls F₁ N₁ G₁ o₁
    have o3 : L + 1 + 1 ∉ [I] := off (L + 1 + 1, ok') (.tail _ (.tail _ (.head _)))
    refine wpAny_assign_Name ?_
    refine storeX_C (g := fun o => ledC L bk bd bkv nk bdv nb o osz (rest ++ own)) F₁ N₁ (by rfl) (.tail c1 (.tail c2 (.head ?_))) hk' (fun h' o' F₂ N₂ ho' => ?_) (by rfl) (by rfl)
    · intro q hq
      rcases List.mem_cons.mp hq with rfl | hq
      · show L + 1 ≠ L + 1 + 1
        exact Nat.ne_of_lt (Nat.lt_succ_self _)
      · rcases List.mem_append.mp hq with hq | hq
        · exact c3 q hq
        · exact fun e => o3 (e ▸ hown q hq)
    rw [show (0 : Int) + (i : Int) * 1 = (i : Int) by omega] at ho'
    have hnm₁ : ∀ m' : Str → Option Value, (∀ x, x ≠ Str.ofString "due" → x ≠ Str.ofString "later" → m' x = m₀ x) → ∀ q ∈ nmC bk bd tl tt, m' q.1 = some q.2 := fun m' h q hq => by
      rw [← hnm q hq]
      simp only [List.mem_cons, List.not_mem_nil, or_false] at hq
      rcases hq with rfl | rfl | rfl <;> exact h _ (by dsimp only; decide) (by dsimp only; decide)
    refine turnC_c (s := { s₁ with heap := h' }) (rest := rest ++ own) F₂ (hnm₁ m₁ hn) X T N₂ hbk hbd hl hsh ho' hsz hs0 hs1 (by omega) fun h'' tk m' a1 a2 F' N' => ?_
    refine ⟨m', ledC L bk bd bkv nk bdv nb o' osz rest, ⟨fun x h1 h2 => (a2 x h1 h2).trans (hn x h1 h2), o', _, rfl, ho'⟩, F', N', ?_, G₁, o₁⟩
    intro q hq
    rcases List.mem_cons.mp hq with rfl | hq
    · exact off (bk, W.listOf bkv.toArray nk) (.head _)
    rcases List.mem_cons.mp hq with rfl | hq
    · exact off (bd, W.listOf bdv.toArray nb) (.tail _ (.head _))
    rcases List.mem_cons.mp hq with rfl | hq
    · exact o3
    · exact off q (.tail _ (.tail _ (.tail _ hq)))
end
end Mine
end
section
open PySem PySem.W PyProof.Rows
namespace Mine
theorem fresh42 : True ∧ True := by
  k_with_none
  first | (walk1; fail) | (w_top off; exact ⟨trivial, trivial⟩)
end Mine
end
section
open PySem PySem.W PyProof.Rows
namespace Mine
set_option maxRecDepth 100000
set_option maxHeartbeats 8000000
section
variable {w : World} {p : Program} {loose : List Str} {mean : ExcName → Option Value} {mg mb : Str → Option Value} {H : Heap} {L fa : Addr} {cd : Value} {m m₀ : Str → Option Value} {s : Shared} {rest : List (Addr × Obj)} {more : List Stmt} {Q : Flow → Shared → Prop} {ok osz : Obj} {row dx bd : Addr} {bdv : List Value} {n nb : Nat} {tl : List TE} {size : Int} {tk₀ tk₁ t1 t2 tt : Tok} {e : TE} {ps : Array Value}
theorem words26 : True := by
  k_with_none
  k_with "k_inst" => (refine' inst_row ?N ?h1 ?h2; (case N => k_asm); (case h1 => k_mem); (case h2 => k_mem))
  k_with "k_ne" => (refine neN ?_; (try dsimp only); first | with_reducible assumption | (refine Ne.symm ?_; with_reducible assumption))
  k_with "k_all" => with_reducible assumption
  k_with "getMethod ref" => (k_here; k_dflt (refine' method_own ?k1 ?k2 ?k3 ?k4 ?k5 ?k6 ?k7 ?k8 ?k9 ?_; (case k1 => k_in); (case k2 => k_inst); (case k3 => k_is); (case k4 => decide +kernel); (case k5 => k_is); (case k6 => k_is); (case k7 => k_is); (case k8 => decide +kernel); (case k9 => rfl); k_whole))
  k_with "call ref" => (k_here; k_dflt (refine' pop_TL ?k1 ?k2 ?k3 ?k4 ?k5 ?k6 ?k7 ?k8 ?_; (case k1 => k_asm); (case k2 => k_asm); (case k3 => k_asm); (case k4 => k_asm); (case k5 => k_updF); (case k6 => k_mem); (case k7 => with_reducible assumption); (case k8 => omega); k_whole); intro h' tk' F' N'; (try dsimp only at N'); (try k_sweep))
  trivial
theorem tD1 (F : Fr H L s.heap (over [(Str.ofString "row", .ref row)] m₀)) (X : (hd.heap_39 w.params).In H) (T : Top p loose mean mg mb H)
   (N : News H L s.heap ((row, rowObj (itemsOf (tl ++ [e])) n dx) :: (dx, dictOf [dEnt w.params size tk₀ tk₁] 1) :: (e.T, tupObj (.str e.f e.tf) (.str e.b e.tb)) :: rest)) (htl : tl.length ≤ 70) (n1 : row ≠ dx) (n2 : row ≠ e.T) (nr : ∀ p ∈ rest, p.1 ≠ row)
   (hret : ∀ h' tk, Fr H L h' (over [(Str.ofString "back", .str e.b e.tb), (Str.ofString "front", .str e.f e.tf), (Str.ofString "row", .ref row)] m₀) → News H L h' ((row, rowObj (itemsOf tl) (n + 1) dx) :: (dx, dictOf [dEnt w.params size tk₀ tk₁] 1) :: (e.T, tupObj (.str e.f e.tf) (.str e.b e.tb)) :: rest) → wpAny (model Challenge.rw_pe0060_01.row.prog w) (callerA.deeper (lawEnv L fa cd)) (execs more (lawEnv L fa cd)) Q (fun _ _ => False) { s with heap := h', toks := tk }) :
   wpAny (model Challenge.rw_pe0060_01.row.prog w) (callerA.deeper (lawEnv L fa cd)) (execs (dPop :: more) (lawEnv L fa cd)) Q (fun _ _ => False) s := by
  revert X
  k_fill
  intro X
  have B := below_caller H
  unfold dPop lawEnv lawScope
  simp only [over] at F
  k_steps
  dsimp only
  exact hret _ _ (by assumption) (by assumption)
end
end Mine
end
section
open PySem PySem.W PyProof.Rows
namespace Mine
theorem fresh43 : True ∧ True := by
  k_with_none
  first | (walk1; fail) | (w_top off; exact ⟨trivial, trivial⟩)
end Mine
end
section
open PySem PySem.W PyProof.Rows
namespace Mine
set_option maxRecDepth 100000
set_option maxHeartbeats 8000000
section
variable {w : World} {p : Program} {loose : List Str} {mean : ExcName → Option Value} {mg mb : Str → Option Value} {H : Heap} {L fa : Addr} {cd : Value} {m m₀ : Str → Option Value} {s : Shared} {rest : List (Addr × Obj)} {more : List Stmt} {Q : Flow → Shared → Prop} {ok osz : Obj} {row dx bd : Addr} {bdv : List Value} {n nb : Nat} {tl : List TE} {size : Int} {tk₀ tk₁ t1 t2 tt : Tok} {e : TE} {ps : Array Value}
theorem words27 : True := by
  k_with_none
  k_with "k_inst" => (refine' inst_row ?N ?h1 ?h2; (case N => k_asm); (case h1 => k_mem); (case h2 => k_mem))
  k_with "k_ne" => (refine neN ?_; (try dsimp only); first | with_reducible assumption | (refine Ne.symm ?_; with_reducible assumption))
  k_with "k_all" => with_reducible assumption
  k_with "getMethod ref" => (k_here; k_dflt (refine' method_own ?k1 ?k2 ?k3 ?k4 ?k5 ?k6 ?k7 ?k8 ?k9 ?_; (case k1 => k_in); (case k2 => k_inst); (case k3 => k_is); (case k4 => decide +kernel); (case k5 => k_is); (case k6 => k_is); (case k7 => k_is); (case k8 => decide +kernel); (case k9 => rfl); k_whole))
  k_with "call builtin:len" => (k_here; (with_reducible show wpAny _ _ (call (Value.builtin "len") [Value.ref _]) _ _ _); k_dflt (refine' len_TL ?k1 ?k2 ?k3 ?k4 ?k5 ?k6 ?k7 ?k8 ?k9 ?l1 ?l2 ?l3 ?l4 ?l5 ?l6 ?l7 ?l8 ?_; (case k1 => k_asm); (case k2 => k_asm); (case k3 => k_asm); (case k4 => k_asm); (case k5 => k_updF); (case k6 => k_mem); (case k7 => k_mem); (case k8 => with_reducible assumption); (case k9 => omega); (case l1 => assumption); (case l2 => assumption); (case l3 => assumption); (case l4 => assumption); (case l5 => assumption); (case l6 => assumption); (case l7 => exact fun e he => by repeat (first | exact (by assumption : ∀ e ∈ _, TE.ent e ∈ _) e he | apply List.Mem.tail)); (case l8 => assumption); k_whole); intro s' t' ps' hp' F' N' hb' ho'; (try dsimp only at N'); (try k_sweep))
  k_with "call ref" => (k_here; k_dflt (refine' pcnt_K ?k1 ?k2 ?k3 ?k4 ?k5 ?k6 ?k7 ?k8 ?_; (case k1 => k_asm); (case k2 => k_asm); (case k3 => k_asm); (case k4 => k_asm); (case k5 => k_updF); (case k6 => k_mem); (case k7 => with_reducible assumption); (case k8 => (rw [items_size]; omega)); k_whole); intro h' tk' t' F' N'; (try dsimp only at N'); (try k_sweep))
  k_with "call ref" => (k_here; k_dflt (refine' port_I ?k1 ?k2 ?k3 ?k4 ?k5 ?k6 ?k7 ?_; (case k1 => k_asm); (case k2 => k_asm); (case k3 => k_asm); (case k4 => k_asm); (case k5 => (rw [Str.length_append]; omega)); (case k7 => with_reducible assumption); (case k6 => with_reducible assumption); k_whole); intro h' tk' t' F' N'; (try k_sweep))
  trivial
theorem tD2 {bs : List Int} {k b c : Int} (F : Fr H L s.heap (over [(Str.ofString "row", .ref row), (Str.ofString "bounds", .ref bd), (Str.ofString "front", .str e.f e.tf), (Str.ofString "back", .str e.b e.tb)] m₀)) (X : (hd.heap_39 w.params).In H) (T : Top p loose mean mg mb H)
   (N : News H L s.heap ((row, rowObj (itemsOf tl) n dx) :: (dx, dictOf [dEnt w.params size tk₀ tk₁] 1) :: (107, tabObj ps) :: (bd, W.listOf bdv.toArray nb) :: (L + 1 + 1, ok) :: rest)) (htl : tl.length ≤ 7) (hps : TabOk 48 19 ps) (hg : AllBare s.gens) (htup : ∀ e ∈ tl, e.ent ∈ rest) (hlen : ∀ e ∈ tl, e.f.length + e.b.length ≤ 100)
   (hk : ok.data = .cell (some (.int k t2))) (hkk : k = tl.length + 1) (hbd : IntsAre bdv bs) (hbl : bs.length ≤ 10) (hkb : k < bs.length) (hb : bs.getD (k - 1).toNat 0 = b) (hc : bs.getD k.toNat 0 = c) (hbb : b = size + total tl) (hs0 : 0 ≤ size) (hs1 : size ≤ 10000) (hfl : e.f.length ≤ 100) (hbl2 : e.b.length ≤ 100) (hi : IntOk (e.f ++ e.b)) (hv : ∀ v, PVal (e.f ++ e.b) v → ∃ t, v = .int c t)
   (n1 : row ≠ dx) (n2 : row ≠ 107) (n3 : row ≠ bd) (n4 : dx ≠ 107) (n5 : dx ≠ bd) (n6 : bd ≠ 107) (n7 : row ≠ L + 1 + 1) (n8 : dx ≠ L + 1 + 1) (n9 : (107 : Nat) ≠ L + 1 + 1) (n10 : bd ≠ L + 1 + 1) (nr : ∀ p ∈ rest, p.1 ≠ row) (nt : ∀ p ∈ rest, p.1 ≠ 107)
   (hret : ∀ s' ps', TabOk 48 19 ps' → Fr H L s'.heap (over [(Str.ofString "row", .ref row), (Str.ofString "bounds", .ref bd), (Str.ofString "front", .str e.f e.tf), (Str.ofString "back", .str e.b e.tb)] m₀) → News H L s'.heap ((row, rowObj (itemsOf tl) n dx) :: (dx, dictOf [dEnt w.params size tk₀ tk₁] 1) :: (107, tabObj ps') :: (bd, W.listOf bdv.toArray nb) :: (L + 1 + 1, ok) :: rest) → AllBare s'.gens → s'.os = s.os → wpAny (model Challenge.rw_pe0060_01.row.prog w) (callerA.deeper (lawEnv L fa cd)) (execs more (lawEnv L fa cd)) Q (fun _ _ => False) s') :
   wpAny (model Challenge.rw_pe0060_01.row.prog w) (callerA.deeper (lawEnv L fa cd)) (execs (dIf1 :: more) (lawEnv L fa cd)) Q (fun _ _ => False) s := by
  revert X
  k_fill
  intro X
  have B := below_caller H
  unfold dIf1 lawEnv lawScope
  simp only [over] at F
  k_steps
  · rename [_, _, _] = [_, _, _] => a1
    rename Fr _ _ _ _ => kF
    rename News _ _ _ _ => kN
    dsimp only
    exact hret _ _ (by assumption) kF (fun q hq => kN q (.tail _ (.tail _ hq))) (by assumption) (by assumption)
  · exfalso
    rename ¬ ([_, _, _] = [_, _, _]) => a1
    apply a1
    rw [hb, hc, hbb, items_size, hkk]
    congr 2
    omega
end
end Mine
end
section
open PySem PySem.W PyProof.Rows
namespace Mine
theorem fresh44 : True ∧ True := by
  k_with_none
  first | (walk1; fail) | (w_top off; exact ⟨trivial, trivial⟩)
end Mine
end
section
open PySem PySem.W PyProof.Rows
namespace Mine
set_option maxRecDepth 100000
set_option maxHeartbeats 8000000
section
variable {w : World} {p : Program} {loose : List Str} {mean : ExcName → Option Value} {mg mb : Str → Option Value} {H : Heap} {L fa : Addr} {cd : Value} {m m₀ : Str → Option Value} {s : Shared} {rest : List (Addr × Obj)} {more : List Stmt} {Q : Flow → Shared → Prop} {ok osz : Obj} {row dx bd : Addr} {bdv : List Value} {n nb : Nat} {tl : List TE} {size : Int} {tk₀ tk₁ t1 t2 tt : Tok} {e : TE} {ps : Array Value}
theorem words28 : True := by
  k_with_none
  k_with "k_ne" => (refine neN ?_; (try dsimp only); first | with_reducible assumption | (refine Ne.symm ?_; with_reducible assumption))
  k_with "k_all" => with_reducible assumption
  k_with "call ref" => (k_here; k_dflt (refine' spoiled_c ?k1 ?k2 ?k3 ?k4 ?k5 ?k6 ?_; (case k1 => k_asm); (case k2 => k_asm); (case k3 => k_asm); (case k4 => k_asm); (case k5 => omega); (case k6 => omega); k_whole); intro h' tk' l' a1 a2 a3 a4 a5 F' N' nl'; (try k_sweep))
  trivial
noncomputable def NoP (r : Str) : Prop := r.length ≤ 600 ∧ IntOk r ∧ ∀ v, PVal r v → ∃ t, v = .str (Str.ofString "no port") t
theorem port_N {r : Str} {t : Tok} {cn : Str} {nms : List (Str × NameKind)} {ig ic : Bool} {mr : List (Str × Const)} {a : Addr} {ccd : Value} {cl : List (Str × Addr)} {news : List (Addr × Obj)} {Q E : Value → Shared → Prop} (F : Fr H L s.heap m) (X : (hd.heap_39 w.params).In H) (N : News H L s.heap news) (T : Top p loose mean mg mb H) (hr : NoP r)
   (hret : ∀ h' tk t, Fr H L h' m → News H L h' news → Q (.str (Str.ofString "no port") t) { s with heap := h', toks := tk }) :
   wpAny (model Challenge.rw_pe0060_01.row.prog w) (callerA.deeper (envX cn (Scope.mk .function nms ig ic mr) L a ccd cl)) (call (.ref 156) [.str r t]) Q E s :=
  port_S F X N T hr.1 hr.2.1 hr.2.2 hret
theorem words29 : True := by
  k_with_none
  k_with "k_ne" => (refine neN ?_; (try dsimp only); first | with_reducible assumption | (refine Ne.symm ?_; with_reducible assumption))
  k_with "k_all" => with_reducible assumption
  k_with "call ref" => (k_here; k_dflt (refine' spoiled_c ?k1 ?k2 ?k3 ?k4 ?k5 ?k6 ?_; (case k1 => k_asm); (case k2 => k_asm); (case k3 => k_asm); (case k4 => k_asm); (case k5 => omega); (case k6 => omega); k_whole); intro h' tk' l' a1 a2 a3 a4 a5 F' N' nl'; (try k_sweep))
  k_with "call ref" => (k_here; k_dflt (refine' port_N ?k1 ?k2 ?k3 ?k4 ?k5 ?_; (case k1 => k_asm); (case k2 => k_asm); (case k3 => k_asm); (case k4 => k_asm); (case k5 => with_reducible assumption); k_whole); intro h' tk' t' F' N'; (try k_sweep))
  k_with "CompEnd" => ((with_reducible rename News _ _ _ (_ :: _ :: _ :: _) => kN); refine LCg.CompEnd.intro (by assumption) kN _ (fun _ hq => hq) (by assumption) (Or.inr ⟨_, by k_mem, rfl, _, rfl⟩) ?_)
  k_with "binaryOp Mult ref int" => (k_here; k_dflt (refine' KMa.mul (vs := [Value.str (Str.ofString "no port") _]) (ws := [Value.str (Str.ofString "no port") _, Value.str (Str.ofString "no port") _, Value.str (Str.ofString "no port") _, Value.str (Str.ofString "no port") _, Value.str (Str.ofString "no port") _]) ?F ?N ?l ?lo ?hi ?z ?e ?_; (case F => k_asm); (case N => k_asm); (case l => is_list); (case lo => decide); (case hi => decide); (case z => (simp only [List.length_cons, List.length_nil]; decide)); (case e => exact rfl); k_whole); intro D' h' F' N' l1; (try k_sweep))
  trivial
theorem tD3 (F : Fr H L s.heap (over [(Str.ofString "front", .str e.f e.tf), (Str.ofString "back", .str e.b e.tb)] m₀)) (X : (hd.heap_39 w.params).In H) (T : Top p loose mean mg mb H)
   (N : News H L s.heap rest) (hfl : e.f.length ≤ 6) (hbl2 : e.b.length ≤ 12)
   (s1 : NoP (e.f ++ Str.ofString "202)")) (s2 : NoP (e.f ++ Txt.slice e.b none (some (-1)) ++ Str.ofString ".")) (s3 : NoP (e.f ++ Txt.slice e.b none (some (-1)) ++ Str.ofString ".)")) (s4 : NoP (e.f ++ Txt.slice e.b none (some (-1)) ++ Txt.slice e.b (some (-2)) none)) (s5 : NoP (e.f ++ Str.ofString "(" ++ Txt.slice e.b (some 2) none))
   (hret : ∀ h' tk, Fr H L h' (over [(Str.ofString "front", .str e.f e.tf), (Str.ofString "back", .str e.b e.tb)] m₀) → News H L h' rest → wpAny (model Challenge.rw_pe0060_01.row.prog w) (callerA.deeper (lawEnv L fa cd)) (execs more (lawEnv L fa cd)) Q (fun _ _ => False) { s with heap := h', toks := tk }) :
   wpAny (model Challenge.rw_pe0060_01.row.prog w) (callerA.deeper (lawEnv L fa cd)) (execs (dIf2 :: more) (lawEnv L fa cd)) Q (fun _ _ => False) s := by
  revert X
  k_fill
  intro X
  have B := below_caller H
  unfold dIf2 lawEnv lawScope
  simp only [over] at F
  k_steps
  rename Fr _ _ _ _ => kF
  rename News _ _ _ _ => kN
  dsimp only
  exact hret _ _ kF fun q hq => kN q (.tail _ (.tail _ (.tail _ (.tail _ hq))))
end
end Mine
end
section
open PySem PySem.W PyProof.Rows
namespace Mine
theorem fresh45 : True ∧ True := by
  k_with_none
  first | (walk1; fail) | (w_top off; exact ⟨trivial, trivial⟩)
end Mine
end
section
open PySem PySem.W PyProof.Rows
namespace Mine
set_option maxRecDepth 100000
set_option maxHeartbeats 1000000
theorem NoP.of {r : Str} (hl : r.length ≤ 600) (ht : (cs r).take 3 = three) (hn : NoPort r) : NoP r := ⟨hl, intOk_none hn, fun _ pv => tells_none ht hn pv⟩
theorem OpOk.three {f : Str} (h : OpOk f) (t : List Nat) : (cs f ++ t).take 3 = Mine.three := by
  rcases h with h | h | h <;> rw [h] <;> rfl
theorem len_cs {r : Str} {l : List Nat} (h : cs r = l) : r.length = l.length := by rw [← h, cs_len]
section
variable {f b : Str} {c : Nat} {p : Int} (hf : OpOk f) (hb : cs b = 40 :: c :: c :: c :: (dg p ++ [c, 41])) (hc : c = 124 ∨ c = 33 ∨ c = 45 ∨ c = 47) (hd : ∀ d ∈ dg p, 48 ≤ d ∧ d ≤ 57) (hl : b.length ≤ 11)
include hf hb hc hd hl
theorem sp1 : NoP (f ++ Str.ofString "202)") := by
  have e : cs (f ++ Str.ofString "202)") = cs f ++ [50, 48, 50, 41] := by rw [cs_append]; rfl
  have hfl := hf.len
  refine NoP.of ?_ (by rw [e]; exact hf.three _) (no_open ?_)
  · rw [len_cs e, List.length_append, cs_len]; simp; omega
  · rw [e]
    simp [hf.no40]
theorem cut1 : cs (Txt.slice b none (some (-1))) = 40 :: c :: c :: c :: (dg p ++ [c]) := by
  have hbl : b.length = (dg p).length + 6 := by rw [len_cs hb]; simp
  have := sl_to_neg b 1 (by omega) (by omega)
  rw [show (-((1 : Nat) : Int)) = -1 from rfl] at this
  rw [this, hb, show b.length - 1 = (40 :: c :: c :: c :: (dg p ++ [c])).length by simp; omega]
  rw [show 40 :: c :: c :: c :: (dg p ++ [c, 41]) = (40 :: c :: c :: c :: (dg p ++ [c])) ++ [41] by simp, List.take_left']
  rfl
theorem cut2 : cs (Txt.slice b (some (-2)) none) = [c, 41] := by
  have hbl : b.length = (dg p).length + 6 := by rw [len_cs hb]; simp
  have := sl_from_neg b 2 (by omega) (by omega)
  rw [show (-((2 : Nat) : Int)) = -2 from rfl] at this
  rw [this, hb, show b.length - 2 = (40 :: c :: c :: c :: dg p).length by simp; omega]
  rw [show 40 :: c :: c :: c :: (dg p ++ [c, 41]) = (40 :: c :: c :: c :: dg p) ++ [c, 41] by simp, List.drop_left']
  rfl
theorem cut3 : cs (Txt.slice b (some 2) none) = c :: c :: (dg p ++ [c, 41]) := by
  have hbl : b.length = (dg p).length + 6 := by rw [len_cs hb]; simp
  have := sl_from b 2 (by omega)
  rw [show ((2 : Nat) : Int) = 2 from rfl] at this
  rw [this, hb]
  rfl
theorem sp2 : NoP (f ++ Txt.slice b none (some (-1)) ++ Str.ofString ".") := by
  have e : cs (f ++ Txt.slice b none (some (-1)) ++ Str.ofString ".") = cs f ++ 40 :: (c :: c :: c :: (dg p ++ [c, 46])) := by
    rw [cs_append, cs_append, cut1 hf hb hc hd hl, show cs (Str.ofString ".") = [46] by decide]; simp
  have hfl := hf.len
  have hbl : b.length = (dg p).length + 6 := by rw [len_cs hb]; simp
  refine NoP.of ?_ (by rw [e]; exact hf.three _) (no_close e hf.no40 ?_)
  · rw [len_cs e, List.length_append, cs_len]; simp; omega
  · intro q
    simp only [List.mem_cons, List.mem_append, List.not_mem_nil, or_false] at q
    rcases q with h | h | h | h | h | h
    · omega
    · omega
    · omega
    · have := hd _ h; omega
    · omega
    · omega
theorem sp3 : NoP (f ++ Txt.slice b none (some (-1)) ++ Str.ofString ".)") := by
  have e0 : cs (f ++ Txt.slice b none (some (-1)) ++ Str.ofString ".)") = cs f ++ 40 :: (c :: c :: c :: (dg p ++ [c, 46, 41])) := by
    rw [cs_append, cs_append, cut1 hf hb hc hd hl, show cs (Str.ofString ".)") = [46, 41] by decide]; simp
  have e1 : cs (f ++ Txt.slice b none (some (-1)) ++ Str.ofString ".)") = cs f ++ 40 :: (c :: (c :: c :: (dg p ++ [c, 46])) ++ 41 :: []) := by rw [e0]; simp
  have e2 : cs (f ++ Txt.slice b none (some (-1)) ++ Str.ofString ".)") = cs f ++ 40 :: ((c :: c :: c :: (dg p ++ [c])) ++ [46] ++ 41 :: []) := by rw [e0]; simp
  have hfl := hf.len
  have hbl : b.length = (dg p).length + 6 := by rw [len_cs hb]; simp
  have h41 : 41 ∉ dg p := fun q => by have := hd _ q; omega
  have hB1 : 41 ∉ c :: (c :: c :: (dg p ++ [c, 46])) := by
    simp only [List.mem_cons, List.mem_append, List.not_mem_nil, or_false, not_or]
    refine ⟨by omega, by omega, by omega, h41, by omega, by omega⟩
  have hB2 : 41 ∉ (c :: c :: c :: (dg p ++ [c])) ++ [46] := by
    simp only [List.mem_cons, List.mem_append, List.not_mem_nil, or_false, not_or]
    refine ⟨⟨by omega, by omega, by omega, h41, by omega⟩, by omega⟩
  refine NoP.of ?_ (by rw [e0]; exact hf.three _) (.inr (.inr (.inl ⟨?_, ?_, ?_⟩)))
  · rw [len_cs e0, List.length_append, cs_len]; simp; omega
  · rw [pL_eq e0 hf.no40]; omega
  · rw [pR_eq e1 hf.no40 hB1]; omega
  · rw [item_l e1 hf.no40, item_r e2 hf.no40 hB2]
    rw [bne_iff_ne]
    intro q
    have : [c] = [46] := congrArg cs q
    simp at this
    omega
theorem sp4 : NoP (f ++ Txt.slice b none (some (-1)) ++ Txt.slice b (some (-2)) none) := by
  have e0 : cs (f ++ Txt.slice b none (some (-1)) ++ Txt.slice b (some (-2)) none) = cs f ++ 40 :: (c :: c :: c :: (dg p ++ [c, c, 41])) := by
    rw [cs_append, cs_append, cut1 hf hb hc hd hl, cut2 hf hb hc hd hl]; simp
  have e1 : cs (f ++ Txt.slice b none (some (-1)) ++ Txt.slice b (some (-2)) none) = cs f ++ 40 :: (c :: (c :: c :: (dg p ++ [c, c])) ++ 41 :: []) := by rw [e0]; simp
  have hfl := hf.len
  have hbl : b.length = (dg p).length + 6 := by rw [len_cs hb]; simp
  have h41 : 41 ∉ dg p := fun q => by have := hd _ q; omega
  have hcn : c ∉ dg p := fun q => by have := hd _ q; omega
  have hB1 : 41 ∉ c :: (c :: c :: (dg p ++ [c, c])) := by
    simp only [List.mem_cons, List.mem_append, List.not_mem_nil, or_false, not_or]
    refine ⟨by omega, by omega, by omega, h41, by omega, by omega⟩
  have P := parts_len e1 hf.no40 hB1 (P := [[], [], [], dg p, [], []]) (by simp) (by simp [hcn]) (by simp [J])
  refine NoP.of ?_ (by rw [e0]; exact hf.three _) (.inr (.inr (.inr ⟨?_, ?_, ?_⟩)))
  · rw [len_cs e0, List.length_append, cs_len]; simp; omega
  · rw [pL_eq e0 hf.no40]; omega
  · rw [pR_eq e1 hf.no40 hB1]; omega
  · rw [P]; simp
theorem sp5 : NoP (f ++ Str.ofString "(" ++ Txt.slice b (some 2) none) := by
  have e0 : cs (f ++ Str.ofString "(" ++ Txt.slice b (some 2) none) = cs f ++ 40 :: (c :: c :: (dg p ++ [c, 41])) := by
    rw [cs_append, cs_append, cut3 hf hb hc hd hl, cs_open]; simp
  have e1 : cs (f ++ Str.ofString "(" ++ Txt.slice b (some 2) none) = cs f ++ 40 :: (c :: (c :: (dg p ++ [c])) ++ 41 :: []) := by rw [e0]; simp
  have hfl := hf.len
  have hbl : b.length = (dg p).length + 6 := by rw [len_cs hb]; simp
  have h41 : 41 ∉ dg p := fun q => by have := hd _ q; omega
  have hcn : c ∉ dg p := fun q => by have := hd _ q; omega
  have hB1 : 41 ∉ c :: (c :: (dg p ++ [c])) := by
    simp only [List.mem_cons, List.mem_append, List.not_mem_nil, or_false, not_or]
    refine ⟨by omega, by omega, h41, by omega⟩
  have P := parts_len e1 hf.no40 hB1 (P := [[], [], dg p, []]) (by simp) (by simp [hcn]) (by simp [J])
  refine NoP.of ?_ (by rw [e0]; exact hf.three _) (.inr (.inr (.inr ⟨?_, ?_, ?_⟩)))
  · rw [len_cs e0, List.length_append, cs_len]; simp; omega
  · rw [pL_eq e0 hf.no40]; omega
  · rw [pR_eq e1 hf.no40 hB1]; omega
  · rw [P]; simp
theorem sp0 (h0 : 0 ≤ p) (h1 : p < 10 ^ 10) : IntOk (f ++ b) ∧ ∀ v, PVal (f ++ b) v → ∃ t, v = .int p t := by
  have e : cs (f ++ b) = cs f ++ 40 :: c :: c :: c :: (dg p ++ [c, 41]) := by rw [cs_append, hb]
  have q := Numd.port (r := f ++ b) (p := p) ⟨cs f, c, [], e, hf.no40, hc⟩ h0 h1
  exact ⟨q.1, q.2 (by rw [e]; exact hf.three _)⟩
end
end Mine
end
section
open PySem PySem.W PyProof.Rows
namespace Mine
theorem fresh46 : True ∧ True := by
  k_with_none
  first | (walk1; fail) | (w_top off; exact ⟨trivial, trivial⟩)
end Mine
end
section
open PySem PySem.W PyProof.Rows
namespace Mine
set_option maxRecDepth 100000
set_option maxHeartbeats 8000000
theorem shaped_at : ∀ {l1 l2 : List TE} {o : Int} {e : TE}, Shaped o (l1 ++ e :: l2) → OpOk e.f ∧ (∃ m, MkOk m ∧ e.b = bdy m (o + total l1 + e.f.length + e.b.length)) ∧ e.b.length ≤ 11
  | [], l2, o, e, ⟨a1, ⟨m, hm, hb⟩, a3, _⟩ => ⟨a1, ⟨m, hm, by simpa [total] using hb⟩, a3⟩
  | x :: r, l2, o, e, ⟨_, _, _, a4⟩ => by
    obtain ⟨b1, ⟨m, hm, hb⟩, b3⟩ := shaped_at (l1 := r) a4
    refine ⟨b1, ⟨m, hm, ?_⟩, b3⟩
    rw [show o + total (x :: r) + e.f.length + e.b.length = o + x.f.length + x.b.length + total r + e.f.length + e.b.length by simp only [total]; omega]
    exact hb
theorem bnds_at0 : ∀ (l1 l2 : List TE) (o : Int), (bndsOf o (l1 ++ l2)).getD l1.length 0 = o + total l1
  | [], l2, o => by simp [total]
  | x :: r, l2, o => by
    have := bnds_at0 r l2 (o + x.f.length + x.b.length)
    show (o :: bndsOf (o + x.f.length + x.b.length) (r ++ l2)).getD (r.length + 1) 0 = _
    rw [List.getD_cons_succ, this]
    simp only [total]
    omega
theorem bnds_len (o : Int) (tl : List TE) : (bndsOf o tl).length = tl.length + 1 := by simp [rows_len]
section
variable {w : World} {p : Program} {loose : List Str} {mean : ExcName → Option Value} {mg mb : Str → Option Value} {H : Heap} {L fa : Addr} {cd : Value} {m : Str → Option Value} {s : Shared} {R : List (Addr × Obj)} {Q : Flow → Shared → Prop} {ok : Obj} {row dx bd : Addr} {bdv : List Value} {n nb : Nat} {all l1 l2 : List TE} {size : Int} {tk₀ tk₁ t2 : Tok} {e : TE} {ps : Array Value}
noncomputable abbrev ledD (w : World) (L row dx bd : Addr) (tl : List TE) (n : Nat) (size : Int) (tk₀ tk₁ : Tok) (ps : Array Value) (bdv : List Value) (nb : Nat) (ok : Obj) (R : List (Addr × Obj)) : List (Addr × Obj) :=
  (row, rowObj (itemsOf tl) n dx) :: (dx, dictOf [dEnt w.params size tk₀ tk₁] 1) :: (107, tabObj ps) :: (bd, W.listOf bdv.toArray nb) :: (L + 1 + 1, ok) :: R
theorem turnD_c (F : Fr H L s.heap m) (hrow : m (Str.ofString "row") = some (.ref row)) (hbn : m (Str.ofString "bounds") = some (.ref bd)) (X : (hd.heap_39 w.params).In H) (T : Top p loose mean mg mb H)
   (N : News H L s.heap (ledD w L row dx bd (l1 ++ [e]) n size tk₀ tk₁ ps bdv nb ok R)) (hsh : Shaped size (l1 ++ e :: l2)) (hl : (l1 ++ e :: l2).length ≤ 7) (hps : TabOk 48 19 ps) (hg : AllBare s.gens) (hents : ∀ x ∈ l1 ++ [e], TE.ent x ∈ R)
   (hk : ok.data = .cell (some (.int ((l1.length : Int) + 1) t2))) (hbd : IntsAre bdv (bndsOf size (l1 ++ e :: l2))) (hs0 : 0 ≤ size) (hs1 : size ≤ 2250)
   (n1 : row ≠ dx) (n2 : row ≠ 107) (n3 : row ≠ bd) (n4 : dx ≠ 107) (n5 : dx ≠ bd) (n6 : bd ≠ 107) (n7 : row ≠ L + 1 + 1) (n8 : dx ≠ L + 1 + 1) (n9 : (107 : Nat) ≠ L + 1 + 1) (n10 : bd ≠ L + 1 + 1) (nr : ∀ p ∈ R, p.1 ≠ row) (nt : ∀ p ∈ R, p.1 ≠ 107)
   (hret : ∀ s' m' n' ps', TabOk 48 19 ps' → (∀ x, x ≠ Str.ofString "front" → x ≠ Str.ofString "back" → m' x = m x) → Fr H L s'.heap m' → News H L s'.heap (ledD w L row dx bd l1 n' size tk₀ tk₁ ps' bdv nb ok R) → AllBare s'.gens → s'.os = s.os → Q .next s') :
   wpAny (model Challenge.rw_pe0060_01.row.prog w) (callerA.deeper (lawEnv L fa cd)) (execs bodyD (lawEnv L fa cd)) Q (fun _ _ => False) s := by
  obtain ⟨hf, ⟨mk, hm, hb⟩, hbl⟩ := shaped_at hsh
  obtain ⟨c, hc, hcc⟩ := hm.one
  have htb := total_bounds hsh
  have hlens := shaped_lens hsh
  have hll := hl
  rw [List.length_append, List.length_cons] at hll
  have ht1 : 0 ≤ total l1 := by rw [← textL_len]; omega
  have ht2 : total l1 + e.f.length + e.b.length ≤ total (l1 ++ e :: l2) := by
    rw [total_append]
    have : 0 ≤ total l2 := by rw [← textL_len]; omega
    simp only [total]
    omega
  have hbc := cs_bdy hc (size + total l1 + e.f.length + e.b.length)
  rw [← hb] at hbc
  have hp0 : 0 ≤ size + total l1 + e.f.length + e.b.length := by omega
  have hp1 : size + total l1 + e.f.length + e.b.length < 10 ^ 10 := by omega
  have hdg := dg_digit hp0
  have hfl := hf.len
  have b0 := bnds_at0 l1 (e :: l2) size
  have b1 := bnds_at0 (l1 ++ [e]) l2 size
  rw [List.length_append, List.length_singleton, total_snoc, List.append_assoc, List.singleton_append] at b1
  have S0 := sp0 hf hbc hcc hdg hbl hp0 hp1
  have hov1 : over [(Str.ofString "row", Value.ref row)] m = m := over_eq fun q hq => by
    simp only [List.mem_cons, List.not_mem_nil, or_false] at hq
    rw [hq]; exact hrow
  have heR : e.ent ∈ R := hents e (List.mem_append_right _ (.head _))
  rw [bodyD_eq]
  refine tD1 (m₀ := m) (tl := l1) (e := e) (rest := (107, tabObj ps) :: (bd, W.listOf bdv.toArray nb) :: (L + 1 + 1, ok) :: R) (by rw [hov1]; exact F) X T (fun q hq => N q (by
    simp only [List.mem_cons] at hq ⊢
    rcases hq with h | h | h | h | h | h | h
    · exact .inl h
    · exact .inr (.inl h)
    · rw [h]; exact .inr (.inr (.inr (.inr (.inr heR))))
    · exact .inr (.inr (.inl h))
    · exact .inr (.inr (.inr (.inl h)))
    · exact .inr (.inr (.inr (.inr (.inl h))))
    · exact .inr (.inr (.inr (.inr (.inr h))))) ) (by omega) n1 (Ne.symm (nr _ heR)) (fun q hq => by
    simp only [List.mem_cons] at hq
    rcases hq with h | h | h | h
    · rw [h]; exact Ne.symm n2
    · rw [h]; exact Ne.symm n3
    · rw [h]; exact Ne.symm n7
    · exact nr q h) fun h' tk F1 N1 => ?_
  generalize em : over [(Str.ofString "back", Value.str e.b e.tb), (Str.ofString "front", .str e.f e.tf), (Str.ofString "row", .ref row)] m = m1 at F1
  have q1 : m1 (Str.ofString "back") = some (.str e.b e.tb) := by rw [← em]; rfl
  have q2 : m1 (Str.ofString "front") = some (.str e.f e.tf) := by rw [← em]; rfl
  have q3 : m1 (Str.ofString "row") = some (.ref row) := by rw [← em]; rfl
  have qo : ∀ x, x ≠ Str.ofString "front" → x ≠ Str.ofString "back" → m1 x = m x := fun x h1 h2 => by
    rw [← em]
    simp only [over, if_neg h1, if_neg h2]
    by_cases h : x = Str.ofString "row"
    · rw [if_pos h, h]; exact hrow.symm
    · rw [if_neg h]
  have q4 : m1 (Str.ofString "bounds") = some (.ref bd) := by rw [qo _ (by decide) (by decide)]; exact hbn
  clear em
  have hov2 : over [(Str.ofString "row", Value.ref row), (Str.ofString "bounds", .ref bd), (Str.ofString "front", .str e.f e.tf), (Str.ofString "back", .str e.b e.tb)] m1 = m1 := over_eq fun q hq => by
    simp only [List.mem_cons, List.not_mem_nil, or_false] at hq
    rcases hq with rfl | rfl | rfl | rfl
    · exact q3
    · exact q4
    · exact q2
    · exact q1
  have hov3 : over [(Str.ofString "front", Value.str e.f e.tf), (Str.ofString "back", .str e.b e.tb)] m1 = m1 := over_eq fun q hq => by
    simp only [List.mem_cons, List.not_mem_nil, or_false] at hq
    rcases hq with rfl | rfl
    · exact q2
    · exact q1
  refine tD2 (s := { s with heap := h', toks := tk }) (m₀ := m1) (tl := l1) (e := e) (rest := R) (b := size + total l1) (c := size + total l1 + e.f.length + e.b.length) (by rw [hov2]; exact F1) X T (fun q hq => N1 q (by
    simp only [List.mem_cons] at hq ⊢
    rcases hq with h | h | h
    · exact .inl h
    · exact .inr (.inl h)
    · exact .inr (.inr (.inr h)))) (by omega) hps hg (fun e' he' => hents e' (List.mem_append_left _ he')) (fun e' he' => by have := hlens e' (List.mem_append_left _ he'); omega)
    hk rfl hbd (by rw [bnds_len]; omega) (by rw [bnds_len, List.length_append, List.length_cons]; omega) ?_ ?_ rfl hs0 (by omega) (by omega) (by omega) S0.1 S0.2 n1 n2 n3 n4 n5 n6 n7 n8 n9 n10 nr nt fun s' ps' hps' F2 N2 G2 o2 => ?_
  · rw [show ((l1.length : Int) + 1 - 1).toNat = l1.length by omega]
    exact b0
  · rw [show ((l1.length : Int) + 1).toNat = l1.length + 1 by omega, b1]
    omega
  rw [hov2] at F2
  refine tD3 (s := s') (m₀ := m1) (e := e) (by rw [hov3]; exact F2) X T N2 (by omega) (by omega) (sp1 hf hbc hcc hdg hbl) (sp2 hf hbc hcc hdg hbl) (sp3 hf hbc hcc hdg hbl) (sp4 hf hbc hcc hdg hbl) (sp5 hf hbc hcc hdg hbl) fun h'' tk' F3 N3 => ?_
  rw [hov3] at F3
  exact wpAny_execs_nil (hret { s' with heap := h'', toks := tk' } m1 _ ps' hps' qo F3 N3 G2 o2)
end
end Mine
end
section
open PySem PySem.W PyProof.Rows
namespace Mine
theorem fresh47 : True ∧ True := by
  k_with_none
  first | (walk1; fail) | (w_top off; exact ⟨trivial, trivial⟩)
end Mine
end
section
open PySem PySem.W PyProof.Rows
namespace Mine
set_option maxRecDepth 100000
set_option maxHeartbeats 8000000
section
variable {w : World} {p : Program} {loose : List Str} {mean : ExcName → Option Value} {mg mb : Str → Option Value} {H : Heap} {L fa : Addr} {cd : Value} {m : Str → Option Value} {s : Shared} {R : List (Addr × Obj)} {Q : Flow → Shared → Prop} {ok : Obj} {row dx bd : Addr} {bdv : List Value} {n nb : Nat} {all l1 l2 : List TE} {size : Int} {tk₀ tk₁ t2 : Tok} {e : TE} {ps : Array Value}
theorem rangeD (n : Nat) (h1 : n ≤ 10000) : Builtin.Range.small (n : Int) 0 (-1) = true ∧ Builtin.Range.rangeSize (n : Int) 0 (-1) = (n : Int) := by
  have e : Builtin.Range.rangeSize (n : Int) 0 (-1) = (n : Int) := by
    unfold Builtin.Range.rangeSize
    rw [if_neg (by decide)]
    simp
    omega
  refine ⟨?_, e⟩
  unfold Builtin.Range.small
  rw [e]
  unfold Builtin.Range.rangeFitsLong
  simp
  omega
theorem iterD_c {Q : Value → Shared → Prop} {bk : Addr} {bkv : List Value} {nk : Nat} {brs : List Int} {rest : List (Addr × Obj)} (F : Fr H L s.heap (over [(Str.ofString "brackets", .ref bk)] m)) (X : (hd.heap_39 w.params).In H) (N : News H L s.heap ((bk, W.listOf bkv.toArray nk) :: rest)) (T : Top p loose mean mg mb H) (hI : IntsAre bkv brs) (hl : brs.length ≤ 10)
   (hret : ∀ h' tk r t u v, IsRange h' r (brs.length : Int) 0 (-1) t u v → Fr H L h' (over [(Str.ofString "brackets", .ref bk)] m) → News H L h' ((bk, W.listOf bkv.toArray nk) :: rest) → Q (.ref r) { s with heap := h', toks := tk }) :
   wpAny (model Challenge.rw_pe0060_01.row.prog w) (callerA.deeper (lawEnv L fa cd)) (eval iterD (lawEnv L fa cd)) Q (fun _ _ => False) s := by
  revert X
  k_fill
  intro X
  have B := below_caller H
  unfold iterD lawEnv lawScope
  simp only [over] at F
  k_steps
  exact hret _ _ _ _ _ _ (by assumption) (by assumption) (by assumption)
theorem forD_c {bk : Addr} {bkv : List Value} {nk : Nat} (F : Fr H L s.heap m) (hrow : m (Str.ofString "row") = some (.ref row)) (hbn : m (Str.ofString "bounds") = some (.ref bd)) (hbn' : m (Str.ofString "brackets") = some (.ref bk)) (X : (hd.heap_39 w.params).In H) (T : Top p loose mean mg mb H)
   (N : News H L s.heap (ledD w L row dx bd all n size tk₀ tk₁ ps bdv nb ok R)) (hsh : Shaped size all) (hl : all.length ≤ 7) (hps : TabOk 48 19 ps) (hg : AllBare s.gens) (hents : ∀ e ∈ all, e.ent ∈ R) (hbkR : (bk, W.listOf bkv.toArray nk) ∈ R)
   {v₀ : Option Value} (hk : ok.data = .cell v₀) (hbk : IntsAre bkv (brsOf size all)) (hbd : IntsAre bdv (bndsOf size all)) (hs0 : 0 ≤ size) (hs1 : size ≤ 2250)
   (n1 : row ≠ dx) (n2 : row ≠ 107) (n3 : row ≠ bd) (n4 : dx ≠ 107) (n5 : dx ≠ bd) (n6 : bd ≠ 107) (n7 : row ≠ L + 1 + 1) (n8 : dx ≠ L + 1 + 1) (n9 : (107 : Nat) ≠ L + 1 + 1) (n10 : bd ≠ L + 1 + 1) (nr : ∀ p ∈ R, p.1 ≠ row) (nt : ∀ p ∈ R, p.1 ≠ 107) (nk' : ∀ p ∈ R, p.1 ≠ L + 1 + 1)
   (hret : ∀ s' m' n' ps' ok', TabOk 48 19 ps' → (∀ x, x ≠ Str.ofString "front" → x ≠ Str.ofString "back" → m' x = m x) → Fr H L s'.heap m' → News H L s'.heap (ledD w L row dx bd [] n' size tk₀ tk₁ ps' bdv nb ok' R) → AllBare s'.gens → s'.os = s.os → Q .next s') :
   wpAny (model Challenge.rw_pe0060_01.row.prog w) (callerA.deeper (lawEnv L fa cd)) (exec forD (lawEnv L fa cd)) Q (fun _ _ => False) s := by
  have hR := rangeD all.length (by omega)
  have hbl : (brsOf size all).length = all.length := by simp [rows_len]
  have hov : over [(Str.ofString "brackets", Value.ref bk)] m = m := over_eq fun q hq => by
    simp only [List.mem_cons, List.not_mem_nil, or_false] at hq
    rw [hq]; exact hbn'
  unfold forD
  refine for_range (h₀ := H) (os₀ := s.os) (Q := Q) (n := all.length) (by rfl) (fun I v => by rfl)
    (fun i m' led => (∀ x, x ≠ Str.ofString "front" → x ≠ Str.ofString "back" → m' x = m x) ∧ ∃ l1 l2 n ps ok v, led = ledD w L row dx bd l1 n size tk₀ tk₁ ps bdv nb ok R ∧ all = l1 ++ l2 ∧ l1.length = all.length - i ∧ TabOk 48 19 ps ∧ ok.data = .cell v)
    hR.1 hR.2 ?it ?step ?done
  case it =>
    refine iterD_c (m := m) (bk := bk) (bkv := bkv) (nk := nk) (by rw [hov]; exact F) X (rest := ledD w L row dx bd all n size tk₀ tk₁ ps bdv nb ok R) (fun q hq => ?_) T hbk (by omega) fun h' tk r t u v hr F' N' => ?_
    · rcases List.mem_cons.mp hq with rfl | hq
      · exact N _ (.tail _ (.tail _ (.tail _ (.tail _ (.tail _ hbkR)))))
      · exact N q hq
    · rw [hov] at F'
      rw [hbl] at hr
      exact ⟨r, t, u, v, m, _, rfl, hr, F', fun q hq => N' q (.tail _ hq), hg, rfl, (fun _ _ _ => rfl), all, [], n, ps, ok, v₀, rfl, by simp, by simp, hps, hk⟩
  case done =>
    rintro s' m' led ⟨hn, l1, l2, n', ps', ok', v', rfl, hal, hln, hp', hk'⟩ F' N' G' o'
    have : l1 = [] := List.eq_nil_of_length_eq_zero (by omega)
    subst this
    exact hret s' m' n' ps' ok' hp' hn F' N' G' o'
  case step =>
    rintro i m₁ led s₁ own I t hi ⟨hn, l1, l2, n', ps', ok', v', rfl, hal, hln, hp', hk'⟩ off hown hcls F₁ N₁ G₁ o₁
    have oR : row ∉ [I] := off _ (.head _)
    have oD : dx ∉ [I] := off _ (.tail _ (.head _))
    have o7 : 107 ∉ [I] := off _ (.tail _ (.tail _ (.head _)))
    have oB : bd ∉ [I] := off _ (.tail _ (.tail _ (.tail _ (.head _))))
    have oK : L + 1 + 1 ∉ [I] := off (L + 1 + 1, ok') (.tail _ (.tail _ (.tail _ (.tail _ (.head _)))))
    have hown' : ∀ q ∈ own, ∀ y, y ∉ [I] → q.1 ≠ y := fun q hq y hy e => hy (e ▸ hown q hq)
    refine wpAny_assign_Name ?_
    refine storeX_C (g := fun o => ledD w L row dx bd l1 n' size tk₀ tk₁ ps' bdv nb o (R ++ own)) F₁ N₁ (by rfl) (.tail n7 (.tail n8 (.tail n9 (.tail n10 (.head ?_))))) hk' (fun h' o' F₂ N₂ ho' => ?_) (by rfl) (by rfl)
    · intro q hq
      exact (List.mem_append.mp hq).elim (nk' q) fun hq => hown' q hq _ oK
    rcases List.eq_nil_or_concat l1 with rfl | ⟨l0, e, rfl⟩
    · simp at hln; omega
    have hal' : all = l0 ++ e :: l2 := by rw [hal]; simp
    have hll : l0.length + 1 = all.length - i := by rw [← hln]; simp
    rw [List.concat_eq_append] at N₂
    have hx' : ∀ x ∈ l0 ++ [e], TE.ent x ∈ R ++ own := fun x hx => List.mem_append_left _ (hents x (by
      rw [hal']
      rcases List.mem_append.mp hx with h | h
      · exact List.mem_append_left _ h
      · exact List.mem_append_right _ (List.mem_singleton.mp h ▸ List.mem_cons_self)))
    refine turnD_c (s := { s₁ with heap := h' }) (R := R ++ own) (l1 := l0) (e := e) (l2 := l2) (t2 := t) F₂ ((hn _ (by decide) (by decide)).trans hrow) ((hn _ (by decide) (by decide)).trans hbn) X T N₂ (hal' ▸ hsh) (hal' ▸ hl) hp' G₁ hx'
      (ho'.trans (by rw [show (all.length : Int) + (i : Int) * (-1) = (l0.length : Int) + 1 by omega])) (hal' ▸ hbd) hs0 hs1 n1 n2 n3 n4 n5 n6 n7 n8 n9 n10
      (fun q hq => (List.mem_append.mp hq).elim (nr q) fun hq => hown' q hq _ oR) (fun q hq => (List.mem_append.mp hq).elim (nt q) fun hq => hown' q hq _ o7) fun s' m' n'' ps'' hps'' a2 F' N' G' o'' => ?_
    refine ⟨m', ledD w L row dx bd l0 n'' size tk₀ tk₁ ps'' bdv nb o' R, ⟨fun x h1 h2 => (a2 x h1 h2).trans (hn x h1 h2), l0, e :: l2, n'', ps'', o', _, rfl, hal', by omega, hps'', ho'⟩, F', N', ?_, G', o''.trans o₁⟩
    intro q hq
    rcases List.mem_cons.mp hq with rfl | hq
    · exact oR
    rcases List.mem_cons.mp hq with rfl | hq
    · exact oD
    rcases List.mem_cons.mp hq with rfl | hq
    · exact o7
    rcases List.mem_cons.mp hq with rfl | hq
    · exact oB
    rcases List.mem_cons.mp hq with rfl | hq
    · exact oK
    · exact off q (.tail _ (.tail _ (.tail _ (.tail _ (.tail _ hq)))))
end
end Mine
end
section
open PySem PySem.W PyProof.Rows
namespace Mine
theorem fresh48 : True ∧ True := by
  k_with_none
  first | (walk1; fail) | (w_top off; exact ⟨trivial, trivial⟩)
end Mine
end
section
open PySem PySem.W PyProof.Rows
namespace Mine
set_option maxRecDepth 100000
set_option maxHeartbeats 8000000
section
variable {w : World} {p : Program} {loose : List Str} {mean : ExcName → Option Value} {mg mb : Str → Option Value} {H : Heap} {L fa : Addr} {cd : Value} {m m₀ : Str → Option Value} {s : Shared} {rest : List (Addr × Obj)} {more : List Stmt} {Q : Flow → Shared → Prop} {ok osz : Obj} {row dx bd : Addr} {bdv : List Value} {n nb : Nat} {tl : List TE} {size : Int} {tk₀ tk₁ t1 t2 tt : Tok} {e : TE} {ps : Array Value} {nms : List (Str × NameKind)} {ig ic : Bool} {mr : List (Str × Const)} {cn : Str} {a : Addr} {ccd : Value} {cl : List (Str × Addr)} {led : List (Addr × Obj)} {g : Obj → List (Addr × Obj)}
theorem ne_tab {h : Heap} {T' : Addr} {x y : Value} (N : News H L h ((T', tupObj x y) :: led)) (hm : (107, tabObj ps) ∈ led) : T' ≠ 107 := fun e => by
  subst e
  have h1 := (N _ (.head _)).1
  have h2 := (N _ (.tail _ hm)).1
  rw [h1] at h2
  have h3 := congrArg Obj.cls (Option.some.inj h2)
  simp [tupObj, tabObj] at h3
theorem pop0_X {Q E : Value → Shared → Prop} (F : Fr H L s.heap m) (X : (hd.heap_39 w.params).In H) (N : News H L s.heap led) (T : Top p loose mean mg mb H) (U : UpdF row (rowObj #[] n dx) led g) (hd : (dx, dictOf [dEnt w.params size tk₀ tk₁] 1) ∈ led) (hne : row ≠ dx) (h7 : (107, tabObj ps) ∈ led)
   (hret : ∀ h' tk T' t1 t2, T' ≠ 107 → Fr H L h' m → News H L h' ((T', tupObj (.str (Str.ofString "") t1) (.str (Str.ofString "") t2)) :: led) → Q (.ref T') { s with heap := h', toks := tk }) :
   wpAny (model Challenge.rw_pe0060_01.row.prog w) (callerA.deeper (envX cn (Scope.mk .function nms ig ic mr) L a ccd cl)) (call (.ref 105) [.ref row]) Q E s :=
  pop0_K F X N T U hd hne fun h' tk T' t1 t2 F' N' => hret h' tk T' t1 t2 (ne_tab N' h7) F' N'
theorem len_0 {Q E : Value → Shared → Prop} (F : Fr H L s.heap m) (X : (hd.heap_39 w.params).In H) (N : News H L s.heap led) (T : Top p loose mean mg mb H) (U : UpdF 107 (tabObj ps) led g) (hr : (row, rowObj #[] n dx) ∈ led) (hd : (dx, dictOf [dEnt w.params size tk₀ tk₁] 1) ∈ led) (hne : row ≠ dx)
   (hg : AllBare s.gens) (hps : TabOk 48 19 ps) (hr7 : row ≠ 107) (hd7 : dx ≠ 107) (hsize : 0 ≤ size) (hsize' : size ≤ 10000)
   (hret : ∀ s' t ps', TabOk 48 19 ps' → Fr H L s'.heap m → News H L s'.heap (g (tabObj ps')) → AllBare s'.gens → s'.os = s.os → Q (.int size t) s') :
   wpAny (model Challenge.rw_pe0060_01.row.prog w) (callerA.deeper (envX cn (Scope.mk .function nms ig ic mr) L a ccd cl)) (call (.builtin "len") [.ref row]) Q E s :=
  len_TL (tl := []) F X N T U hr hd hne (by simp) hg hps hr7 hd7 hsize hsize' (fun e he => by cases he) (fun e he => by cases he) fun s' t ps' a1 a2 a3 a4 a5 => by
    rw [show size + total [] = size by simp [total]]
    exact hret s' t ps' a1 a2 a3 a4 a5
theorem words30 : True := by
  k_with_none
  k_with "k_inst" => (refine' inst_row ?N ?h1 ?h2; (case N => k_asm); (case h1 => k_mem); (case h2 => k_mem))
  k_with "k_ne" => (refine neN ?_; (try dsimp only); first | with_reducible assumption | (refine Ne.symm ?_; with_reducible assumption))
  k_with "k_all" => with_reducible assumption
  k_with "getMethod ref" => (k_here; k_dflt (refine' method_own ?k1 ?k2 ?k3 ?k4 ?k5 ?k6 ?k7 ?k8 ?k9 ?_; (case k1 => k_in); (case k2 => k_inst); (case k3 => k_is); (case k4 => decide +kernel); (case k5 => k_is); (case k6 => k_is); (case k7 => k_is); (case k8 => decide +kernel); (case k9 => rfl); k_whole))
  k_with "call ref" => (k_here; k_dflt (refine' pop0_X ?k1 ?k2 ?k3 ?k4 ?k5 ?k6 ?k7 ?k8 ?_; (case k1 => k_asm); (case k2 => k_asm); (case k3 => k_asm); (case k4 => k_asm); (case k5 => k_updF); (case k6 => k_mem); (case k7 => with_reducible assumption); (case k8 => k_mem); k_whole); intro h' tk' T' t1 t2 nT' F' N'; (try dsimp only at N'); (try k_sweep))
  k_with "call builtin:len" => (k_here; (with_reducible show wpAny _ _ (call (Value.builtin "len") [Value.ref _]) _ _ _); k_dflt (refine' len_0 ?k1 ?k2 ?k3 ?k4 ?k5 ?k6 ?k7 ?k8 ?l1 ?l2 ?l3 ?l4 ?l5 ?l6 ?_; (case k1 => k_asm); (case k2 => k_asm); (case k3 => k_asm); (case k4 => k_asm); (case k5 => k_updF); (case k6 => k_mem); (case k7 => k_mem); (case k8 => with_reducible assumption); (case l1 => assumption); (case l2 => assumption); (case l3 => assumption); (case l4 => assumption); (case l5 => assumption); (case l6 => assumption); k_whole); intro s' t' ps' hp' F' N' hb' ho'; (try dsimp only at N'); (try k_sweep))
  trivial
theorem ret_seg (F : Fr H L s.heap (over [(Str.ofString "row", .ref row)] m₀)) (X : (hd.heap_39 w.params).In H) (T : Top p loose mean mg mb H)
   (N : News H L s.heap ((row, rowObj #[] n dx) :: (dx, dictOf [dEnt w.params size tk₀ tk₁] 1) :: (107, tabObj ps) :: (L + 1, osz) :: rest)) (hps : TabOk 48 19 ps) (hg : AllBare s.gens) (hsz : osz.data = .cell (some (.int size t1))) (hs0 : 0 ≤ size) (hs1 : size ≤ 10000)
   (n1 : row ≠ dx) (n2 : row ≠ 107) (n4 : dx ≠ 107) (n5 : row ≠ L + 1) (n6 : dx ≠ L + 1) (n7 : (107 : Nat) ≠ L + 1) (nr : ∀ p ∈ rest, p.1 ≠ row) (nt : ∀ p ∈ rest, p.1 ≠ 107)
   (hret : ∀ s' m' ps', TabOk 48 19 ps' → Fr H L s'.heap m' → News H L s'.heap ((107, tabObj ps') :: rest) → AllBare s'.gens → s'.os = s.os → Q (.ret (.bool true)) s') :
   wpAny (model Challenge.rw_pe0060_01.row.prog w) (callerA.deeper (lawEnv L fa cd)) (execs [sRet] (lawEnv L fa cd)) Q (fun _ _ => False) s := by
  revert X
  k_fill
  intro X
  have B := below_caller H
  unfold sRet lawEnv lawScope
  simp only [over] at F
  k_steps
  rename Fr _ _ _ _ => kF
  rename News _ _ _ _ => kN
  rw [beq_self_eq_true]
  exact hret _ _ _ (by assumption) kF (fun q hq => kN q (by
    rcases List.mem_cons.mp hq with rfl | hq
    · exact .tail _ (.tail _ (.tail _ (.tail _ (.head _))))
    · exact .tail _ (.tail _ (.tail _ (.tail _ (.tail _ (.tail _ hq))))))) (by assumption) (by assumption)
end
end Mine
end
section
open PySem PySem.W PyProof.Rows
namespace Mine
theorem fresh49 : True ∧ True := by
  k_with_none
  first | (walk1; fail) | (w_top off; exact ⟨trivial, trivial⟩)
end Mine
end
section
open PySem PySem.W PyProof.Rows
namespace Mine
set_option maxRecDepth 100000
set_option maxHeartbeats 8000000
theorem news_nil {h₀ h : Heap} {L : Addr} : News h₀ L h [] := fun _ hq => by cases hq
theorem news_cons {h₀ h : Heap} {L : Addr} {a : Addr × Obj} {l led : List (Addr × Obj)} (N : News h₀ L h led) (ha : a ∈ led) (hl : News h₀ L h l) : News h₀ L h (a :: l) := List.forall_mem_cons.mpr ⟨N a ha, hl⟩
theorem news_map {h₀ h : Heap} {L : Addr} {tl : List TE} {l led : List (Addr × Obj)} (N : News h₀ L h led) (ha : ∀ e ∈ tl, e.ent ∈ led) (hl : News h₀ L h l) : News h₀ L h (tl.map TE.ent ++ l) := fun q hq => by
  rcases List.mem_append.mp hq with hq | hq
  · obtain ⟨e, he, rfl⟩ := List.mem_map.mp hq
    exact N _ (ha e he)
  · exact hl q hq
theorem sum_bounds : ∀ (l : List Int), (∀ x ∈ l, 0 ≤ x ∧ x < 1000000) → 0 ≤ l.sum ∧ l.sum ≤ 1000000 * l.length
  | [], _ => by simp
  | x :: r, h => by
    have h1 := h x (.head _)
    have h2 := sum_bounds r fun y hy => h y (.tail _ hy)
    simp only [List.sum_cons, List.length_cons]
    omega
theorem lawGoal' : LawGoal := by
  intro w p loose mean mg mb H L fa cd s ok osz sl vs ns X T hl hi hn l7 l14 F N hko hso hg
  rw [lawBody_eq]
  refine head1 F X N T hl hi hn l7 l14 fun h1 tk1 nu nvs nms d t m1 hnI hnms hd hnu hdr F1 N1 ne1 => ?_
  have hx : ∀ x ∈ nms, 0 ≤ x ∧ x < 1000000 := fun x hx => by
    rw [hnms] at hx
    obtain ⟨y, _, rfl⟩ := List.mem_map.mp hx
    exact @fmod_cases y 1000000 (by (try dsimp only); decide)
  have hlen : nms.length ≤ 4 := by rw [hnms, List.length_map, List.length_take]; omega
  have hsb := sum_bounds nms hx
  rw [← hd] at hsb
  obtain ⟨u1, u2, u3, u4⟩ := ne1
  have hov1 : over [(Str.ofString "draw", Value.int d t)] m1 = m1 := over_eq fun q hq => by
    simp only [List.mem_cons, List.not_mem_nil, or_false] at hq
    rw [hq]; exact hdr
  have c7 : (107 : Nat) ≠ L + 1 := fun e => by rw [e] at l7; exact absurd l7 (Nat.not_lt.mpr (Nat.le_succ L))
  have c7' : (107 : Nat) ≠ L + 1 + 1 := fun e => by rw [e] at l7; exact absurd l7 (Nat.not_lt.mpr (Nat.le_trans (Nat.le_succ L) (Nat.le_succ _)))
  have c14 : (114 : Nat) ≠ L + 1 := fun e => by rw [e] at l14; exact absurd l14 (Nat.not_lt.mpr (Nat.le_succ L))
  have c14' : (114 : Nat) ≠ L + 1 + 1 := fun e => by rw [e] at l14; exact absurd l14 (Nat.not_lt.mpr (Nat.le_trans (Nat.le_succ L) (Nat.le_succ _)))
  have cL : L + 1 + 1 ≠ L + 1 := Nat.ne_of_gt (Nat.lt_succ_self _)
  refine head2 (m₀ := m1) (s := { s with heap := h1, toks := tk1 }) (news := [(nu, LCg.lst nvs), (L + 1 + 1, ok), (107, tabObj #[]), (114, tabObj #[])]) (by rw [hov1]; exact F1) X
    (news_cons N1 (by repeat (first | exact List.Mem.head _ | apply List.Mem.tail)) (news_cons N1 (by repeat (first | exact List.Mem.head _ | apply List.Mem.tail)) (news_cons N1 (by repeat (first | exact List.Mem.head _ | apply List.Mem.tail)) (news_cons N1 (by repeat (first | exact List.Mem.head _ | apply List.Mem.tail)) (news_cons N1 (by repeat (first | exact List.Mem.head _ | apply List.Mem.tail)) news_nil))))) hso T hsb.1 (by omega) ?_ fun h2 tk2 osz' sz t' hs0 hs1 hosz F2 N2 => ?_
  · exact List.forall_mem_cons.mpr ⟨Ne.symm u2, List.forall_mem_cons.mpr ⟨cL, List.forall_mem_cons.mpr ⟨c7, List.forall_mem_cons.mpr ⟨c14, fun _ h => nomatch h⟩⟩⟩⟩
  rw [hov1] at F2
  refine head3 (m₀ := m1) (s := { s with heap := h2, toks := tk2 }) F2 X N2 hosz hs0 hs1 T fun h3 tk3 row dx bk bd tk₀ tt F3 N3 n1 nrk nrd ndk ndd nkd fr => ?_
  have f1 := fr (L + 1, osz') (by repeat (first | exact List.Mem.head _ | apply List.Mem.tail))
  have f2 := fr (L + 1 + 1, ok) (by repeat (first | exact List.Mem.head _ | apply List.Mem.tail))
  have f7 := fr (107, tabObj #[]) (by repeat (first | exact List.Mem.head _ | apply List.Mem.tail))
  have f14 := fr (114, tabObj #[]) (by repeat (first | exact List.Mem.head _ | apply List.Mem.tail))
  dsimp only at f1 f2 f7 f14
  obtain ⟨a1, a2, a3, a4⟩ := f1
  obtain ⟨b1, b2, b3, b4⟩ := f2
  obtain ⟨d1, d2, d3, d4⟩ := f7
  obtain ⟨e1, e2, e3, e4⟩ := f14
  refine wpAny_execs_cons ?_
  refine forA_c (s := { s with heap := h3, toks := tk3 }) (R := [(L + 1, osz'), (L + 1 + 1, ok), (114, tabObj #[])]) (row := row) (dx := dx) (bk := bk) (bd := bd) (nu := nu) (n := 0) (nk := 0) (nb := 0) (size := sz) (tk₀ := tk₀) (tk₁ := t') (tt := tt) (bkv := []) (bdv := [.int sz t']) (ps := #[]) F3 ?_ ?_ X T
    (news_cons N3 (by repeat (first | exact List.Mem.head _ | apply List.Mem.tail)) (news_cons N3 (by repeat (first | exact List.Mem.head _ | apply List.Mem.tail)) (news_cons N3 (by repeat (first | exact List.Mem.head _ | apply List.Mem.tail)) (news_cons N3 (by repeat (first | exact List.Mem.head _ | apply List.Mem.tail)) (news_cons N3 (by repeat (first | exact List.Mem.head _ | apply List.Mem.tail)) (news_cons N3 (by repeat (first | exact List.Mem.head _ | apply List.Mem.tail)) (news_cons N3 (by repeat (first | exact List.Mem.head _ | apply List.Mem.tail)) (news_cons N3 (by repeat (first | exact List.Mem.head _ | apply List.Mem.tail)) (news_cons N3 (by repeat (first | exact List.Mem.head _ | apply List.Mem.tail)) news_nil))))))))) hnI hlen hx (.inl rfl) hg
    IntsAre.nil (IntsAre.cons _ _ IntsAre.nil) hs0 hs1 n1 (Ne.symm d1) nrk nrd (Ne.symm d2) ndk ndd (Ne.symm d3) (Ne.symm d4) nkd ?_ fun s4 m4 tl n4 ps4 bkv nk bdv nb tt4 hl7 hbk hbd hsh hap hps4 hnm4 F4 N4 G4 o4 => ?_
  · show over [(Str.ofString "bounds", Value.ref bd), (Str.ofString "brackets", .ref bk), (Str.ofString "text", .str (Str.ofString "") tt), (Str.ofString "row", .ref row)] m1 (Str.ofString "numbers") = _
    simp only [over]
    rw [if_neg (by (try dsimp only); decide), if_neg (by (try dsimp only); decide), if_neg (by (try dsimp only); decide), if_neg (by (try dsimp only); decide)]
    exact hnu
  · intro q hq
    simp only [List.mem_cons, List.not_mem_nil, or_false] at hq
    rcases hq with rfl | rfl | rfl | rfl
    · rfl
    · rfl
    · rfl
    · rw [textOf_nil]; rfl
  · exact List.forall_mem_cons.mpr ⟨⟨a1, Ne.symm c7, a3, a4⟩, List.forall_mem_cons.mpr ⟨⟨b1, Ne.symm c7', b3, b4⟩, List.forall_mem_cons.mpr ⟨⟨e1, by (try dsimp only); decide, e3, e4⟩, fun _ h => nomatch h⟩⟩⟩
  dsimp only
  have hq1 := hnm4 (Str.ofString "row", .ref row) (by repeat (first | exact List.Mem.head _ | apply List.Mem.tail))
  have hq2 := hnm4 (Str.ofString "brackets", .ref bk) (by repeat (first | exact List.Mem.head _ | apply List.Mem.tail))
  have hq3 := hnm4 (Str.ofString "bounds", .ref bd) (by repeat (first | exact List.Mem.head _ | apply List.Mem.tail))
  have hq4 := hnm4 (Str.ofString "text", .str (textOf tl) tt4) (by repeat (first | exact List.Mem.head _ | apply List.Mem.tail))
  have t14 : ∀ e ∈ tl, e.T ≠ 114 := fun e he => Ne.symm ((hap e he).2 (114, tabObj #[]) (by repeat (first | exact List.Mem.head _ | apply List.Mem.tail)))
  have tK : ∀ e ∈ tl, e.T ≠ L + 1 + 1 := fun e he => Ne.symm ((hap e he).2 (L + 1 + 1, ok) (by repeat (first | exact List.Mem.head _ | apply List.Mem.tail)))
  have tS : ∀ e ∈ tl, e.T ≠ L + 1 := fun e he => Ne.symm ((hap e he).2 (L + 1, osz') (by repeat (first | exact List.Mem.head _ | apply List.Mem.tail)))
  have hlens : ∀ e ∈ tl, e.f.length + e.b.length ≤ 100 := fun e he => by have := shaped_lens hsh e he; omega
  have ment : ∀ {P : Addr × Obj → Prop}, (∀ e ∈ tl, P e.ent) → ∀ q ∈ tl.map TE.ent, P q := fun h q hq => by
    obtain ⟨e, he, rfl⟩ := List.mem_map.mp hq
    exact h e he
  have ment' : ∀ {P : Addr × Obj → Prop} {l}, (∀ e ∈ tl, P e.ent) → (∀ q ∈ l, P q) → ∀ q ∈ tl.map TE.ent ++ l, P q := fun h h' q hq => (List.mem_append.mp hq).elim (ment h q) (h' q)
  have hov4 : over [(Str.ofString "row", Value.ref row), (Str.ofString "text", .str (textOf tl) tt4)] m4 = m4 := over_eq fun q hq => by
    simp only [List.mem_cons, List.not_mem_nil, or_false] at hq
    rcases hq with rfl | rfl
    · exact hq1
    · exact hq4
  have entA : ∀ e ∈ tl, e.ent ∈ ledA w row dx bk bd tl n4 sz tk₀ t' ps4 bkv nk bdv nb [(L + 1, osz'), (L + 1 + 1, ok), (114, tabObj #[])] := fun e he => .tail _ (.tail _ (.tail _ (.tail _ (.tail _ (List.mem_append_left _ (List.mem_map_of_mem he))))))
  have endA : ∀ q ∈ [(L + 1, osz'), (L + 1 + 1, ok), (114, tabObj #[])], q ∈ ledA w row dx bk bd tl n4 sz tk₀ t' ps4 bkv nk bdv nb [(L + 1, osz'), (L + 1 + 1, ok), (114, tabObj #[])] := fun q hq => .tail _ (.tail _ (.tail _ (.tail _ (.tail _ (List.mem_append_right _ hq)))))
  refine str_seg (m₀ := m4) (s := s4) (tl := tl) (row := row) (dx := dx) (n := n4) (size := sz) (tk₀ := tk₀) (tk₁ := t') (qs := #[]) (tt := tt4) (rest := (107, tabObj ps4) :: (bk, W.listOf bkv.toArray nk) :: (bd, W.listOf bdv.toArray nb) :: (L + 1, osz') :: (L + 1 + 1, ok) :: tl.map TE.ent)
    (by rw [hov4]; exact F4) X ?_ T (.inl rfl) G4 (by omega) (fun e he => .tail _ (.tail _ (.tail _ (.tail _ (.tail _ (List.mem_map_of_mem he)))))) hlens n1 (Ne.symm e1) (Ne.symm e2) ?_ fun s5 qs hqs F5 N5 G5 o5 => ?_
  · refine news_cons N4 (by repeat (first | exact List.Mem.head _ | apply List.Mem.tail)) (news_cons N4 (by repeat (first | exact List.Mem.head _ | apply List.Mem.tail)) (news_cons N4 (endA _ (by repeat (first | exact List.Mem.head _ | apply List.Mem.tail))) (news_cons N4 (by repeat (first | exact List.Mem.head _ | apply List.Mem.tail)) (news_cons N4 (by repeat (first | exact List.Mem.head _ | apply List.Mem.tail)) (news_cons N4 (by repeat (first | exact List.Mem.head _ | apply List.Mem.tail)) (news_cons N4 (endA _ (by repeat (first | exact List.Mem.head _ | apply List.Mem.tail))) (news_cons N4 (endA _ (by repeat (first | exact List.Mem.head _ | apply List.Mem.tail))) ?_)))))))
    exact ment fun e he => N4 _ (entA e he)
  · exact List.forall_mem_cons.mpr ⟨by (try dsimp only); decide, List.forall_mem_cons.mpr ⟨Ne.symm e3, List.forall_mem_cons.mpr ⟨Ne.symm e4, List.forall_mem_cons.mpr ⟨Ne.symm c14, List.forall_mem_cons.mpr ⟨Ne.symm c14', ment t14⟩⟩⟩⟩⟩
  rw [hov4] at F5
  have ent5 : ∀ e ∈ tl, e.ent ∈ (row, rowObj (itemsOf tl) n4 dx) :: (dx, dictOf [dEnt w.params sz tk₀ t'] 1) :: (114, tabObj qs) :: (107, tabObj ps4) :: (bk, W.listOf bkv.toArray nk) :: (bd, W.listOf bdv.toArray nb) :: (L + 1, osz') :: (L + 1 + 1, ok) :: tl.map TE.ent := fun e he => .tail _ (.tail _ (.tail _ (.tail _ (.tail _ (.tail _ (.tail _ (.tail _ (List.mem_map_of_mem he))))))))
  refine wpAny_execs_cons ?_
  refine forC_c (m₀ := m4) (s := s5) (tl := tl) (size := sz) (bk := bk) (bd := bd) (bkv := bkv) (bdv := bdv) (nk := nk) (nb := nb) (ok := ok) (osz := osz') (tt := tt4) (rest := (row, rowObj (itemsOf tl) n4 dx) :: (dx, dictOf [dEnt w.params sz tk₀ t'] 1) :: (107, tabObj ps4) :: (114, tabObj qs) :: tl.map TE.ent) F5 ?_ X T ?_ hbk hbd hl7 hsh G5 hko hosz (by omega) hs1
    (Ne.symm b3) (Ne.symm b4) ?_ fun s6 m6 ok6 v6 hk6 hag6 F6 N6 G6 o6 => ?_
  · intro q hq
    simp only [List.mem_cons, List.not_mem_nil, or_false] at hq
    rcases hq with rfl | rfl | rfl
    · exact hq4
    · exact hq2
    · exact hq3
  · exact news_cons N5 (by repeat (first | exact List.Mem.head _ | apply List.Mem.tail)) (news_cons N5 (by repeat (first | exact List.Mem.head _ | apply List.Mem.tail)) (news_cons N5 (by repeat (first | exact List.Mem.head _ | apply List.Mem.tail)) (news_cons N5 (by repeat (first | exact List.Mem.head _ | apply List.Mem.tail)) (news_cons N5 (by repeat (first | exact List.Mem.head _ | apply List.Mem.tail)) (news_cons N5 (by repeat (first | exact List.Mem.head _ | apply List.Mem.tail)) (news_cons N5 (by repeat (first | exact List.Mem.head _ | apply List.Mem.tail)) (news_cons N5 (by repeat (first | exact List.Mem.head _ | apply List.Mem.tail)) (ment fun e he => N5 _ (ent5 e he)))))))))
  · exact List.forall_mem_cons.mpr ⟨Ne.symm b1, List.forall_mem_cons.mpr ⟨Ne.symm b2, List.forall_mem_cons.mpr ⟨c7', List.forall_mem_cons.mpr ⟨c14', ment tK⟩⟩⟩⟩
  dsimp only
  have ent6 : ∀ e ∈ tl, e.ent ∈ ledC L bk bd bkv nk bdv nb ok6 osz' ((row, rowObj (itemsOf tl) n4 dx) :: (dx, dictOf [dEnt w.params sz tk₀ t'] 1) :: (107, tabObj ps4) :: (114, tabObj qs) :: tl.map TE.ent) := fun e he => .tail _ (.tail _ (.tail _ (.tail _ (.tail _ (.tail _ (.tail _ (.tail _ (List.mem_map_of_mem he))))))))
  refine wpAny_execs_cons ?_
  refine forD_c (m := m6) (s := s6) (all := tl) (size := sz) (row := row) (dx := dx) (bd := bd) (bk := bk) (bkv := bkv) (nk := nk) (bdv := bdv) (nb := nb) (n := n4) (ps := ps4) (ok := ok6) (tk₀ := tk₀) (tk₁ := t') (R := (114, tabObj qs) :: (bk, W.listOf bkv.toArray nk) :: (L + 1, osz') :: tl.map TE.ent) F6
    ((hag6 _ (by (try dsimp only); decide) (by (try dsimp only); decide)).trans hq1) ((hag6 _ (by (try dsimp only); decide) (by (try dsimp only); decide)).trans hq3) ((hag6 _ (by (try dsimp only); decide) (by (try dsimp only); decide)).trans hq2) X T ?_ hsh hl7 hps4 G6 (fun e he => .tail _ (.tail _ (.tail _ (List.mem_map_of_mem he)))) (.tail _ (.head _)) hk6 hbk hbd (by omega) hs1
    n1 (Ne.symm d1) nrd (Ne.symm d2) ndd (Ne.symm d4) (Ne.symm b1) (Ne.symm b2) c7' (Ne.symm b4) ?_ ?_ ?_ fun s7 m7 n7 ps7 ok7 hps7 hag7 F7 N7 G7 o7 => ?_
  · exact news_cons N6 (by repeat (first | exact List.Mem.head _ | apply List.Mem.tail)) (news_cons N6 (by repeat (first | exact List.Mem.head _ | apply List.Mem.tail)) (news_cons N6 (by repeat (first | exact List.Mem.head _ | apply List.Mem.tail)) (news_cons N6 (by repeat (first | exact List.Mem.head _ | apply List.Mem.tail)) (news_cons N6 (by repeat (first | exact List.Mem.head _ | apply List.Mem.tail)) (news_cons N6 (by repeat (first | exact List.Mem.head _ | apply List.Mem.tail)) (news_cons N6 (by repeat (first | exact List.Mem.head _ | apply List.Mem.tail)) (news_cons N6 (by repeat (first | exact List.Mem.head _ | apply List.Mem.tail)) (ment fun e he => N6 _ (ent6 e he)))))))))
  · exact List.forall_mem_cons.mpr ⟨e1, List.forall_mem_cons.mpr ⟨Ne.symm nrk, List.forall_mem_cons.mpr ⟨a1, ment fun e he => (hap e he).1.1⟩⟩⟩
  · exact List.forall_mem_cons.mpr ⟨by (try dsimp only); decide, List.forall_mem_cons.mpr ⟨Ne.symm d3, List.forall_mem_cons.mpr ⟨Ne.symm c7, ment fun e he => (hap e he).1.2.1⟩⟩⟩
  · exact List.forall_mem_cons.mpr ⟨c14', List.forall_mem_cons.mpr ⟨Ne.symm b3, List.forall_mem_cons.mpr ⟨Ne.symm cL, ment tK⟩⟩⟩
  dsimp only
  have hov7 : over [(Str.ofString "row", Value.ref row)] m7 = m7 := over_eq fun q hq => by
    simp only [List.mem_cons, List.not_mem_nil, or_false] at hq
    rw [hq]
    exact (hag7 _ (by (try dsimp only); decide) (by (try dsimp only); decide)).trans ((hag6 _ (by (try dsimp only); decide) (by (try dsimp only); decide)).trans hq1)
  refine ret_seg (m₀ := m7) (s := s7) (row := row) (dx := dx) (n := n7) (size := sz) (tk₀ := tk₀) (tk₁ := t') (ps := ps7) (osz := osz') (rest := [(114, tabObj qs)]) (by rw [hov7]; exact F7) X T
    (news_cons N7 (by repeat (first | exact List.Mem.head _ | apply List.Mem.tail)) (news_cons N7 (by repeat (first | exact List.Mem.head _ | apply List.Mem.tail)) (news_cons N7 (by repeat (first | exact List.Mem.head _ | apply List.Mem.tail)) (news_cons N7 (by repeat (first | exact List.Mem.head _ | apply List.Mem.tail)) (news_cons N7 (by repeat (first | exact List.Mem.head _ | apply List.Mem.tail)) news_nil))))) hps7 G7 hosz (by omega) (by omega) n1 (Ne.symm d1) (Ne.symm d2) (Ne.symm a1) (Ne.symm a2) c7 (List.forall_mem_cons.mpr ⟨e1, fun _ h => nomatch h⟩) (List.forall_mem_cons.mpr ⟨by (try dsimp only); decide, fun _ h => nomatch h⟩) fun s8 m8 ps8 hps8 F8 N8 G8 o8 => ?_
  exact ⟨rfl, F8.keep, o8.trans (o7.trans (o6.trans (o5.trans o4))), G8, ⟨_, (N8 _ (.head _)).1⟩, ⟨_, (N8 _ (.tail _ (.head _))).1⟩, trivial⟩
theorem start : PySem.Challenge.rw_pe0060_01.Holds := start_of lawGoal'
end Mine
end
section
open PySem PySem.W PyProof.Rows
namespace Mine
theorem fresh50 : True ∧ True := by
  k_with_none
  first | (walk1; fail) | (w_top off; exact ⟨trivial, trivial⟩)
end Mine
end
theorem PySem.Challenge.cw_pe0060_01_holds : PySem.Challenge.rw_pe0060_01.Holds :=
  Mine.start
