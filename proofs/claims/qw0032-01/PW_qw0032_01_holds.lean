import PyProof.Rows.All
import Wide.All
import OpenK.AllK
import Wide.FinOn
import PySem.Challenge.RW_qw0032_01
section
open PySem PySem.W PyProof.Rows
set_option Elab.async false
set_option maxRecDepth 100000
set_option maxHeartbeats 8000000
namespace Mine
set_option synthInstance.maxSize 1 in
open_top hd for PySem.Challenge.rw_qw0032_01
end Mine
end
section
open PySem PySem.W PyProof.Rows PySem.Calls
set_option Elab.async false
set_option maxRecDepth 100000
set_option maxHeartbeats 8000000
namespace Mine

noncomputable abbrev PP : Program := PySem.Challenge.rw_qw0032_01.prog

/-- a fixed surrounding, by level -/
def Lv (n : Nat) : Around := { handled := none, depth := 400 + n, frames := none, guards := none, units := 100 + 10 * n }

theorem wpAny_lv {α : Type} {M : Model} {A A' : Around} {t : Sem α} {Q : α → Shared → Prop} {E : Value → Shared → Prop} {s : Shared}
    (h : wpAny M A' t Q E s) (h1 : A'.handled = A.handled) (h2 : A.depth ≤ A'.depth) (h3 : A'.frames = none) (h4 : A'.guards = none) (h5 : A.units ≤ A'.units) : wpAny M A t Q E s :=
  fun Γ p hΓ => h Γ p ⟨hΓ.1.trans h1.symm, Nat.le_trans hΓ.2.1 h2, (fun l hl => by rw [h3] at hl; cases hl), (fun l hl => by rw [h4] at hl; cases hl), Nat.le_trans hΓ.2.2.2.2 h5⟩

theorem enter_def {prog : Program} {w : World} {A : Around} {s : Shared} {K : Frag} {p : Program} {loose : List Str} {mean : ExcName → Option Value} {mg mb : Str → Option Value}
    {Q E : Value → Shared → Prop} {name qual : Str} {params : Arguments} {body : List Stmt} {scope : Scope} {dV kV doc pm cdv ct oc : Value} {an od : Option Addr} {osl : Array (Option Value)} {f : Addr} {args : List Value} {binds : List (Str × Value)}
    (X : K.In s.heap) (T : Top p loose mean mg mb s.heap)
    (ho : K.lookup f = some ⟨oc, od, .func (fnOf name qual params body scope dV kV doc pm an cdv ct), osl⟩) (hcd : codeIn K cdv qual = true) (hroom : A.depth < recursionLimit)
    (hbind : BindsTo s (fnOf name qual params body scope dV kV doc pm an cdv ct) ⟨args, []⟩ binds) (hloc : ∀ y ∈ binds, scope.names.lookup y.1 = some .local)
    (h : ∀ L' h₁ tk, L' = s.heap.objs.size → Fr s.heap L' h₁ (fun y => binds.reverse.lookup y) → News s.heap L' h₁ [] →
      wpAny (model prog w) (A.deeper (envOf qual scope L' f cdv)) (execs body (envOf qual scope L' f cdv))
        (fun fl s' => Q (match fl with | .ret v => v | _ => .none) s') (fun _ _ => False)
        { s with heap := h₁, toks := tk })
    (hco : scope.isCoroutine = false) (hgen : scope.isGenerator = false) (hk : scope.kind = .function)
    (hcell : ∀ x ∈ scope.names, x.2 ≠ .cell) : wpAny (model prog w) A (call (.ref f) args) Q E s := by
  refine wpAny_call (codeAny_call_def (fd := fnOf name qual params body scope dV kV doc pm an cdv ct) (body := body) (binds := binds) hroom (X _ _ ho) rfl T.nolimit (codeRec_of X hcd) rfl hbind hcell hloc (fun h₁ hns hk₁ => ?_) hco hgen hk)
  exact wpAny_mono (h _ h₁ _ rfl ⟨hns, hk₁, Nat.le_refl _⟩ News.nil) (fun _ _ x => x) (fun _ _ x => x.elim)

/-- what a call of a def of the text yields: the heap only grows -/
def Gives (f : Addr) (n : Nat) (w : World) (args : List Value) (pre : Heap → Prop) (post : Value → Heap → Heap → Prop) : Prop :=
  ∀ (prog : Program) (A : Around) (s : Shared) (p : Program) (loose : List Str) (mean : ExcName → Option Value) (mg mb : Str → Option Value) (Q E : Value → Shared → Prop),
    (hd.heap_39 w.params).In s.heap → Top p loose mean mg mb s.heap → A.handled = none → A.depth ≤ 400 + n → A.units ≤ 100 + 10 * n → pre s.heap →
    (∀ v h' tk', s.heap.StaysIn h' → post v s.heap h' → Q v { s with heap := h', toks := tk' }) →
    wpAny (model prog w) A (call (.ref f) args) Q E s

theorem Fr.grow {h₀ h h' : Heap} {L : Addr} {m : Str → Option Value} (F : Fr h₀ L h m) (k : h.StaysIn h') : Fr h₀ L h' m := by
  obtain ⟨oL, es, ep, hL, r⟩ := F.ns
  exact ⟨⟨oL, es, ep, k _ _ hL, r⟩, fun b o e => k _ _ (F.keep b o e), F.above⟩
theorem News.grow {h₀ h h' : Heap} {L : Addr} {news : List (Addr × Obj)} (N : News h₀ L h news) (k : h.StaysIn h') : News h₀ L h' news :=
  fun p hp => ⟨k _ _ (N p hp).1, (N p hp).2⟩

/-- a stop for the walk -/
def Hold (P : Prop) : Prop := P
theorem Hold.out {P : Prop} (h : Hold P) : P := h

/-- the written part at the tactics' hand -/
theorem fill_it : PySem.Challenge.rw_qw0032_01.prog = PySem.Challenge.rw_qw0032_01.prog ∧ hd.heap_39 = hd.heap_39 := by
  w_top off; k_fill; exact ⟨rfl, rfl⟩


theorem use_gives {f : Addr} {n : Nat} {w : World} {args : List Value} {pre : Heap → Prop} {post : Value → Heap → Heap → Prop} (G : Gives f n w args pre post)
    {prog : Program} {A : Around} {s : Shared} {p : Program} {loose : List Str} {mean : ExcName → Option Value} {mg mb : Str → Option Value} {Q E : Value → Shared → Prop}
    {h₀ : Heap} {L : Addr} {m : Str → Option Value} {news : List (Addr × Obj)} (F : Fr h₀ L s.heap m) (N : News h₀ L s.heap news) (X : (hd.heap_39 w.params).In h₀) (T : Top p loose mean mg mb h₀)
    (hh : A.handled = none) (hd : A.depth ≤ 400 + n) (hu : A.units ≤ 100 + 10 * n) (hp : pre s.heap)
    (k : ∀ v h' tk', Fr h₀ L h' m → News h₀ L h' news → s.heap.StaysIn h' → post v s.heap h' → Q v { s with heap := h', toks := tk' }) :
    wpAny (model prog w) A (call (.ref f) args) Q E s :=
  G _ _ _ _ _ _ _ _ _ _ (X.keeps F.keep) (T.keeps F.keep) hh hd hu hp fun v h' tk' hs hp' => k v h' tk' (Fr.grow F hs) (News.grow N hs) hs hp'

def AllNe (d : Nat) : List (Addr × Obj) → Prop
  | [] => True
  | p :: r => @Ne Nat p.1 d ∧ AllNe d r
theorem allNe_of {d : Addr} : ∀ {l : List (Addr × Obj)}, (∀ p ∈ l, p.1 ≠ d) → AllNe d l
  | [], _ => trivial
  | p :: _, h => ⟨h p (.head _), allNe_of fun q hq => h q (.tail _ hq)⟩

theorem use_new {f : Addr} {n : Nat} {w : World} {args : List Value} {pre : Heap → Prop} {X : Type} {obj : X → Obj} {P : X → Prop} (G : Gives f n w args pre (fun v h h' => ∃ D x, v = .ref D ∧ h.get? D = none ∧ h'.get? D = some (obj x) ∧ P x))
    {prog : Program} {A : Around} {s : Shared} {p : Program} {loose : List Str} {mean : ExcName → Option Value} {mg mb : Str → Option Value} {Q E : Value → Shared → Prop}
    {h₀ : Heap} {L : Addr} {m : Str → Option Value} {news : List (Addr × Obj)} (F : Fr h₀ L s.heap m) (N : News h₀ L s.heap news) (X : (hd.heap_39 w.params).In h₀) (T : Top p loose mean mg mb h₀)
    (hh : A.handled = none) (hd : A.depth ≤ 400 + n) (hu : A.units ≤ 100 + 10 * n) (hp : pre s.heap)
    (k : ∀ D x h' tk', Fr h₀ L h' m → News h₀ L h' ((D, obj x) :: news) → (∀ p ∈ news, p.1 ≠ D) → s.heap.StaysIn h' → P x → Q (.ref D) { s with heap := h', toks := tk' }) :
    wpAny (model prog w) A (call (.ref f) args) Q E s :=
  use_gives G F N X T hh hd hu hp fun v h' tk' F' N' hs ⟨D, x, e, hD, hd', hP⟩ => by
    subst e
    refine k D x h' tk' F' (fun q hq => ?_) (fun q hq e => ?_) hs hP
    · rcases List.mem_cons.mp hq with rfl | hq
      · refine ⟨hd', fun e => ?_, ?_⟩
        · obtain ⟨oL, _, _, hL, _⟩ := F.ns
          have e' : D = L := e
          rw [e', hL] at hD; cases hD
        · cases z : h₀.get? D with
          | none => rfl
          | some o => rw [F.keep _ _ z] at hD; cases hD
      · exact N' q hq
    · have := (N q hq).1
      rw [e, hD] at this; cases this

theorem enter_defC {prog : Program} {w : World} {A : Around} {s : Shared} {K : Frag} {p : Program} {loose : List Str} {mean : ExcName → Option Value} {mg mb : Str → Option Value}
    {Q E : Value → Shared → Prop} {name qual : Str} {params : Arguments} {body : List Stmt} {scope : Scope} {dV kV doc pm cdv ct oc : Value} {an od : Option Addr} {osl : Array (Option Value)} {f : Addr} {args : List Value} {binds : List (Str × Value)}
    (X : K.In s.heap) (T : Top p loose mean mg mb s.heap)
    (ho : K.lookup f = some ⟨oc, od, .func (fnOf name qual params body scope dV kV doc pm an cdv ct), osl⟩) (hcd : codeIn K cdv qual = true) (hroom : A.depth < recursionLimit)
    (hbind : BindsTo s (fnOf name qual params body scope dV kV doc pm an cdv ct) ⟨args, []⟩ binds) (hkind : (binds.all fun y => scope.names.lookup y.1 == some .local || scope.names.lookup y.1 == some .cell) = true)
    (hnd : ((cellsFrom 0 scope.names []).map (·.1)).Nodup)
    (h : ∀ L' h₁ tk cells, L' = s.heap.objs.size → Fr s.heap L' h₁ (bindL (envOfC qual scope L' f cdv).kindOf binds fun _ => none) → News s.heap L' h₁ cells →
      CellsAre (bindC (envOfC qual scope L' f cdv).kindOf binds fun _ => none) (cellsFrom (L' + 1) scope.names []) cells →
      wpAny (model prog w) (A.deeper (envOfC qual scope L' f cdv)) (execs body (envOfC qual scope L' f cdv))
        (fun fl s' => Q (match fl with | .ret v => v | _ => .none) s') (fun _ _ => False)
        { s with heap := h₁, toks := tk })
    (hco : scope.isCoroutine = false) (hgen : scope.isGenerator = false) (hk : scope.kind = .function) : wpAny (model prog w) A (call (.ref f) args) Q E s := by
  refine wpAny_call (codeAny_call_function (fd := fnOf name qual params body scope dV kV doc pm an cdv ct) (body := body) hroom (X _ _ ho) rfl hco hgen rfl (codeRec_of X hcd) (hbind _ _ _ _ ?_))
  refine wpAny_newFunctionEnv_cells hk (kindsX hkind _) fun env' he s' x => ?_
  subst he
  refine ⟨T.nolimit.keeps x.toInCall.keep, codeAny_func ?_⟩
  obtain ⟨h₁, tk, rfl, _⟩ := x.done
  have hk₁ := x.toInCall.keep
  obtain ⟨cells, NC, Y⟩ := Cl.news (h₀ := s.heap) (Nat.le_refl _) fun n c hm => ⟨x.cell n c (lookup_of_mem_nodup (cellsFrom_names scope.names 0 (s.heap.objs.size + 1) [] [] rfl ▸ hnd) hm), x.above n c hm⟩
  exact wpAny_mono (h _ h₁ tk cells rfl ⟨x.toInCall.ns, hk₁, Nat.le_refl _⟩ NC Y) (fun _ _ x => x) (fun _ _ x => x.elim)

theorem enter_rest {prog : Program} {w : World} {A : Around} {s : Shared} {K : Frag} {p : Program} {loose : List Str} {mean : ExcName → Option Value} {mg mb : Str → Option Value}
    {Q E : Value → Shared → Prop} {name qual : Str} {params : Arguments} {body : List Stmt} {scope : Scope} {dV kV doc pm cdv ct oc : Value} {an od : Option Addr} {osl : Array (Option Value)} {f : Addr} {args vs : List Value} {binds : Addr → List (Str × Value)}
    (X : K.In s.heap) (T : Top p loose mean mg mb s.heap)
    (ho : K.lookup f = some ⟨oc, od, .func (fnOf name qual params body scope dV kV doc pm an cdv ct), osl⟩) (hcd : codeIn K cdv qual = true) (hroom : A.depth < recursionLimit)
    (hbind : bindArgs (fnOf name qual params body scope dV kV doc pm an cdv ct) ⟨args, []⟩ = (alloc { cls := .type "tuple", data := .seq vs.toArray } >>= fun D => pure (binds D))) (hloc : ∀ D, ∀ y ∈ binds D, scope.names.lookup y.1 = some .local)
    (h : ∀ D L' h₁ tk, D < L' → Fr s.heap L' h₁ (fun y => (binds D).reverse.lookup y) → News s.heap L' h₁ [(D, ({ cls := .type "tuple", data := .seq vs.toArray } : Obj))] →
      wpAny (model prog w) (A.deeper (envOf qual scope L' f cdv)) (execs body (envOf qual scope L' f cdv))
        (fun fl s' => Q (match fl with | .ret v => v | _ => .none) s') (fun _ _ => False)
        { s with heap := h₁, toks := tk })
    (hco : scope.isCoroutine = false) (hgen : scope.isGenerator = false) (hk : scope.kind = .function)
    (hcell : ∀ x ∈ scope.names, x.2 ≠ .cell) : wpAny (model prog w) A (call (.ref f) args) Q E s := by
  refine wpAny_call (codeAny_call_function (fd := fnOf name qual params body scope dV kV doc pm an cdv ct) (body := body) hroom (X _ _ ho) rfl hco hgen rfl (codeRec_of X hcd) ?_)
  rw [hbind]
  refine wpAny_bind (wpAny_alloc (wpAny_pure ?_))
  have up : ∀ b o, s.heap.get? b = some o → (s.heap.push { cls := .type "tuple", data := .seq vs.toArray }).get? b = some o := fun b o e => Heap.get?_push_of_some _ e
  refine wpAny_newFunctionEnv hcell (hloc _) (fun h₁ hns hsb => ⟨(T.nolimit.keeps up).fresh _ hsb, codeAny_func ?_⟩) hk
  have hk₁ : ∀ b o, (s.heap.push { cls := .type "tuple", data := .seq vs.toArray }).get? b = some o → h₁.get? b = some o := fun b o e => hsb.extBut b o (Nat.ne_of_lt (Heap.lt_size e)) (Heap.get?_push_of_some _ e)
  have hlt : s.heap.objs.size < (s.heap.push { cls := .type "tuple", data := .seq vs.toArray }).objs.size := by rw [Heap.size_push]; exact Nat.lt_succ_self _
  refine wpAny_mono (h s.heap.objs.size _ h₁ _ hlt ⟨hns, fun b o e => hk₁ b o (up b o e), Nat.le_of_lt hlt⟩ (fun q hq => ?_)) (fun _ _ x => x) (fun _ _ x => x.elim)
  obtain rfl := List.mem_singleton.mp hq
  exact ⟨hk₁ _ _ (Heap.get?_push_size _ rfl), Nat.ne_of_lt hlt, Heap.get?_none_of_le (Nat.le_refl _)⟩

end Mine
end
section
open PySem PySem.W PyProof.Rows PySem.Calls
set_option Elab.async false
set_option maxRecDepth 100000
set_option maxHeartbeats 8000000
namespace Mine
theorem fill_here1 : True := by w_top off; trivial

theorem kind_isn : builtinKind "issubclass.nested" = none := by decide +kernel
theorem plain_isn : plainId "issubclass.nested" = true := by decide +kernel
theorem args_isn (a b c : Value) : argsOk "issubclass.nested" ⟨[a, b, c], []⟩ := by unfold argsOk; kernel_rfl

theorem isn_str_str {prog : Program} {w : World} {A : Around} {E : Value → Shared → Prop} {s : Shared} {k : Value} {dep : Int} {tk : Tok} {Q : Fin → Shared → Prop} (hk : k = .int dep tk) (hq : Q (.done (.ret (.bool true))) s) :
    wpAny (model prog w) A (Builtin.«issubclass.nested» ⟨[.type "str", .type "str", k], []⟩) Q E s := by
  subst hk
  have hm : (Value.type "type" == Value.type "type") = true := by decide
  have hself := F.sub_str_str
  have hm := F.isi_meta_str
  repeat (any_goals (first | assumption | (rw [hself]) | wp_step))

theorem isn_tuple {prog : Program} {w : World} {A : Around} {E : Value → Shared → Prop} {tp : Addr} {cs rest : List Value} {tk : Tok} {s : Shared} {Q : Fin → Shared → Prop}
    (htp : s.heap.get? tp = some { cls := .type "tuple", data := .seq cs.toArray }) (hcs : cs = Value.type "str" :: rest)
    (hq : Q (.done (.ret (.bool true))) s) : wpAny (model prog w) A (Builtin.«issubclass.nested» ⟨[.type "str", .ref tp, .int 0 tk], []⟩) Q E s := by
  obtain ⟨h, g, d, t, os⟩ := s
  have hT2 : (⟨h, g, d, t, os⟩ : Shared).TypeIs (.ref tp) "tuple" := ⟨_, htp, rfl⟩
  have f1 := F.isi_sub_tuple
  repeat (any_goals (first | assumption | wp_step))
  refine wpAny_arrayLoop ?_
  simp only [Option.getD_some, List.toList_toArray]
  rw [hcs, List.forIn_cons]
  refine wpAny_bind (wpAny_bind (call_function_meets kind_isn plain_isn F.entry_issubclass_nested (args_isn _ _ _) (S := fun _ R s => R (.ok (.ret (.bool true))) s) (fun _ _ _ _ _ hs => isn_str_str rfl hs) ?_))
  refine wpAny_bind (m := truthy (.bool true)) (wpAny_pure ?_)
  refine wpAny_bind (wpAny_pure (wpAny_pure (wpAny_pure ?_)))
  repeat (any_goals (first | assumption | wp_step))

theorem call_issub_str {prog : Program} {w : World} {A : Around} {E : Value → Shared → Prop} {s : Shared} {Q : Value → Shared → Prop} {tp : Addr} {rest : List Value}
    (htp : s.heap.get? tp = some { cls := .type "tuple", data := .seq (Value.type "str" :: rest).toArray }) (hq : Q (.bool true) s) :
    wpAny (model prog w) A (call (.builtin "issubclass") [.type "str", .ref tp]) Q E s :=
  call_issubclass (S := fun _ R s => s.heap.get? tp = some { cls := .type "tuple", data := .seq (Value.type "str" :: rest).toArray } ∧ R (.ok (.ret (.bool true))) s) (fun _ _ _ _ _ hs => issubclass_outer (isn_tuple hs.1 rfl hs.2)) ⟨htp, hq⟩

local macro_rules | `(tactic| walk_at "call builtin:issubclass") => `(tactic| (k_here; k_dflt (refine' call_issub_str ?k1 ?_; (case k1 => exact News.get (by k_asm) (by k_mem)); k_whole)))

theorem fspath_gives (w : World) (a : Str) (ta : Tok) : Gives 94 30 w [.str a ta] (fun _ => True) (fun v _ _ => v = .str a ta) := by
  (intro prog A s p loose mean mg mb Q E X T hh hd hu hpre hret; refine wpAny_lv (A' := Lv 30) ?_ hh.symm hd rfl rfl hu; clear hh hd hu)
  (k_dflt (refine' enter_def (binds := [("path", .str a ta)]) ?k1_q1 ?k2_q1 ?k6_q1 ?k7_q1 ?k8_q1 ?k9_q1 ?kB_q1 ?_ ?c2_q1 ?c3_q1 ?c4_q1 ?c5_q1; (case k1_q1 => assumption); (case k2_q1 => assumption); (case k6_q1 => k_is); (case k7_q1 => k_is); (case k8_q1 => decide); (case k9_q1 => exact BindsTo.of_eq rfl); (case kB_q1 => exact locs rfl); (case c2_q1 => exact rfl); (case c3_q1 => exact rfl); (case c4_q1 => exact rfl); (case c5_q1 => decide); k_whole); intro L' h' tk' eL F' N'; (try dsimp only); (try k_fold))
  k_steps
  all_goals (rename Fr _ _ _ _ => kF; exact hret _ _ _ kF.keep rfl)
theorem getsep_gives (w : World) (a : Str) (ta : Tok) : Gives 108 30 w [.str a ta] (fun _ => True) (fun v _ _ => ∃ t, v = .str "/" t) := by
  (intro prog A s p loose mean mg mb Q E X T hh hd hu hpre hret; refine wpAny_lv (A' := Lv 30) ?_ hh.symm hd rfl rfl hu; clear hh hd hu)
  (k_dflt (refine' enter_def (binds := [("path", .str a ta)]) ?k1_q2 ?k2_q2 ?k6_q2 ?k7_q2 ?k8_q2 ?k9_q2 ?kB_q2 ?_ ?c2_q2 ?c3_q2 ?c4_q2 ?c5_q2; (case k1_q2 => assumption); (case k2_q2 => assumption); (case k6_q2 => k_is); (case k7_q2 => k_is); (case k8_q2 => decide); (case k9_q2 => exact BindsTo.of_eq rfl); (case kB_q2 => exact locs rfl); (case c2_q2 => exact rfl); (case c3_q2 => exact rfl); (case c4_q2 => exact rfl); (case c5_q2 => decide); k_whole); intro L' h' tk' eL F' N'; (try dsimp only); (try k_fold))
  k_steps
  all_goals (rename Fr _ _ _ _ => kF; exact hret _ _ _ kF.keep ⟨_, rfl⟩)
theorem strcoll_gives (w : World) (a b : Str) (ta tb : Tok) : Gives 136 30 w [.str a ta, .str b tb] (fun _ => True) (fun v _ _ => ∃ t, v = .int (b2i (decide (b.cps.toList < a.cps.toList)) - b2i (decide (a.cps.toList < b.cps.toList))) t) := by
  (intro prog A s p loose mean mg mb Q E X T hh hd hu hpre hret; refine wpAny_lv (A' := Lv 30) ?_ hh.symm hd rfl rfl hu; clear hh hd hu)
  (k_dflt (refine' enter_def (binds := [("a", .str a ta), ("b", .str b tb)]) ?k1_q3 ?k2_q3 ?k6_q3 ?k7_q3 ?k8_q3 ?k9_q3 ?kB_q3 ?_ ?c2_q3 ?c3_q3 ?c4_q3 ?c5_q3; (case k1_q3 => assumption); (case k2_q3 => assumption); (case k6_q3 => k_is); (case k7_q3 => k_is); (case k8_q3 => decide); (case k9_q3 => exact BindsTo.of_eq rfl); (case kB_q3 => exact locs rfl); (case c2_q3 => exact rfl); (case c3_q3 => exact rfl); (case c4_q3 => exact rfl); (case c5_q3 => decide); k_whole); intro L' h' tk' eL F' N'; (try dsimp only); (try k_fold))
  k_steps
  all_goals (rename Fr _ _ _ _ => kF; exact hret _ _ _ kF.keep ⟨_, rfl⟩)
end Mine
end
section
open PySem PySem.W PyProof.Rows PySem.Calls
set_option Elab.async false
set_option maxRecDepth 100000
set_option maxHeartbeats 8000000
namespace Mine
theorem fill_here2 : True := by w_top off; trivial

def splitTail (a : Str) : Str := Txt.slice a (some (Txt.rfind a "/" + 1)) none
def splitFront (a : Str) : Str := Txt.slice a none (some (Txt.rfind a "/" + 1))
def splitHead (a : Str) : Str := if (splitFront a).length ≠ 0 ∧ (splitFront a != Txt.mul "/" ((splitFront a).length : Int)) = true then Txt.rstripChars (splitFront a) "/" else splitFront a
def joinF (a b : Str) : Str := if Txt.startswith b "/" = true ∨ a.length = 0 then b else if Txt.endswith a "/" = true then a ++ b else a ++ (("/" : Str) ++ b)

section
local macro_rules | `(tactic| walk_at "call ref") => `(tactic| (k_here; (k_dflt (refine' use_gives (fspath_gives _ _ _) ?k1 ?k2 ?k3 ?k4 ?k5 ?k6 ?k7 ?k8 ?_; (case k1 => k_asm); (case k2 => k_asm); (case k3 => k_asm); (case k4 => k_asm); (case k5 => exact rfl); (case k6 => exact Nat.le_of_ble_eq_true rfl); (case k7 => exact Nat.le_of_ble_eq_true rfl); (case k8 => first | exact trivial | assumption); k_whole)); intro v9 h' tk' F' N' hs9 hp9; subst hp9; clear hs9; (try dsimp only); (try k_fold)))
local macro_rules | `(tactic| walk_at "call ref") => `(tactic| (k_here; (k_dflt (refine' use_gives (getsep_gives _ _ _) ?k1 ?k2 ?k3 ?k4 ?k5 ?k6 ?k7 ?k8 ?_; (case k1 => k_asm); (case k2 => k_asm); (case k3 => k_asm); (case k4 => k_asm); (case k5 => exact rfl); (case k6 => exact Nat.le_of_ble_eq_true rfl); (case k7 => exact Nat.le_of_ble_eq_true rfl); (case k8 => first | exact trivial | assumption); k_whole)); intro v9 h' tk' F' N' hs9 hp9; obtain ⟨t9, hp9⟩ := hp9; subst hp9; clear hs9; (try dsimp only); (try k_fold)))

theorem basename_gives (w : World) (a : Str) (ta : Tok) (hl : a.length ≤ 1000) : Gives 129 20 w [.str a ta] (fun _ => True) (fun v _ _ => ∃ t, v = .str (splitTail a) t) := by
  (intro prog A s p loose mean mg mb Q E X T hh hd hu hpre hret; refine wpAny_lv (A' := Lv 20) ?_ hh.symm hd rfl rfl hu; clear hh hd hu)
  (k_dflt (refine' enter_def (binds := [("p", .str a ta)]) ?k1_q4 ?k2_q4 ?k6_q4 ?k7_q4 ?k8_q4 ?k9_q4 ?kB_q4 ?_ ?c2_q4 ?c3_q4 ?c4_q4 ?c5_q4; (case k1_q4 => assumption); (case k2_q4 => assumption); (case k6_q4 => k_is); (case k7_q4 => k_is); (case k8_q4 => decide); (case k9_q4 => exact BindsTo.of_eq rfl); (case kB_q4 => exact locs rfl); (case c2_q4 => exact rfl); (case c3_q4 => exact rfl); (case c4_q4 => exact rfl); (case c5_q4 => decide); k_whole); intro L' h' tk' eL F' N'; (try dsimp only); (try k_fold))
  k_steps
  all_goals (rename Fr _ _ _ _ => kF; exact hret _ _ _ kF.keep ⟨_, rfl⟩)

theorem split_gives (w : World) (a : Str) (ta : Tok) (hl : a.length ≤ 1000) : Gives 122 20 w [.str a ta] (fun _ => True)
    (fun v h h' => ∃ D x, v = .ref D ∧ h.get? D = none ∧ h'.get? D = some ((fun x : Tok × Tok => ({ cls := .type "tuple", data := .seq #[.str (splitHead a) x.1, .str (splitTail a) x.2] } : Obj)) x) ∧ (fun _ => True) x) := by
  (intro prog A s p loose mean mg mb Q E X T hh hd hu hpre hret; refine wpAny_lv (A' := Lv 20) ?_ hh.symm hd rfl rfl hu; clear hh hd hu)
  (k_dflt (refine' enter_def (binds := [("p", .str a ta)]) ?k1_q5 ?k2_q5 ?k6_q5 ?k7_q5 ?k8_q5 ?k9_q5 ?kB_q5 ?_ ?c2_q5 ?c3_q5 ?c4_q5 ?c5_q5; (case k1_q5 => assumption); (case k2_q5 => assumption); (case k6_q5 => k_is); (case k7_q5 => k_is); (case k8_q5 => decide); (case k9_q5 => exact BindsTo.of_eq rfl); (case kB_q5 => exact locs rfl); (case c2_q5 => exact rfl); (case c3_q5 => exact rfl); (case c4_q5 => exact rfl); (case c5_q5 => decide); k_whole); intro L' h' tk' eL F' N'; (try dsimp only); (try k_fold))
  k_steps
  all_goals (
    have e : splitHead a = splitHead a := rfl
    conv at e => rhs; unfold splitHead splitFront
    first
      | rw [if_pos ⟨by omega, by assumption⟩] at e
      | rw [if_neg (by intro q; simp_all)] at e
    rename Fr _ _ _ _ => kF
    rename News _ _ _ _ => kN
    exact hret _ _ _ kF.keep ⟨_, (_, _), rfl, kN.fresh (.head _), (kN.get (.head _)).trans (by rw [e]; rfl), trivial⟩)

theorem join_gives (w : World) (a b : Str) (ta tb : Tok) (hl : a.length ≤ 1000) (hl2 : b.length ≤ 1000) : Gives 115 20 w [.str a ta, .str b tb] (fun _ => True) (fun v _ _ => ∃ t, v = .str (joinF a b) t) := by
  (intro prog A s p loose mean mg mb Q E X T hh hd hu hpre hret; refine wpAny_lv (A' := Lv 20) ?_ hh.symm hd rfl rfl hu; clear hh hd hu)
  (k_dflt (refine' enter_rest (binds := (fun D => [("a", .str a ta), ("p", .ref D)])) (vs := [.str b tb]) ?k1_q6 ?k2_q6 ?k6_q6 ?k7_q6 ?k8_q6 ?k9_q6 ?kB_q6 ?_ ?c2_q6 ?c3_q6 ?c4_q6 ?c5_q6; (case k1_q6 => assumption); (case k2_q6 => assumption); (case k6_q6 => k_is); (case k7_q6 => k_is); (case k8_q6 => decide); (case k9_q6 => exact rfl); (case kB_q6 => exact fun _ => locs rfl); (case c2_q6 => exact rfl); (case c3_q6 => exact rfl); (case c4_q6 => exact rfl); (case c5_q6 => decide); k_whole); intro D' L' h' tk' eL F' N'; (try dsimp only); (try k_fold))
  k_steps
  all_goals (
    have e : joinF a b = joinF a b := rfl
    conv at e => rhs; unfold joinF
    simp only [*, true_or, or_true, if_true, if_false, false_or, or_false, Bool.false_eq_true, ne_eq] at e
    (try rw [if_neg (show ¬ a.length = 0 by omega)] at e)
    (try rw [if_pos (show a.length = 0 by omega)] at e)
    rename Fr _ _ _ _ => kF
    exact hret _ _ _ kF.keep ⟨_, congrArg (fun z => Value.str z _) e.symm⟩)
end
end Mine
end
section
open PySem PySem.W PyProof.Rows PySem.Calls
set_option Elab.async false
set_option maxRecDepth 100000
namespace Mine
open PySem.StrLaws Builtin Builtin.Str

theorem slash_is : (Str.ofString "/") = ⟨#[47]⟩ := by decide +kernel
theorem slash2_is : (Str.ofString "//") = ⟨#[47, 47]⟩ := by decide +kernel
theorem str_ext {a b : Str} (h : a.cps.toList = b.cps.toList) : a = b := Str.ext' (by rw [← Array.toList_inj]; exact h)
theorem toList_app (a b : Str) : (a ++ b).cps.toList = a.cps.toList ++ b.cps.toList := by rw [Str.cps_append, Array.toList_append]
theorem len_toList (a : Str) : a.length = a.cps.toList.length := by simp [Str.length]

/-- ends with a slash, or is empty -/
def Ends (q : Str) : Prop := q.cps.toList = [] ∨ q.cps.toList.getLast? = some 47

theorem rfind_at {q x : Str} (hq : Ends q) (hx : 47 ∉ x.cps.toList) : Txt.rfind (q ++ x) "/" + 1 = (q.length : Int) := by
  unfold Txt.rfind
  rw [slash_is]
  have key : ∀ i, (At (q ++ x) ⟨#[47]⟩ (q ++ x).length i) ↔ (q.cps.toList ++ x.cps.toList)[i]? = some 47 := fun i => by
    rw [← toList_app]; exact subAt_one (q ++ x) 47 i
  rcases last_spec (q ++ x) ⟨#[47]⟩ with ⟨e, h⟩ | ⟨i, e, h, h'⟩
  · rw [e]
    rcases hq with hq | hq
    · simp [len_toList, hq]
    · exfalso
      have hne : q.cps.toList ≠ [] := by intro z; rw [z] at hq; cases hq
      refine h (q.cps.toList.length - 1) ((key _).mpr ?_)
      rw [List.getLast?_eq_getElem?] at hq
      rw [List.getElem?_append_left (by have := List.length_pos_iff.mpr hne; omega)]
      exact hq
  · rw [e]
    have hi := (key i).mp h
    show (i : Int) + 1 = _
    have hlt : i < q.cps.toList.length := by
      rcases Nat.lt_or_ge i q.cps.toList.length with z | z
      · exact z
      · rw [List.getElem?_append_right z] at hi
        exact absurd (List.mem_of_getElem? hi) hx
    rcases hq with hq | hq
    · rw [hq] at hlt; exact absurd hlt (Nat.not_lt_zero _)
    · rw [List.getLast?_eq_getElem?] at hq
      have hle : ¬ i < q.cps.toList.length - 1 := fun z => h' _ z ((key _).mpr (by rw [List.getElem?_append_left (by omega)]; exact hq))
      rw [len_toList]; omega

theorem splitTail_at {q x : Str} (hq : Ends q) (hx : 47 ∉ x.cps.toList) : splitTail (q ++ x) = x := by
  unfold splitTail
  rw [rfind_at hq hx]
  show sliceText (q ++ x) (some (q.length : Int)) none = x
  rw [sliceText_from ⟨by omega, by rw [toList_app, List.length_append, len_toList]; omega⟩]
  refine str_ext ?_
  simp only [toList_app, len_toList, List.length_append, Int.toNat_natCast, List.drop_left']
  rw [List.take_of_length_le (by omega)]
theorem splitFront_at {q x : Str} (hq : Ends q) (hx : 47 ∉ x.cps.toList) : splitFront (q ++ x) = q := by
  unfold splitFront
  rw [rfind_at hq hx]
  show sliceText (q ++ x) none (some (q.length : Int)) = q
  rw [sliceText_to ⟨by omega, by rw [toList_app, List.length_append, len_toList]; omega⟩]
  refine str_ext ?_
  simp [toList_app, len_toList]

def IsRoot (r : Str) : Prop := r = Str.ofString "" ∨ r = Str.ofString "/" ∨ r = Str.ofString "//"
theorem IsRoot.ends {r : Str} (h : IsRoot r) : Ends r := by
  rcases h with rfl | rfl | rfl
  · exact .inl (by decide +kernel)
  · exact .inr (by decide +kernel)
  · exact .inr (by decide +kernel)
theorem splitHead_root {r x : Str} (hr : IsRoot r) (hx : 47 ∉ x.cps.toList) : splitHead (r ++ x) = r := by
  unfold splitHead
  rw [splitFront_at hr.ends hx]
  refine if_neg ?_
  rcases hr with rfl | rfl | rfl <;> decide +kernel

/-- not empty, its last sign no slash -/
def Solid (p : Str) : Prop := ∃ l c, p.cps.toList = l ++ [c] ∧ c ≠ 47
theorem ends_slash2 (p : Str) : Ends (p ++ "//") := .inr (by rw [toList_app, slash2_is]; simp)

theorem rstrip_slash2 {p : Str} (hp : Solid p) : Txt.rstripChars (p ++ "//") "/" = p := by
  obtain ⟨l, c, e, hc⟩ := hp
  have hrev : ((p ++ Str.ofString "//").cps.toList.drop 0).reverse.takeWhile (Str.ofString "/").cps.contains = [47, 47] := by
    rw [toList_app, slash2_is, slash_is, e]
    simp [hc]
  unfold Txt.rstripChars Txt.stripBy
  have hlo : stripLo (Str.ofString "/").cps.contains false (p ++ Str.ofString "//") = 0 := rfl
  have hlen : (p ++ Str.ofString "//").length = p.length + 2 := by rw [Str.length_append]; rfl
  have hhi : stripHi (Str.ofString "/").cps.contains true (p ++ Str.ofString "//") 0 = p.length := by
    unfold stripHi
    rw [if_pos rfl, hrev, hlen]
    rfl
  rw [if_neg (by unfold stripSame; rw [hlo, hhi, hlen]; simp)]
  unfold PySem.stripped
  rw [hlo, hhi]
  refine str_ext ?_
  rw [strSub_toList, toList_app, List.drop_zero, Nat.sub_zero, len_toList, List.take_left']
  rfl

theorem mul_slash_mem (n : Int) : ∀ c ∈ (Txt.mul "/" n).cps.toList, c = 47 := by
  unfold Txt.mul
  rw [slash_is]
  split
  · intro c hc; simp [Str.empty] at hc
  · split
    · intro c hc; simpa using hc
    · have : ∀ (k : Nat) (acc : Array Nat), (∀ c ∈ acc.toList, c = 47) → ∀ c ∈ ((List.replicate k (#[47] : Array Nat)).foldl (· ++ ·) acc).toList, c = 47 := by
        intro k
        induction k with
        | zero => intro acc h; exact h
        | succ k ih =>
          intro acc h
          rw [List.replicate_succ, List.foldl_cons]
          refine ih _ fun c hc => ?_
          rw [Array.toList_append] at hc
          rcases List.mem_append.mp hc with hc | hc
          · exact h c hc
          · simpa using hc
      exact this _ _ (fun c hc => by simp at hc)

theorem splitHead_deep {p x : Str} (hp : Solid p) (hx : 47 ∉ x.cps.toList) : splitHead (p ++ "//" ++ x) = p := by
  unfold splitHead
  rw [splitFront_at (ends_slash2 p) hx]
  refine (if_pos ⟨?_, ?_⟩).trans (rstrip_slash2 hp)
  · have h2 : (Str.ofString "//").length = 2 := by decide +kernel
    rw [Str.length_append]; omega
  · rw [bne_iff_ne]
    intro z
    obtain ⟨l, c, e, hc⟩ := hp
    have hm : c ∈ (p ++ Str.ofString "//").cps.toList := by rw [toList_app, e]; simp
    rw [z] at hm
    exact hc (mul_slash_mem _ c hm)

theorem startswith_not {x : Str} (hx : 47 ∉ x.cps.toList) : Txt.startswith x "/" = false := by
  unfold Txt.startswith
  rw [slash_is]
  cases h : (decide (0 + (⟨#[47]⟩ : Str).length ≤ x.length) && subAt x ⟨#[47]⟩ 0) with
  | false => rfl
  | true =>
    simp only [Bool.and_eq_true, decide_eq_true_eq] at h
    exact absurd (List.mem_of_getElem? ((subAt_one x 47 0).mp h)) hx
theorem endswith_of {q : Str} (hq : q.cps.toList.getLast? = some 47) : Txt.endswith q "/" = true := by
  unfold Txt.endswith
  rw [slash_is]
  have hne : q.cps.toList ≠ [] := by intro z; rw [z] at hq; cases hq
  have hpos := List.length_pos_iff.mpr hne
  rw [List.getLast?_eq_getElem?] at hq
  have := (subAt_one q 47 (q.cps.toList.length - 1)).mpr hq
  have e1 : (⟨#[47]⟩ : Str).length = 1 := rfl
  rw [e1] at this ⊢
  simp only [Bool.and_eq_true, decide_eq_true_eq]
  rw [len_toList] at this ⊢
  exact ⟨by omega, this.2⟩
theorem joinF_ends {q x : Str} (hq : Ends q) (hx : 47 ∉ x.cps.toList) : joinF q x = q ++ x := by
  unfold joinF
  rcases hq with hq | hq
  · rw [if_pos (.inr (by rw [len_toList, hq]; rfl))]
    exact (str_ext (by rw [toList_app, hq]; rfl))
  · rw [if_neg (by
      rintro (z | z)
      · rw [startswith_not hx] at z; cases z
      · rw [len_toList] at z
        rw [List.length_eq_zero_iff.mp z] at hq; cases hq), if_pos (endswith_of hq)]

/-- a listing: not empty, no slash in it -/
def Name (x : Str) : Prop := x.cps.toList ≠ [] ∧ 47 ∉ x.cps.toList
def pathOf (r : Str) : List Str → Str
  | [] => r
  | x :: st => (if st.isEmpty then r else pathOf r st ++ "//") ++ x

theorem Name.solid {x : Str} (h : Name x) (q : Str) : Solid (q ++ x) := by
  obtain ⟨h1, h2⟩ := h
  refine ⟨q.cps.toList ++ x.cps.toList.dropLast, x.cps.toList.getLast h1, ?_, ?_⟩
  · rw [toList_app, List.append_assoc, List.dropLast_concat_getLast h1]
  · intro e; exact h2 (e ▸ List.getLast_mem h1)
theorem pathOf_solid {r x : Str} {st : List Str} (hx : Name x) : Solid (pathOf r (x :: st)) := hx.solid _
theorem IsRoot.notSolid {r : Str} (hr : IsRoot r) : ¬ Solid r := by
  rintro ⟨l, c, e, hc⟩
  rcases hr.ends with h | h
  · rw [h] at e; simp at e
  · rw [e] at h; simp at h; exact hc h
theorem pathOf_ne {r x : Str} {st : List Str} (hr : IsRoot r) (hx : Name x) : pathOf r (x :: st) ≠ r := fun e => hr.notSolid (e ▸ pathOf_solid hx)
theorem pathOf_eq_root {r : Str} {st : List Str} (hr : IsRoot r) (hn : ∀ x ∈ st, Name x) : (pathOf r st == r) = st.isEmpty := by
  cases st with
  | nil => simp [pathOf]
  | cons x st => rw [List.isEmpty_cons, beq_eq_false_iff_ne]; exact pathOf_ne hr (hn x (.head _))
theorem base_pathOf {r x : Str} {st : List Str} (hr : IsRoot r) (hx : Name x) : splitTail (pathOf r (x :: st)) = x := by
  unfold pathOf
  split
  · exact splitTail_at hr.ends hx.2
  · exact splitTail_at (ends_slash2 _) hx.2
theorem head_pathOf {r x : Str} {st : List Str} (hr : IsRoot r) (hn : ∀ y ∈ x :: st, Name y) : splitHead (pathOf r (x :: st)) = pathOf r st := by
  cases st with
  | nil => exact splitHead_root hr (hn x (.head _)).2
  | cons y st => exact splitHead_deep (pathOf_solid (hn y (.tail _ (.head _)))) (hn x (.head _)).2
theorem join_root {r x : Str} (hr : IsRoot r) (hx : Name x) : joinF r x = pathOf r [x] := joinF_ends hr.ends hx.2
theorem join_deep {r x : Str} {st : List Str} (hst : st.isEmpty = false) (hx : Name x) : joinF (pathOf r st ++ "//") x = pathOf r (x :: st) := by
  rw [joinF_ends (ends_slash2 _) hx.2]
  show _ = (if st.isEmpty = true then r else pathOf r st ++ Str.ofString "//") ++ x
  rw [hst]; rfl
theorem pathOf_len {r : Str} (hr : IsRoot r) : ∀ {st : List Str}, (∀ x ∈ st, x.length ≤ 10) → (pathOf r st).length ≤ 2 + 12 * st.length
  | [], _ => by
    have : (pathOf r []).length ≤ 2 := by rcases hr with rfl | rfl | rfl <;> decide +kernel
    simpa using this
  | x :: st, h => by
    have ih := pathOf_len hr (st := st) fun y hy => h y (.tail _ hy)
    have hx := h x (.head _)
    have h2 : (Str.ofString "//").length = 2 := by decide +kernel
    have hr2 : r.length ≤ 2 := by rcases hr with rfl | rfl | rfl <;> decide +kernel
    unfold pathOf
    split
    · rw [Str.length_append, List.length_cons]; omega
    · rw [Str.length_append, Str.length_append, List.length_cons]; omega
end Mine
end
section
open PySem PySem.W PyProof.Rows PySem.Calls
set_option Elab.async false
set_option maxRecDepth 100000
set_option maxHeartbeats 8000000
namespace Mine

/-- what a turn of a loop must leave behind -/
def TnEnd (h₀ : Heap) (L I : Addr) (it : Obj) (J : (Str → Option Value) → List (Addr × Obj) → Prop) (s₁ s₂ : Shared) : Prop :=
  ∃ h' tk m' news', s₂ = { s₁ with heap := h', toks := tk } ∧ Fr h₀ L h' m' ∧ News h₀ L h' ((I, it) :: news') ∧ (∀ p ∈ news', p.1 ≠ I) ∧ J m' news'
def TnPost (h₀ : Heap) (L I : Addr) (it : Obj) (J : (Str → Option Value) → List (Addr × Obj) → Prop) (s₁ : Shared) (Q : Flow → Shared → Prop) (f : Flow) (s₂ : Shared) : Prop :=
  match f with
  | .ret v => Q (.ret v) s₂
  | .brk => Q .next s₂
  | _ => TnEnd h₀ L I it J s₁ s₂

theorem TnEnd.intro {h₀ : Heap} {L I : Addr} {it : Obj} {J : (Str → Option Value) → List (Addr × Obj) → Prop} {s₁ : Shared} {h' : Heap} {tk : Nat} {m' : Str → Option Value} {all : List (Addr × Obj)} (F : Fr h₀ L h' m') (N : News h₀ L h' all) (news' : List (Addr × Obj))
    (hI : (I, it) ∈ all) (sub : ∀ p ∈ news', p ∈ all) (off : ∀ p ∈ news', p.1 ≠ I) (hj : J m' news') : TnEnd h₀ L I it J s₁ { s₁ with heap := h', toks := tk } :=
  ⟨h', tk, m', news', rfl, F, fun p hp => (List.mem_cons.mp hp).elim (fun e => e ▸ N _ hI) fun hp => N p (sub p hp), off, hj⟩

theorem Fr.upd {h₀ h h' : Heap} {L I : Addr} {m : Str → Option Value} (F : Fr h₀ L h m) (hs : ∀ b o, b ≠ I → h.get? b = some o → h'.get? b = some o) (hL : L ≠ I) (h0 : h₀.get? I = none) : Fr h₀ L h' m := by
  obtain ⟨oL, es, ep, hL', r⟩ := F.ns
  refine ⟨⟨oL, es, ep, hs _ _ hL hL', r⟩, fun b o e => hs _ _ (fun q => ?_) (F.keep b o e), F.above⟩
  rw [q, h0] at e; cases e
theorem News.upd {h₀ h h' : Heap} {L I : Addr} {news : List (Addr × Obj)} (N : News h₀ L h news) (hs : ∀ b o, b ≠ I → h.get? b = some o → h'.get? b = some o) (off : ∀ p ∈ news, p.1 ≠ I) : News h₀ L h' news :=
  fun p hp => ⟨hs _ _ (off p hp) (N p hp).1, (N p hp).2⟩
theorem News.nsSet {h₀ h h' : Heap} {L : Addr} {news : List (Addr × Obj)} (N : News h₀ L h news) (hs : Heap.SameBut L h h') : News h₀ L h' news :=
  PyProof.Rows.News.set N hs

section
variable {prog : Program} {w : World} {A : Around} {E : Value → Shared → Prop} {s : Shared} {env : Env} {h₀ : Heap} {x : Str} {px : Pos} {body orelse : List Stmt} {Q : Flow → Shared → Prop}

/-- a for over a list, by an invariant over the frame's names and the ledger; the list stands by the invariant itself -/
theorem iter_list {L ax : Addr} {items : List Value} {m₀ : Str → Option Value} {news : List (Addr × Obj)} (J : Nat → (Str → Option Value) → List (Addr × Obj) → Prop)
    (hh : A.handled = none) (hx : env.kindOf x = some .local) (hp : (env.scope.kind == .class || (env.scope.kind == .module && env.locals != env.globals)) = false)
    (hE : PassesOwn (model prog w) A env E)
    (hl : ∀ i m₁ news₁ h, J i m₁ news₁ → Fr h₀ L h m₁ → News h₀ L h news₁ → h.IsList ax items.toArray)
    (F : Fr h₀ L s.heap m₀) (N : News h₀ L s.heap news) (hL : env.locals = L) (hj : J 0 m₀ news)
    (turn : ∀ (i : Nat) (v : Value) (m₁ : Str → Option Value) (news₁ : List (Addr × Obj)) (h : Heap) (tk : Nat) (I : Addr) (it : Obj), items[i]? = some v → it.cls = .type "list_iterator" → (∀ p ∈ news, p.1 < I) → (∀ p ∈ news₁, p.1 ≠ I) → J i m₁ news₁ →
      Fr h₀ L h (fun y => if y = x then some v else m₁ y) → News h₀ L h ((I, it) :: news₁) →
      wpAny (model prog w) A (execs body env) (TnPost h₀ L I it (J (i + 1)) { s with heap := h, toks := tk } Q) E { s with heap := h, toks := tk })
    (done : ∀ m₁ news₁ h tk, J items.length m₁ news₁ → Fr h₀ L h m₁ → News h₀ L h news₁ → wpAny (model prog w) A (execs orelse env) Q E { s with heap := h, toks := tk }) :
    wpAny (model prog w) A (pyIter (.ref ax)) (fun it s₂ => codeAny (model prog w) A (.forLoop (.Name x px) it body orelse env) (fun r s' => match r with | .ok f => Q f s' | .error e => cameBackBy (model prog w) A env E e s') s₂) E s := by
  subst hL
  have hls : s.heap.IsList ax items.toArray := hl 0 m₀ news s.heap hj F N
  refine wpAny_pyIter_list hls ?_
  have hnew := next_is_new F
  have hLne : env.locals ≠ s.heap.objs.size := Nat.ne_of_lt F.ns.lt
  have hoff : ∀ p ∈ news, p.1 ≠ s.heap.objs.size := fun p hp => Nat.ne_of_lt (Heap.lt_size (N p hp).1)
  have hax : ax ≠ s.heap.objs.size := by obtain ⟨_, e, _⟩ := hls; exact Nat.ne_of_lt (Heap.lt_size e)
  refine codeAny_forLoop (fun n s' => ∃ h' tk m' news' i, s' = { s with heap := h', toks := tk } ∧ h'.IsListIter s.heap.objs.size ax i ∧ Fr h₀ env.locals h' m' ∧ News h₀ env.locals h' news' ∧ (∀ p ∈ news', p.1 ≠ s.heap.objs.size) ∧ J i m' news' ∧ i ≤ items.length ∧ n = items.length + 1 - i) ?_ (items.length + 1)
    ⟨_, s.toks, m₀, news, 0, rfl, ⟨_, Heap.get?_push_size _ rfl, rfl, rfl⟩, F.push _, (fun p hp => ⟨Heap.get?_push_of_some _ (N p hp).1, (N p hp).2⟩), hoff, hj, Nat.zero_le _, rfl⟩
  rintro n s' ⟨h', tk, m', news', i, rfl, hit, F', N', off', hJ, hi, rfl⟩
  have hl' := hl i m' news' h' hJ F' N'
  cases hv : items[i]? with
  | none =>
    have hsz : i = items.length := Nat.le_antisymm hi (by simpa using hv)
    refine wpAny_pyNext_list_end hh hit hl' (by simpa using hv) fun h₁ he₁ => ?_
    exact wpAny_passesOwn hE (done m' news' h₁ tk (hsz ▸ hJ) (Fr.upd F' he₁ hLne hnew) (News.upd N' he₁ off'))
  | some v =>
    have hlt : i < items.length := (List.getElem?_eq_some_iff.mp hv).1
    refine wpAny_pyNext_list_item hit hl' (by simpa using hv) fun h₁ hit₁ hs₁ => ?_
    have F₁ := Fr.upd F' (fun b o hb e => hs₁.extBut b o hb e) hLne hnew
    have N₁ := News.upd N' (fun b o hb e => hs₁.extBut b o hb e) off'
    refine wpAny_assign_Name (wpAny_storeName_local hx F₁.ns (fun h₂ hn₂ hs₂ => ?_) hp)
    obtain ⟨oi, hoi, hci, hdi⟩ := hit₁
    have hoi₂ : h₂.get? s.heap.objs.size = some oi := (hs₂.2 _ (Ne.symm hLne)).trans hoi
    refine wpAny_passesOwn hE (wpAny_mono (turn i v m' news' h₂ (tk + 1) s.heap.objs.size oi hv hci (fun p hp => Heap.lt_size (N p hp).1) off' hJ (F₁.set hn₂ hs₂) ?_) (fun f s₃ hf => ?_) fun _ _ e => e)
    · intro p hp
      rcases List.mem_cons.mp hp with rfl | hp
      · exact ⟨hoi₂, Ne.symm hLne, hnew⟩
      · exact PyProof.Rows.News.set N₁ hs₂ p hp
    · have fin : TnEnd h₀ env.locals s.heap.objs.size oi (J (i + 1)) { s with heap := h₂, toks := tk + 1 } s₃ → ∃ m, m < items.length + 1 - i ∧ ∃ h' tk m' news' i, s₃ = { s with heap := h', toks := tk } ∧ h'.IsListIter s.heap.objs.size ax i ∧ Fr h₀ env.locals h' m' ∧ News h₀ env.locals h' news' ∧ (∀ p ∈ news', p.1 ≠ s.heap.objs.size) ∧ J i m' news' ∧ i ≤ items.length ∧ m = items.length + 1 - i := by
        rintro ⟨h₃, tk₃, m₃, news₃, rfl, F₃, N₃, off₃, hJ₃⟩
        exact ⟨items.length + 1 - (i + 1), by omega, h₃, tk₃, m₃, news₃, i + 1, rfl, ⟨oi, (N₃ _ (.head _)).1, hci, hdi⟩, F₃, (fun p hp => N₃ p (.tail _ hp)), off₃, hJ₃, hlt, rfl⟩
      cases f with
      | next => exact fin hf
      | cont => exact fin hf
      | brk => exact hf
      | ret v => exact hf
end

def MtAt (h₀ : Heap) (L : Addr) (R : (Str → Option Value) → List (Addr × Obj) → Prop) (s₁ s₂ : Shared) : Prop :=
  ∃ h' tk m' news', s₂ = { s₁ with heap := h', toks := tk } ∧ Fr h₀ L h' m' ∧ News h₀ L h' news' ∧ R m' news'
def TnMeet (h₀ : Heap) (L I : Addr) (it : Obj) (J R : (Str → Option Value) → List (Addr × Obj) → Prop) (s₁ : Shared) (Q : Flow → Shared → Prop) (f : Flow) (s₂ : Shared) : Prop :=
  match f with
  | .ret v => Q (.ret v) s₂
  | .brk => MtAt h₀ L R s₁ s₂
  | _ => TnEnd h₀ L I it J s₁ s₂
theorem MtAt.intro {h₀ : Heap} {L : Addr} {R : (Str → Option Value) → List (Addr × Obj) → Prop} {s₁ : Shared} {h' : Heap} {tk : Nat} {m' : Str → Option Value} {all : List (Addr × Obj)} (F : Fr h₀ L h' m') (N : News h₀ L h' all) (news' : List (Addr × Obj))
    (sub : ∀ p ∈ news', p ∈ all) (hj : R m' news') : MtAt h₀ L R s₁ { s₁ with heap := h', toks := tk } :=
  ⟨h', tk, m', news', rfl, F, fun p hp => N p (sub p hp), hj⟩

section
variable {prog : Program} {w : World} {A : Around} {E : Value → Shared → Prop} {s : Shared} {env : Env} {h₀ : Heap} {x : Str} {px : Pos} {body : List Stmt} {Q : Flow → Shared → Prop}
theorem iter_list_meet {L ax : Addr} {items : List Value} {m₀ : Str → Option Value} {news : List (Addr × Obj)} (J : Nat → (Str → Option Value) → List (Addr × Obj) → Prop) (R : (Str → Option Value) → List (Addr × Obj) → Prop)
    (hh : A.handled = none) (hx : env.kindOf x = some .local) (hp : (env.scope.kind == .class || (env.scope.kind == .module && env.locals != env.globals)) = false)
    (hE : PassesOwn (model prog w) A env E)
    (hl : ∀ i m₁ news₁ h, J i m₁ news₁ → Fr h₀ L h m₁ → News h₀ L h news₁ → h.IsList ax items.toArray)
    (F : Fr h₀ L s.heap m₀) (N : News h₀ L s.heap news) (hL : env.locals = L) (hj : J 0 m₀ news)
    (turn : ∀ (i : Nat) (v : Value) (m₁ : Str → Option Value) (news₁ : List (Addr × Obj)) (h : Heap) (tk : Nat) (I : Addr) (it : Obj), items[i]? = some v → it.cls = .type "list_iterator" → (∀ p ∈ news, p.1 < I) → (∀ p ∈ news₁, p.1 ≠ I) → J i m₁ news₁ →
      Fr h₀ L h (fun y => if y = x then some v else m₁ y) → News h₀ L h ((I, it) :: news₁) →
      wpAny (model prog w) A (execs body env) (TnMeet h₀ L I it (J (i + 1)) R { s with heap := h, toks := tk } Q) E { s with heap := h, toks := tk })
    (fin : ∀ m₁ news₁, J items.length m₁ news₁ → R m₁ news₁)
    (done : ∀ m₁ news₁ h tk, R m₁ news₁ → Fr h₀ L h m₁ → News h₀ L h news₁ → Q .next { s with heap := h, toks := tk }) :
    wpAny (model prog w) A (pyIter (.ref ax)) (fun it s₂ => codeAny (model prog w) A (.forLoop (.Name x px) it body [] env) (fun r s' => match r with | .ok f => Q f s' | .error e => cameBackBy (model prog w) A env E e s') s₂) E s := by
  have key := iter_list (px := px) (orelse := []) (Q := fun f s₂ => match f with | .ret v => Q (.ret v) s₂ | .next => MtAt h₀ L R s s₂ | _ => False) J hh hx hp hE hl F N hL hj
    (fun i v m₁ news₁ h tk I it a b c d e f g => wpAny_mono (turn i v m₁ news₁ h tk I it a b c d e f g) (fun fl s₂ q => by
      cases fl with
      | next => exact q
      | cont => exact q
      | brk => obtain ⟨h', tk', m', n', e', r⟩ := q; subst e'; exact ⟨h', tk', m', n', rfl, r⟩
      | ret v => exact q) fun _ _ z => z)
    (fun m₁ news₁ h tk hJ F' N' => wpAny_execs_nil ⟨h, tk, m₁, news₁, rfl, F', N', fin m₁ news₁ hJ⟩)
  refine wpAny_mono key (fun it s₂ hc => codeAny_mono hc fun r s' hr => ?_) fun _ _ z => z
  cases r with
  | error e => exact hr
  | ok f =>
    cases f with
    | ret v => exact hr
    | next => obtain ⟨h', tk, m', n', rfl, F', N', hR⟩ := hr; exact done m' n' h' tk hR F' N'
    | brk => exact hr.elim
    | cont => exact hr.elim
end

theorem len_led {prog : Program} {w : World} {A : Around} {E : Value → Shared → Prop} {s : Shared} {h₀ : Heap} {L D : Addr} {news : List (Addr × Obj)} {vs : List Value} {nn : Nat} {Q : Value → Shared → Prop} (N : News h₀ L s.heap news) (hm : (D, PySem.W.listOf vs.toArray nn) ∈ news) (hf : vs.length ≤ 1000000)
    (h : ∀ t tk, Q (.int (vs.length : Nat) t) { s with toks := tk }) : wpAny (model prog w) A (call (.builtin "len") [.ref D]) Q E s := by
  refine Calls.call_len_list ⟨_, N.get hm, rfl, _, rfl⟩ ?_ ?_
  · simp only [List.size_toArray]; omega
  · simp only [List.size_toArray]; exact h _ _

section
variable {prog : Program} {w : World} {A : Around} {E : Value → Shared → Prop} {s : Shared} {env : Env} {h₀ : Heap} {target : Expr} {body : List Stmt} {Q : Flow → Shared → Prop}
/-- a for over a range, any target: a turn begins with the target's binding -/
theorem iter_range {L r : Addr} {a b : Int} {t u v : Tok} {n : Nat} {m₀ : Str → Option Value} {news : List (Addr × Obj)} (J : Nat → (Str → Option Value) → List (Addr × Obj) → Prop)
    (hh : A.handled = none) (hE : PassesOwn (model prog w) A env E) (hr : IsRange s.heap r a b 1 t u v) (hsmall : Builtin.Range.small a b 1 = true) (hn : Builtin.Range.rangeSize a b 1 = (n : Int))
    (F : Fr h₀ L s.heap m₀) (N : News h₀ L s.heap news) (hj : J 0 m₀ news)
    (turn : ∀ (i : Nat) (u : Tok) (m₁ : Str → Option Value) (news₁ : List (Addr × Obj)) (h : Heap) (tk : Nat) (I : Addr) (it : Obj), i < n → it.cls = .type "range_iterator" → (∀ p ∈ news, p.1 < I) → (∀ p ∈ news₁, p.1 ≠ I) → J i m₁ news₁ →
      Fr h₀ L h m₁ → News h₀ L h ((I, it) :: news₁) →
      wpAny (model prog w) A (assign target env (.int (a + i) u)) (fun _ s₂ => wpAny (model prog w) A (execs body env) (TnPost h₀ L I it (J (i + 1)) { s with heap := h, toks := tk } Q) E s₂) E { s with heap := h, toks := tk })
    (done : ∀ m₁ news₁ h tk, J n m₁ news₁ → Fr h₀ L h m₁ → News h₀ L h news₁ → Q .next { s with heap := h, toks := tk })
    (ht : ∀ it v, letOwnedTupleGo target it v = pure ()) :
    wpAny (model prog w) A (pyIter (.ref r)) (fun it s₂ => codeAny (model prog w) A (.forLoop target it body [] env) (fun r s' => match r with | .ok f => Q f s' | .error e => cameBackBy (model prog w) A env E e s') s₂) E s := by
  refine wpAny_pyIter_range hr hsmall ?_
  have W := Walks.range (prog := prog) (w := w) hh s.heap.objs.size a 1 n
  simp only [Int.mul_one] at W
  have hnew := next_is_new F
  have hLne : L ≠ s.heap.objs.size := Nat.ne_of_lt F.ns.lt
  have hoff : ∀ p ∈ news, p.1 ≠ s.heap.objs.size := fun p hp => Nat.ne_of_lt (Heap.lt_size (N p hp).1)
  refine codeAny_forLoop (ht := ht _) (fun k s' => ∃ h' tk m' news' i, s' = { s with heap := h', toks := tk } ∧ IsRangeIter h' s.heap.objs.size (a + (i : Nat)) ((n : Int) - (i : Nat)) 1 ∧ Fr h₀ L h' m' ∧ News h₀ L h' news' ∧ (∀ p ∈ news', p.1 ≠ s.heap.objs.size) ∧ J i m' news' ∧ i ≤ n ∧ k = n + 1 - i) ?_ (n + 1)
    ⟨_, s.toks, m₀, news, 0, rfl, (by show IsRangeIter _ _ _ _ _; rw [hn]; simpa using Heap.get?_push_size _ rfl), F.push _, (fun p hp => ⟨Heap.get?_push_of_some _ (N p hp).1, (N p hp).2⟩), hoff, hj, Nat.zero_le _, rfl⟩
  rintro k s' ⟨h', tk, m', news', i, rfl, hit, F', N', off', hJ, hi, rfl⟩
  by_cases hlt : i < n
  · refine W.item i _ _ _ hlt hit fun v h₁ tk₁ hPv hit₁ hk₁ => ?_
    obtain ⟨u, rfl⟩ := hPv
    have hk₁' : ∀ b o, b ≠ s.heap.objs.size → h'.get? b = some o → h₁.get? b = some o := fun b o hb e => hk₁ b o (by simpa using hb) e
    have F₁ := Fr.upd F' hk₁' hLne hnew
    have N₁ := News.upd N' hk₁' off'
    refine wpAny_mono (wpAny_passesOwn hE (turn i u m' news' h₁ tk₁ s.heap.objs.size (itR (a + ((i + 1 : Nat) : Int)) ((n : Int) - ((i + 1 : Nat) : Int))) hlt rfl (fun p hp => Heap.lt_size (N p hp).1) off' hJ F₁ (fun p hp => ?_))) (fun _ s₂ h₂ => wpAny_mono (wpAny_passesOwn hE h₂) (fun f s₃ hf => ?_) fun _ _ e => e) fun _ _ e => e
    · rcases List.mem_cons.mp hp with rfl | hp
      · exact ⟨hit₁, Ne.symm hLne, hnew⟩
      · exact N₁ p hp
    · have fin : TnEnd h₀ L s.heap.objs.size (itR (a + ((i + 1 : Nat) : Int)) ((n : Int) - ((i + 1 : Nat) : Int))) (J (i + 1)) { s with heap := h₁, toks := tk₁ } s₃ → ∃ m, m < n + 1 - i ∧ ∃ h' tk m' news' i, s₃ = { s with heap := h', toks := tk } ∧ IsRangeIter h' s.heap.objs.size (a + (i : Nat)) ((n : Int) - (i : Nat)) 1 ∧ Fr h₀ L h' m' ∧ News h₀ L h' news' ∧ (∀ p ∈ news', p.1 ≠ s.heap.objs.size) ∧ J i m' news' ∧ i ≤ n ∧ m = n + 1 - i := by
        rintro ⟨h₃, tk₃, m₃, news₃, rfl, F₃, N₃, off₃, hJ₃⟩
        exact ⟨n + 1 - (i + 1), by omega, h₃, tk₃, m₃, news₃, i + 1, rfl, (N₃ _ (.head _)).1, F₃, (fun p hp => N₃ p (.tail _ hp)), off₃, hJ₃, hlt, rfl⟩
      cases f with
      | next => exact fin hf
      | cont => exact fin hf
      | brk => exact hf
      | ret v => exact hf
  · have hin : i = n := by omega
    subst hin
    refine W.done _ _ _ hit fun h₁ tk₁ hk₁ => wpAny_execs_nil ?_
    have hk₁' : ∀ b o, b ≠ s.heap.objs.size → h'.get? b = some o → h₁.get? b = some o := fun b o hb e => hk₁ b o (by simpa using hb) e
    exact done m' news' h₁ tk₁ hJ (Fr.upd F' hk₁' hLne hnew) (News.upd N' hk₁' off')
end
end Mine
end
section
open PySem PySem.W PyProof.Rows PySem.Calls
set_option Elab.async false
set_option maxRecDepth 100000
set_option maxHeartbeats 8000000
namespace Mine

theorem compLoop_any {prog : Program} {w : World} {A : Around} {R : Result → Shared → Prop} {s : Shared} {elt target iter : Expr} {ifs : List Expr} {scope : Scope} {pos : Pos} {it acc : Value} {env : Env} (I : Nat → Shared → Prop)
    (turn : ∀ n s, I n s → wpAny (model prog w) A (pyNext it) (fun r s₁ => match r with
      | none => R (.ok .next) s₁
      | some v => wpAny (model prog w) A (letOwnedTupleGo target it v) (fun _ s₁' => wpAny (model prog w) A (assign target env v) (fun _ s₂ =>
          wpAny (model prog w) A (forIn ifs true fun c r => if r = true then do let ok ← isTrue c env (eval c env); pure (ForInStep.yield ok) else pure (ForInStep.yield r)) (fun ok s₃ =>
            if ok = true then wpAny (model prog w) A (eval elt env) (fun x s₄ =>
              wpAny (model prog w) A (call (.builtin "list.append") [acc, x]) (fun _ s₅ => ∃ m, m < n ∧ I m s₅) (fun _ _ => False) s₄) (fun _ _ => False) s₃
            else ∃ m, m < n ∧ I m s₃) (fun _ _ => False) s₂) (fun _ _ => False) s₁') (fun _ _ => False) s₁) (fun _ _ => False) s)
    (n : Nat) (h : I n s) :
    codeAny (model prog w) A (.compLoop (.ListComp elt [⟨target, iter, ifs, 0⟩] scope pos) 0 it acc env) R s := by
  refine codeAny_loop rfl I (fun n s hI => ?_) n h
  show wpAny _ A ((compTurn (.ListComp elt [⟨target, iter, ifs, 0⟩] scope pos) 0 it acc env).onRaise (fun x => do noteFrame x env; theTreesLotGoes x)) _ _ s
  refine wpAny_noted ?_
  rw [compTurn_list]
  refine wpAny_bind (wpAny_standAt (wpAny_bind (wpAny_mono (turn n s hI) (fun r s₁ h₁ => ?_) fun _ _ h' => h'.elim)))
  cases r with
  | none => exact wpAny_pure h₁
  | some v =>
    refine wpAny_bind (wpAny_mono h₁ (fun _ s₁' h₁' => ?_) fun _ _ h' => h'.elim)
    refine wpAny_bind (wpAny_mono h₁' (fun _ s₂ h₂ => wpAny_bind (wpAny_mono h₂ (fun ok s₃ h₃ => ?_) fun _ _ h' => h'.elim)) fun _ _ h' => h'.elim)
    cases ok with
    | false => exact wpAny_pure ⟨rfl, h₃⟩
    | true =>
      exact wpAny_bind (wpAny_bind (wpAny_mono h₃ (fun x s₄ h₄ => wpAny_bind (wpAny_mono h₄ (fun _ s₅ h₅ => wpAny_pure (wpAny_pure ⟨rfl, h₅⟩)) fun _ _ h' => h'.elim)) fun _ _ h' => h'.elim))

def CpEnd (hb : Heap) (C I : Addr) (it : Obj) (D : Addr) (acc : Obj) (J : List (Addr × Obj) → Prop) (s₁ s₂ : Shared) : Prop :=
  ∃ h' tk m' fz, s₂ = { s₁ with heap := h', toks := tk } ∧ Fr hb C h' m' ∧ News hb C h' ((I, it) :: (D, acc) :: fz) ∧ (∀ p ∈ fz, p.1 ≠ I ∧ p.1 ≠ D) ∧ J fz
theorem CpEnd.intro {hb : Heap} {C I : Addr} {it : Obj} {D : Addr} {acc : Obj} {J : List (Addr × Obj) → Prop} {s₁ : Shared} {h' : Heap} {tk : Nat} {m' : Str → Option Value} {all : List (Addr × Obj)} (F : Fr hb C h' m') (N : News hb C h' all) (fz : List (Addr × Obj))
    (hI : (I, it) ∈ all) (hD : (D, acc) ∈ all) (sub : ∀ p ∈ fz, p ∈ all) (off : ∀ p ∈ fz, p.1 ≠ I ∧ p.1 ≠ D) (hj : J fz) : CpEnd hb C I it D acc J s₁ { s₁ with heap := h', toks := tk } :=
  ⟨h', tk, m', fz, rfl, F, (fun p hp => by
    rcases List.mem_cons.mp hp with rfl | hp
    · exact N _ hI
    · rcases List.mem_cons.mp hp with rfl | hp
      · exact N _ hD
      · exact N p (sub p hp)), off, hj⟩

/-- the rest of a turn of a comprehension, from the binding of its target on -/
def CpTurn (prog : Program) (w : World) (A : Around) (target elt : Expr) (ifs : List Expr) (cenv : Env) (v : Value) (yes : Value → Shared → Prop) (no : Shared → Prop) (s : Shared) : Prop :=
  wpAny (model prog w) A (assign target cenv v) (fun _ s₃ =>
    wpAny (model prog w) A (forIn ifs true fun c r => if r = true then do let ok ← isTrue c cenv (eval c cenv); pure (ForInStep.yield ok) else pure (ForInStep.yield r)) (fun ok s₄ =>
      if ok = true then wpAny (model prog w) A (eval elt cenv) yes (fun _ _ => False) s₄ else no s₄) (fun _ _ => False) s₃) (fun _ _ => False) s

section
variable {prog : Program} {w : World} {A : Around} {E : Value → Shared → Prop} {env : Env}

theorem comp_block {elt target iter : Expr} {ifs : List Expr} {scope : Scope} {cl : List (Str × Addr)} {pos : Pos} {s₂ : Shared} {hb : Heap} {I : Addr} {fp : List Addr} {n : Nat} {P : Nat → Value → Prop}
    {St : Nat → Heap → Prop} (W : Walks prog w A I fp [I] n P St) (hsz : n ≤ 1000000) {RR : Value → Addr → Result → Shared → Prop} (J : Nat → List Value → List (Addr × Obj) → Prop)
    (hcell : ∀ y ∈ scope.names, y.2 ≠ .cell) (hkind : scope.kind = .function)
    (hlet : ∀ i (s : Shared) v (Q : Unit → Shared → Prop) E, St i s.heap → Q () s → wpAny (model prog w) A (letOwnedTupleGo target (.ref I) v) Q E s)
    (hSt : ∀ i h, St i h → ∃ o, h.get? I = some o)
    (hst : St 0 s₂.heap) (hfp : ∀ b ∈ fp, b = I ∨ ∃ o, hb.get? b = some o) (hkeep : hb.StaysIn s₂.heap) (hI : hb.get? I = none) (hbI : hb.objs.size ≤ I) (hJ0 : J 0 [] [])
    (turn : ∀ (i : Nat) (v : Value) (ys : List Value) (fz : List (Addr × Obj)) (C : Addr) (h : Heap) (tk : Nat) (m : Str → Option Value) (it : Obj) (D : Addr) (acc : Obj), i < n → P i v → J i ys fz → Fr hb C h m → News hb C h ((I, it) :: (D, acc) :: fz) → @Ne Nat I D → (∀ p ∈ fz, p.1 ≠ I ∧ p.1 ≠ D) →
      CpTurn prog w A target elt ifs (compEnvC scope cl C env) v (fun y s₅ => CpEnd hb C I it D acc (J (i + 1) (ys ++ [y])) s₂ s₅) (fun s₄ => CpEnd hb C I it D acc (J (i + 1) ys) s₂ s₄) { s₂ with heap := h, toks := tk })
    (hRR : ∀ D C h' tk m' ys fz nn, J n ys fz → Fr hb C h' m' → News hb C h' ((D, PySem.W.listOf ys.toArray nn) :: fz) → (∀ p ∈ fz, p.1 ≠ D) → RR (.ref D) C (.ok .next) { s₂ with heap := h', toks := tk }) :
    wpAny (model prog w) A (newList []) (fun acc s₃ => wpAny (model prog w) A (newFunctionEnv scope env.globals cl [] env.qual none .none (some env)) (fun cenv s₄ =>
      codeAny (model prog w) A (.compStart (.ListComp elt [⟨target, iter, ifs, 0⟩] scope pos) 0 (.ref I) acc { cenv with scope := relabel scope env }) (RR acc cenv.locals) s₄) E s₃) E s₂ := by
  obtain ⟨oI, hoI⟩ := hSt 0 _ hst
  have hIlt := Heap.lt_size hoI
  refine wpAny_newObj_type (wpAny_newFunctionEnv hcell (by intro y hy; simp at hy) (fun h₁ hns₁ hsb₁ => ?_) hkind)
  dsimp only at hns₁ hsb₁ ⊢
  generalize hH2 : s₂.heap.push { cls := .type "list", dict := none, data := .seq ([] : List Value).toArray } = H2 at hns₁ hsb₁ ⊢
  have hC : H2.objs.size = s₂.heap.objs.size + 1 := by rw [← hH2, Heap.size_push]
  have hDC : s₂.heap.objs.size ≠ H2.objs.size := by rw [hC]; exact Nat.ne_of_lt (Nat.lt_succ_self _)
  have hCI : H2.objs.size ≠ I := by rw [hC]; exact Nat.ne_of_gt (Nat.lt_succ_of_lt hIlt)
  have hDI : s₂.heap.objs.size ≠ I := Nat.ne_of_gt hIlt
  have old : ∀ b o, s₂.heap.get? b = some o → h₁.get? b = some o := fun b o e => hsb₁.extBut b o (by rw [hC]; exact Nat.ne_of_lt (Nat.lt_succ_of_lt (Heap.lt_size e))) (Heap.get?_push_of_some _ (hH2 ▸ Heap.get?_push_of_some _ e))
  have hacc : h₁.get? s₂.heap.objs.size = some (PySem.W.listOf #[] 0) := hsb₁.extBut _ _ hDC (Heap.get?_push_of_some _ (hH2 ▸ Heap.get?_push_size _ rfl))
  have hst₁ : St 0 h₁ := W.frame _ _ _ hst fun b _ o e => old b o e
  have hbD : hb.get? s₂.heap.objs.size = none := Heap.get?_none_of_le (Nat.le_trans hbI (Nat.le_of_lt hIlt))
  have F₁ : Fr hb H2.objs.size h₁ (fun x => ([] : List (Str × Value)).reverse.lookup x) := ⟨hns₁, fun b o e => old b o (hkeep b o e), by rw [hC]; exact Nat.le_succ_of_le (Nat.le_trans hbI (Nat.le_of_lt hIlt))⟩
  have N₁ : News hb H2.objs.size h₁ [(I, oI), (s₂.heap.objs.size, PySem.W.listOf #[] 0)] := fun p hp => by
    rcases List.mem_cons.mp hp with rfl | hp
    · exact ⟨old _ _ hoI, Ne.symm hCI, hI⟩
    · obtain rfl := List.mem_singleton.mp hp
      exact ⟨hacc, hDC, hbD⟩
  have loop : ∀ s₃ : Shared, s₃ = { s₂ with heap := h₁, toks := s₂.toks + ([] : List (Str × Value)).length } →
      codeAny (model prog w) A (.compLoop (.ListComp elt [⟨target, iter, ifs, 0⟩] scope pos) 0 (.ref I) (.ref s₂.heap.objs.size) (compEnvC scope cl H2.objs.size env))
        (RR (.ref s₂.heap.objs.size) H2.objs.size) s₃ := by
    rintro s₃ rfl
    refine compLoop_any (fun k s' => ∃ h' tk m' ys fz i it nn, s' = { s₂ with heap := h', toks := tk } ∧ St i h' ∧ Fr hb H2.objs.size h' m' ∧ News hb H2.objs.size h' ((I, it) :: (s₂.heap.objs.size, PySem.W.listOf ys.toArray nn) :: fz) ∧
      (∀ p ∈ fz, p.1 ≠ I ∧ p.1 ≠ s₂.heap.objs.size) ∧ J i ys fz ∧ ys.length ≤ i ∧ i ≤ n ∧ k = n + 1 - i) ?_ (n + 1)
      ⟨h₁, _, _, [], [], 0, oI, 0, rfl, hst₁, F₁, N₁, (fun _ hp => nomatch hp), hJ0, Nat.zero_le _, Nat.zero_le _, rfl⟩
    rintro k s' ⟨H, tk, m', ys, fz, i, it, nn, rfl, hst', F', N', off', hJ, hys, hi, rfl⟩
    have offI : ∀ p ∈ (s₂.heap.objs.size, PySem.W.listOf ys.toArray nn) :: fz, p.1 ≠ I := fun p hp => by
      rcases List.mem_cons.mp hp with rfl | hp
      · exact hDI
      · exact (off' p hp).1
    by_cases hlt : i < n
    · refine W.item i _ _ _ hlt hst' fun v h₂ tk₂ hPv hst₂ hk₂ => ?_
      have hk₂' : ∀ b o, b ≠ I → H.get? b = some o → h₂.get? b = some o := fun b o hb' e => hk₂ b o (by simpa using hb') e
      obtain ⟨it₂, hit₂⟩ := hSt _ _ hst₂
      have F₂ := Fr.upd F' hk₂' hCI hI
      have N₂ := News.upd (fun p hp => N' p (.tail _ hp)) hk₂' offI
      have N₂' : News hb H2.objs.size h₂ ((I, it₂) :: (s₂.heap.objs.size, PySem.W.listOf ys.toArray nn) :: fz) := fun p hp => by
        rcases List.mem_cons.mp hp with rfl | hp
        · exact ⟨hit₂, Ne.symm hCI, hI⟩
        · exact N₂ p hp
      refine hlet (i + 1) _ v _ _ hst₂ ?_
      have tn := turn i v ys fz H2.objs.size h₂ tk₂ _ it₂ s₂.heap.objs.size _ hlt hPv hJ F₂ N₂' (Ne.symm hDI) off'
      have stay : ∀ h₄ m₄ fz₄, Fr hb H2.objs.size h₄ m₄ → News hb H2.objs.size h₄ ((I, it₂) :: (s₂.heap.objs.size, PySem.W.listOf ys.toArray nn) :: fz₄) → St (i + 1) h₄ := fun h₄ m₄ fz₄ F₄ N₄ =>
        W.frame _ _ _ hst₂ fun b hb' o e => by
          rcases hfp b hb' with rfl | ⟨o', ho'⟩
          · rw [hit₂] at e
            exact e ▸ (N₄ _ (.head _)).1
          · rw [F₂.keep b o' ho'] at e
            exact e ▸ F₄.keep b o' ho'
      unfold CpTurn at tn
      refine wpAny_mono tn (fun _ s₃ h₃ => wpAny_mono h₃ (fun ok s₄ h₄ => ?_) fun _ _ e => e) fun _ _ e => e
      cases ok with
      | false =>
        simp only [Bool.false_eq_true, if_false] at h₄ ⊢
        obtain ⟨h', tk', m₄, fz₄, rfl, F₄, N₄, off₄, hJ₄⟩ := h₄
        exact ⟨n + 1 - (i + 1), by omega, h', tk', m₄, ys, fz₄, i + 1, it₂, nn, rfl, stay _ _ _ F₄ N₄, F₄, N₄, off₄, hJ₄, by omega, hlt, rfl⟩
      | true =>
        simp only [if_true] at h₄ ⊢
        refine wpAny_mono h₄ (fun y s₅ h₅ => ?_) fun _ _ e => e
        obtain ⟨h', tk', m₄, fz₄, rfl, F₄, N₄, off₄, hJ₄⟩ := h₅
        have hst₄ := stay _ _ _ F₄ N₄
        have hD₄ := (N₄ _ (.tail _ (.head _))).1
        refine append_at (hsz := by simp only [List.size_toArray]; rw [sizeLine_eq]; omega) hD₄ fun h₆ hs₆ ho₆ => ?_
        have offD : ∀ b o, b ≠ s₂.heap.objs.size → h'.get? b = some o → h₆.get? b = some o := fun b o hb' e => hs₆.extBut b o hb' e
        refine ⟨n + 1 - (i + 1), by omega, h₆, tk', m₄, ys ++ [y], fz₄, i + 1, it₂, nn + 1, rfl, ?_, Fr.upd F₄ offD (Ne.symm hDC) hbD, ?_, off₄, hJ₄, by rw [List.length_append, List.length_singleton]; omega, hlt, rfl⟩
        · refine W.frame _ _ _ hst₄ fun b hb' o e => offD b o (fun q => ?_) e
          rcases hfp b hb' with rfl | ⟨o', ho'⟩
          · exact hDI q.symm
          · rw [q, hbD] at ho'; cases ho'
        · intro p hp
          rcases List.mem_cons.mp hp with rfl | hp
          · exact ⟨offD _ _ (Ne.symm hDI) (N₄ _ (.head _)).1, (N₄ _ (.head _)).2⟩
          · rcases List.mem_cons.mp hp with rfl | hp
            · exact ⟨by rw [ho₆]; simp, (N₄ _ (.tail _ (.head _))).2⟩
            · exact ⟨offD _ _ (off₄ p hp).2 (N₄ p (.tail _ (.tail _ hp))).1, (N₄ p (.tail _ (.tail _ hp))).2⟩
    · have hin : i = n := by omega
      subst hin
      refine W.done _ _ _ hst' fun h₂ tk₂ hk₂ => ?_
      have hk₂' : ∀ b o, b ≠ I → H.get? b = some o → h₂.get? b = some o := fun b o hb' e => hk₂ b o (by simpa using hb') e
      exact hRR _ _ h₂ tk₂ m' ys fz nn hJ (Fr.upd F' hk₂' hCI hI) (News.upd (fun p hp => N' p (.tail _ hp)) hk₂' offI) fun p hp => (off' p hp).2
  exact codeAny_compStart_list (loop _ rfl) (W.self 0 _ _ _ hst₁ (loop _ rfl))
end

/-- an iterator that stands at h₂, made from what stood at hb -/
def IterOn (prog : Program) (w : World) (A : Around) (target : Expr) (hb h₂ : Heap) (I : Addr) (n : Nat) (P : Nat → Value → Prop) : Prop :=
  ∃ fp St, Walks prog w A I fp [I] n P St ∧ (∀ i (s : Shared) v (Q : Unit → Shared → Prop) E, St i s.heap → Q () s → wpAny (model prog w) A (letOwnedTupleGo target (.ref I) v) Q E s) ∧
    (∀ i h, St i h → ∃ o, h.get? I = some o) ∧ St 0 h₂ ∧ (∀ b ∈ fp, b = I ∨ ∃ o, hb.get? b = some o) ∧ hb.StaysIn h₂ ∧ hb.get? I = none ∧ hb.objs.size ≤ I

theorem letGo_other {prog : Program} {w : World} {A : Around} {E : Value → Shared → Prop} {s : Shared} {target : Expr} {I : Addr} {v : Value} {o : Obj} {n : String} {Q : Unit → Shared → Prop} (ho : s.heap.get? I = some o) (hc : o.cls = .type n)
    (hn : ["enumerate", "zip", "dict_itemiterator", "dict_reverseitemiterator", "odict_iterator", "itertools.zip_longest", "itertools.pairwise"].contains n = false) (h : Q () s) :
    wpAny (model prog w) A (letOwnedTupleGo target (.ref I) v) Q E s := by
  unfold letOwnedTupleGo
  have key : wpAny (model prog w) A (do
      let (.ref r, .ref a) := ((Value.ref I : Value), v) | return
      let o ← load r
      match o.cls, o.data with
      | .type n, .fields vs =>
        if ["enumerate", "zip", "dict_itemiterator", "dict_reverseitemiterator", "odict_iterator", "itertools.zip_longest", "itertools.pairwise"].contains n && vs[0]? == some (rawInt a) then
          rule "for.unpacks-the-owned-tuple"
          updateField r 0 .none
      | _, _ => pure ()) Q E s := by
    cases v with
    | ref a =>
      refine wpAny_bind (wpAny_load ho ?_)
      rw [hc]
      cases o.data with
      | fields vs => simp only [hn, Bool.false_and, Bool.false_eq_true, if_false]; exact wpAny_pure h
      | _ => exact wpAny_pure h
    | _ => exact wpAny_pure h
  cases target <;> first | exact key | exact wpAny_pure h

section
variable {prog : Program} {w : World} {A : Around} {E : Value → Shared → Prop} {s : Shared}
theorem src_list {target : Expr} {ax : Addr} {items : List Value} {Q : Value → Shared → Prop} (hh : A.handled = none) (hl : s.heap.IsList ax items.toArray)
    (k : ∀ I h₂, IterOn prog w A target s.heap h₂ I items.length (fun i v => items[i]? = some v) → Q (.ref I) { s with heap := h₂ }) : wpAny (model prog w) A (pyIter (.ref ax)) Q E s := by
  obtain ⟨ol, hol, _⟩ := id hl
  have hax : ax ≠ s.heap.objs.size := Nat.ne_of_lt (Heap.lt_size hol)
  refine wpAny_pyIter_list hl (k _ _ ?_)
  have W := Walks.list (prog := prog) (w := w) hh s.heap.objs.size ax hax items.toArray
  simp only [List.size_toArray, List.getElem?_toArray] at W
  refine ⟨_, _, W, fun i s' v Q' E' st hq => ?_, fun i h st => ?_, ⟨⟨_, Heap.get?_push_size _ rfl, rfl, rfl⟩, hl.push _⟩, fun b hb => ?_, fun b o e => Heap.get?_push_of_some _ e, Heap.get?_none_of_le (Nat.le_refl _), Nat.le_refl _⟩
  · obtain ⟨⟨o, ho, hc, _⟩, _⟩ := st
    exact letGo_other ho hc (by decide) hq
  · obtain ⟨⟨o, ho, hc, _⟩, _⟩ := st
    exact ⟨o, ho⟩
  · rcases List.mem_cons.mp hb with rfl | hb
    · exact .inl rfl
    · rw [List.mem_singleton.mp hb]; exact .inr ⟨_, hol⟩

theorem src_range {target : Expr} {r : Addr} {a b : Int} {t u v : Tok} {n : Nat} {Q : Value → Shared → Prop} (hh : A.handled = none) (hr : IsRange s.heap r a b 1 t u v) (hsmall : Builtin.Range.small a b 1 = true) (hn : Builtin.Range.rangeSize a b 1 = (n : Int))
    (k : ∀ I h₂, IterOn prog w A target s.heap h₂ I n (fun i v => ∃ t, v = .int (a + i) t) → Q (.ref I) { s with heap := h₂ }) : wpAny (model prog w) A (pyIter (.ref r)) Q E s := by
  refine wpAny_pyIter_range hr hsmall (k _ _ ?_)
  have W := Walks.range (prog := prog) (w := w) hh s.heap.objs.size a 1 n
  simp only [Int.mul_one] at W
  refine ⟨_, _, W, fun i s' v Q' E' st hq => ?_, fun i h st => ?_, ?_, fun b hb => ?_, fun b o e => Heap.get?_push_of_some _ e, Heap.get?_none_of_le (Nat.le_refl _), Nat.le_refl _⟩
  · exact letGo_other st rfl (by decide) hq
  · exact ⟨_, st⟩
  · show IsRangeIter _ _ _ _ _
    rw [hn]
    simpa using Heap.get?_push_size _ rfl
  · exact .inl (List.mem_singleton.mp hb)
end

section
variable {prog : Program} {w : World} {A : Around} {E : Value → Shared → Prop} {env : Env} {s : Shared}

def FinA (env : Env) (y : Str) (Q : Flow → Shared → Prop) (_ : List Value) (_ : List (Addr × Obj)) (D : Addr) (_ : Nat) (C : Addr) (h' : Heap) (s' : Shared) : Prop :=
  ∃ m, h'.Ns env.locals m ∧ env.locals ≠ C ∧ ∀ h₂ h₃ tk, h₂.Ns env.locals (fun z => if z = y then some (.ref D) else m z) → Heap.SameBut env.locals h' h₂ → Heap.SameBut C h₂ h₃ → Q .next { s' with heap := h₃, toks := tk }
def FinE (Q : Value → Shared → Prop) (_ : List Value) (_ : List (Addr × Obj)) (D : Addr) (_ : Nat) (C : Addr) (h' : Heap) (s' : Shared) : Prop :=
  ∀ h'', Heap.SameBut C h' h'' → Q (.ref D) { s' with heap := h'' }
/-- a comprehension whose source's value is at hand: what is left is the iterator -/
def CpGo (prog : Program) (w : World) (A : Around) (E : Value → Shared → Prop) (target elt : Expr) (ifs : List Expr) (scope : Scope) (cl : List (Str × Addr)) (env : Env) (J : Nat → List Value → List (Addr × Obj) → Prop)
    (fin : List Value → List (Addr × Obj) → Addr → Nat → Addr → Heap → Shared → Prop) (xv : Value) (s₁ : Shared) : Prop :=
  wpAny (model prog w) A (pyIter xv) (fun it s₂ => ∃ I n P h₂, it = .ref I ∧ s₂ = { s₁ with heap := h₂ } ∧ n ≤ 1000000 ∧ IterOn prog w A target s₁.heap h₂ I n P ∧ J 0 [] [] ∧
    (∀ (i : Nat) (v : Value) (ys : List Value) (fz : List (Addr × Obj)) (C : Addr) (h : Heap) (tk : Nat) (m : Str → Option Value) (it : Obj) (D : Addr) (acc : Obj), i < n → P i v → J i ys fz → Fr s₁.heap C h m → News s₁.heap C h ((I, it) :: (D, acc) :: fz) → @Ne Nat I D → (∀ p ∈ fz, p.1 ≠ I ∧ p.1 ≠ D) →
      CpTurn prog w A target elt ifs (compEnvC scope cl C env) v (fun y s₅ => CpEnd s₁.heap C I it D acc (J (i + 1) (ys ++ [y])) s₁ s₅) (fun s₄ => CpEnd s₁.heap C I it D acc (J (i + 1) ys) s₁ s₄) { s₁ with heap := h, toks := tk }) ∧
    (∀ D C h' tk m' ys fz nn, J n ys fz → Fr s₁.heap C h' m' → News s₁.heap C h' ((D, PySem.W.listOf ys.toArray nn) :: fz) → (∀ p ∈ fz, p.1 ≠ D) → fin ys fz D nn C h' { s₁ with heap := h', toks := tk })) E s₁

theorem comp_eval {elt target iter : Expr} {ifs : List Expr} {scope : Scope} {cl : List (Str × Addr)} {pos : Pos} {Q : Value → Shared → Prop} (J : Nat → List Value → List (Addr × Obj) → Prop)
    (hclos : closureFor scope env = pure cl) (hcell : ∀ y ∈ scope.names, y.2 ≠ .cell) (hkind : scope.kind = .function)
    (hnames : ∀ y ∈ scope.names, y.2 = .local → scope.names.lookup y.1 = some .local)
    (h : wpAny (model prog w) A (eval iter env) (CpGo prog w A E target elt ifs scope cl env J (FinE Q)) E s)
    (hs : ∀ x, foldedSetIterable iter env x = pure x) :
    wpAny (model prog w) A (eval (.ListComp elt [⟨target, iter, ifs, 0⟩] scope pos) env) Q E s := by
  rw [eval_ListComp]
  refine wpAny_comprehension_free (use := none) rfl hs hclos hkind hnames (wpAny_mono h (fun xv s₁ h₁ => wpAny_mono h₁ (fun it s₂ h₂ => ?_) fun _ _ e => e) fun _ _ e => e)
  obtain ⟨I, n, P, h₂, rfl, rfl, hsz, ⟨fp, St, W, hlet, hSt, hst, hfp, hkeep, hI, hbI⟩, hJ0, turn, fin⟩ := h₂
  refine comp_block (hb := s₁.heap) (RR := fun acc C => compPost (model prog w) A E none Q acc C) W hsz J hcell hkind hlet hSt hst hfp hkeep hI hbI hJ0 turn ?_
  intro D C h' tk m' ys fz nn hJ F N off
  exact ⟨m', F.ns, fun h'' hs'' => fin D C h' tk m' ys fz nn hJ F N off h'' hs''⟩

theorem comp_assign {elt target iter : Expr} {ifs : List Expr} {scope : Scope} {cl : List (Str × Addr)} {y : Str} {py pos spos : Pos} {Q : Flow → Shared → Prop} (J : Nat → List Value → List (Addr × Obj) → Prop)
    (hsw : swapsWith (.ListComp elt [⟨target, iter, ifs, 0⟩] scope pos) (some (.Name y py)) spos.line env = pure true)
    (hclos : closureFor scope env = pure cl) (hcell : ∀ y ∈ scope.names, y.2 ≠ .cell) (hkind : scope.kind = .function)
    (hnames : ∀ y ∈ scope.names, y.2 = .local → scope.names.lookup y.1 = some .local)
    (hy : env.kindOf y = some .local) (hp : (env.scope.kind == .class || (env.scope.kind == .module && env.locals != env.globals)) = false)
    (h : wpAny (model prog w) A (eval iter env) (CpGo prog w A E target elt ifs scope cl env J (FinA env y Q)) E s)
    (hs : ∀ x, foldedSetIterable iter env x = pure x) :
    wpAny (model prog w) A (exec (.Assign [.Name y py] (.ListComp elt [⟨target, iter, ifs, 0⟩] scope pos) spos) env) Q E s := by
  rw [exec_Assign_Name_used _ _ _ _ hsw]
  refine wpAny_bind (wpAny_standAt (wpAny_bind ?_))
  show wpAny _ A (do let _ ← comprehension (.ListComp elt [⟨target, iter, ifs, 0⟩] scope pos) scope env _ (newList []) false (eval iter env) (some (assign (.Name y py) env))) _ _ s
  refine wpAny_bind (wpAny_mono (wpAny_comprehension_free (use := some (assign (.Name y py) env)) (Q := fun _ s' => Q .next s') rfl hs hclos hkind hnames
    (wpAny_mono h (fun xv s₁ h₁ => wpAny_mono h₁ (fun it s₂ h₂ => ?_) fun _ _ e => e) fun _ _ e => e)) (fun _ s' hq => wpAny_pure (wpAny_pure hq)) fun _ _ e => e)
  obtain ⟨I, n, P, h₂, rfl, rfl, hsz, ⟨fp, St, W, hlet, hSt, hst, hfp, hkeep, hI, hbI⟩, hJ0, turn, fin⟩ := h₂
  refine comp_block (hb := s₁.heap) (RR := fun acc C => compPost (model prog w) A E (some (assign (.Name y py) env)) (fun _ s' => Q .next s') acc C) W hsz J hcell hkind hlet hSt hst hfp hkeep hI hbI hJ0 turn ?_
  intro D C h' tk m' ys fz nn hJ F N off
  obtain ⟨m, hn, hLC, k⟩ := fin D C h' tk m' ys fz nn hJ F N off
  show wpAny _ A (assign (.Name y py) env (.ref D)) _ _ _
  refine wpAny_assign_Name (wpAny_storeName_local hy hn (fun h₂ hn₂ hs₂ => ?_) hp)
  exact ⟨m', F.ns.sameBut hs₂ (Ne.symm hLC), fun h₃ hs₃ => k h₂ h₃ _ hn₂ hs₂ hs₃⟩
end

theorem comp_after {h₀ hb h' h'' : Heap} {L C D : Addr} {m m' : Str → Option Value} {o : Obj} {news fz : List (Addr × Obj)} (F : Fr h₀ L hb m) (N : News h₀ L hb news) (F' : Fr hb C h' m') (N' : News hb C h' ((D, o) :: fz)) (hs : Heap.SameBut C h' h'') :
    Fr h₀ L h'' m ∧ News h₀ L h'' ((D, o) :: (fz ++ news)) ∧ (∀ p ∈ (D, o) :: fz, hb.get? p.1 = none) ∧ hb.StaysIn h'' := by
  have hC : hb.get? C = none := Heap.get?_none_of_le F'.above
  have up : hb.StaysIn h'' := fun b ob e => hs.extBut b ob (fun q => by rw [q, hC] at e; cases e) (F'.keep b ob e)
  have fr : ∀ p ∈ (D, o) :: fz, hb.get? p.1 = none := fun p hp => (N' p hp).2.2
  obtain ⟨oL, es, ep, hL, r⟩ := id F.ns
  have new : ∀ p ∈ (D, o) :: fz, h''.get? p.1 = some p.2 ∧ p.1 ≠ L ∧ h₀.get? p.1 = none := fun p hp => by
    refine ⟨hs.extBut _ _ (N' p hp).2.1 (N' p hp).1, fun q => ?_, ?_⟩
    · have := fr p hp; rw [q, hL] at this; cases this
    · cases z : h₀.get? p.1 with
      | none => rfl
      | some ob => have := fr p hp; rw [F.keep _ _ z] at this; cases this
  refine ⟨Fr.grow F up, fun p hp => ?_, fr, up⟩
  rcases List.mem_cons.mp hp with rfl | hp
  · exact new _ (.head _)
  · rcases List.mem_append.mp hp with hp | hp
    · exact new p (.tail _ hp)
    · exact ⟨up _ _ (N p hp).1, (N p hp).2⟩

section
variable {prog : Program} {w : World} {A : Around} {E : Value → Shared → Prop} {env : Env} {s : Shared} {elt target : Expr} {ifs : List Expr} {scope : Scope} {cl : List (Str × Addr)} {J : Nat → List Value → List (Addr × Obj) → Prop}
  {h₀ : Heap} {L : Addr} {m : Str → Option Value} {news : List (Addr × Obj)}

theorem fin_eval {Q : Value → Shared → Prop} {n : Nat} (F : Fr h₀ L s.heap m) (N : News h₀ L s.heap news)
    (fin : ∀ D ys fz nn h' tk, J n ys fz → Fr h₀ L h' m → News h₀ L h' ((D, PySem.W.listOf ys.toArray nn) :: (fz ++ news)) → (∀ p ∈ fz ++ news, p.1 ≠ D) → (∀ p ∈ fz, s.heap.get? p.1 = none) → s.heap.StaysIn h' → Q (.ref D) { s with heap := h', toks := tk }) :
    ∀ D C h' tk m' ys fz nn, J n ys fz → Fr s.heap C h' m' → News s.heap C h' ((D, PySem.W.listOf ys.toArray nn) :: fz) → (∀ p ∈ fz, p.1 ≠ D) → (FinE Q) ys fz D nn C h' { s with heap := h', toks := tk } := by
  intro D C h' tk m' ys fz nn hJ F' N' off h'' hs
  obtain ⟨a, b, c, d⟩ := comp_after F N F' N' hs
  refine fin D ys fz nn h'' tk hJ a b (fun p hp => ?_) (fun p hp => c p (.tail _ hp)) d
  rcases List.mem_append.mp hp with hp | hp
  · exact off p hp
  · intro q
    have := c (D, _) (.head _)
    rw [← q, (N p hp).1] at this; cases this

theorem fin_assign {Q : Flow → Shared → Prop} {n : Nat} {y : Str} (F : Fr h₀ env.locals s.heap m) (N : News h₀ env.locals s.heap news)
    (fin : ∀ D ys fz nn h' tk, J n ys fz → Fr h₀ env.locals h' (fun z => if z = y then some (.ref D) else m z) → News h₀ env.locals h' ((D, PySem.W.listOf ys.toArray nn) :: (fz ++ news)) → (∀ p ∈ fz ++ news, p.1 ≠ D) → (∀ p ∈ fz, s.heap.get? p.1 = none) → Q .next { s with heap := h', toks := tk }) :
    ∀ D C h' tk m' ys fz nn, J n ys fz → Fr s.heap C h' m' → News s.heap C h' ((D, PySem.W.listOf ys.toArray nn) :: fz) → (∀ p ∈ fz, p.1 ≠ D) → (FinA env y Q) ys fz D nn C h' { s with heap := h', toks := tk } := by
  intro D C h' tk m' ys fz nn hJ F' N' off
  obtain ⟨a, b, c, d⟩ := comp_after (h'' := h') F N F' N' ⟨rfl, fun _ _ => rfl⟩
  have hLC : env.locals ≠ C := Nat.ne_of_lt (Nat.lt_of_lt_of_le F.ns.lt F'.above)
  refine ⟨m, a.ns, hLC, fun h₂ h₃ tk' hn hs₂ hs₃ => ?_⟩
  have F₂ := a.set hn hs₂
  have N₂ := PyProof.Rows.News.set b hs₂
  have hC0 : ∀ p ∈ (D, PySem.W.listOf ys.toArray nn) :: (fz ++ news), p.1 ≠ C := fun p hp => by
    rcases List.mem_cons.mp hp with rfl | hp
    · exact (N' _ (.head _)).2.1
    · rcases List.mem_append.mp hp with hp | hp
      · exact (N' _ (.tail _ hp)).2.1
      · exact Nat.ne_of_lt (Nat.lt_of_lt_of_le (Heap.lt_size (N p hp).1) F'.above)
  have h0C : h₀.get? C = none := by
    cases z : h₀.get? C with
    | none => rfl
    | some ob => exact absurd (Heap.lt_size (F.keep _ _ z)) (Nat.not_lt.mpr F'.above)
  refine fin D ys fz nn h₃ tk' hJ (Fr.upd F₂ (fun b o hb e => hs₃.extBut b o hb e) hLC h0C) (News.upd N₂ (fun b o hb e => hs₃.extBut b o hb e) hC0) (fun p hp => ?_) (fun p hp => c p (.tail _ hp))
  rcases List.mem_append.mp hp with hp | hp
  · exact off p hp
  · intro q
    have := c (D, _) (.head _)
    rw [← q, (N p hp).1] at this; cases this

theorem compgo_list {fin : List Value → List (Addr × Obj) → Addr → Nat → Addr → Heap → Shared → Prop} {ax : Addr} {items : List Value} (hh : A.handled = none) (hl : s.heap.IsList ax items.toArray) (hsz : items.length ≤ 1000000) (hJ0 : J 0 [] [])
    (turn : ∀ (i : Nat) (v : Value) (ys : List Value) (fz : List (Addr × Obj)) (C : Addr) (h : Heap) (tk : Nat) (m : Str → Option Value) (I : Addr) (it : Obj) (D : Addr) (acc : Obj), items[i]? = some v → J i ys fz → Fr s.heap C h m → News s.heap C h ((I, it) :: (D, acc) :: fz) → @Ne Nat I D → (∀ p ∈ fz, p.1 ≠ I ∧ p.1 ≠ D) →
      CpTurn prog w A target elt ifs (compEnvC scope cl C env) v (fun y s₅ => CpEnd s.heap C I it D acc (J (i + 1) (ys ++ [y])) s s₅) (fun s₄ => CpEnd s.heap C I it D acc (J (i + 1) ys) s s₄) { s with heap := h, toks := tk })
    (hfin : ∀ D C h' tk m' ys fz nn, J items.length ys fz → Fr s.heap C h' m' → News s.heap C h' ((D, PySem.W.listOf ys.toArray nn) :: fz) → (∀ p ∈ fz, p.1 ≠ D) → fin ys fz D nn C h' { s with heap := h', toks := tk }) :
    CpGo prog w A E target elt ifs scope cl env J fin (.ref ax) s :=
  src_list (target := target) hh hl fun I h₂ it => ⟨I, _, _, h₂, rfl, rfl, hsz, it, hJ0, fun i v ys fz C h tk m it D acc _ hP hJ F N hne off => turn i v ys fz C h tk m I it D acc hP hJ F N hne off, hfin⟩

theorem compgo_range {fin : List Value → List (Addr × Obj) → Addr → Nat → Addr → Heap → Shared → Prop} {r : Addr} {a b : Int} {t u v : Tok} {n : Nat} (hh : A.handled = none) (hr : IsRange s.heap r a b 1 t u v) (hsmall : Builtin.Range.small a b 1 = true) (hn : Builtin.Range.rangeSize a b 1 = (n : Int)) (hsz : n ≤ 1000000) (hJ0 : J 0 [] [])
    (turn : ∀ (i : Nat) (u : Tok) (ys : List Value) (fz : List (Addr × Obj)) (C : Addr) (h : Heap) (tk : Nat) (m : Str → Option Value) (I : Addr) (it : Obj) (D : Addr) (acc : Obj), i < n → J i ys fz → Fr s.heap C h m → News s.heap C h ((I, it) :: (D, acc) :: fz) → @Ne Nat I D → (∀ p ∈ fz, p.1 ≠ I ∧ p.1 ≠ D) →
      CpTurn prog w A target elt ifs (compEnvC scope cl C env) (.int (a + i) u) (fun y s₅ => CpEnd s.heap C I it D acc (J (i + 1) (ys ++ [y])) s s₅) (fun s₄ => CpEnd s.heap C I it D acc (J (i + 1) ys) s s₄) { s with heap := h, toks := tk })
    (hfin : ∀ D C h' tk m' ys fz nn, J n ys fz → Fr s.heap C h' m' → News s.heap C h' ((D, PySem.W.listOf ys.toArray nn) :: fz) → (∀ p ∈ fz, p.1 ≠ D) → fin ys fz D nn C h' { s with heap := h', toks := tk }) :
    CpGo prog w A E target elt ifs scope cl env J fin (.ref r) s :=
  src_range (target := target) hh hr hsmall hn fun I h₂ it => ⟨I, _, _, h₂, rfl, rfl, hsz, it, hJ0, fun i v ys fz C h tk m it D acc hi hP hJ F N hne off => by
    obtain ⟨u, rfl⟩ := hP
    exact turn i u ys fz C h tk m I it D acc hi hJ F N hne off, hfin⟩

theorem go_list_assign {Q : Flow → Shared → Prop} {y : Str} {ax : Addr} {items : List Value} (hh : A.handled = none) (hl : s.heap.IsList ax items.toArray) (hsz : items.length ≤ 1000000) (F : Fr h₀ L s.heap m) (N : News h₀ L s.heap news) (hL : env.locals = L) (hJ0 : J 0 [] [])
    (turn : ∀ (i : Nat) (v : Value) (ys : List Value) (fz : List (Addr × Obj)) (C : Addr) (h : Heap) (tk : Nat) (m : Str → Option Value) (I : Addr) (it : Obj) (D : Addr) (acc : Obj), items[i]? = some v → J i ys fz → Fr s.heap C h m → News s.heap C h ((I, it) :: (D, acc) :: fz) → @Ne Nat I D → (∀ p ∈ fz, p.1 ≠ I ∧ p.1 ≠ D) →
      CpTurn prog w A target elt ifs (compEnvC scope cl C env) v (fun y s₅ => CpEnd s.heap C I it D acc (J (i + 1) (ys ++ [y])) s s₅) (fun s₄ => CpEnd s.heap C I it D acc (J (i + 1) ys) s s₄) { s with heap := h, toks := tk })
    (fin : ∀ D ys fz nn h' tk, J items.length ys fz → Fr h₀ L h' (fun z => if z = y then some (.ref D) else m z) → News h₀ L h' ((D, PySem.W.listOf ys.toArray nn) :: (fz ++ news)) → (∀ p ∈ fz ++ news, p.1 ≠ D) → (∀ p ∈ fz, s.heap.get? p.1 = none) → Q .next { s with heap := h', toks := tk }) :
    CpGo prog w A E target elt ifs scope cl env J (FinA env y Q) (.ref ax) s := by
  subst hL
  exact compgo_list hh hl hsz hJ0 turn (fin_assign F N fin)
theorem go_list_eval {Q : Value → Shared → Prop} {ax : Addr} {items : List Value} (hh : A.handled = none) (hl : s.heap.IsList ax items.toArray) (hsz : items.length ≤ 1000000) (F : Fr h₀ L s.heap m) (N : News h₀ L s.heap news) (hJ0 : J 0 [] [])
    (turn : ∀ (i : Nat) (v : Value) (ys : List Value) (fz : List (Addr × Obj)) (C : Addr) (h : Heap) (tk : Nat) (m : Str → Option Value) (I : Addr) (it : Obj) (D : Addr) (acc : Obj), items[i]? = some v → J i ys fz → Fr s.heap C h m → News s.heap C h ((I, it) :: (D, acc) :: fz) → @Ne Nat I D → (∀ p ∈ fz, p.1 ≠ I ∧ p.1 ≠ D) →
      CpTurn prog w A target elt ifs (compEnvC scope cl C env) v (fun y s₅ => CpEnd s.heap C I it D acc (J (i + 1) (ys ++ [y])) s s₅) (fun s₄ => CpEnd s.heap C I it D acc (J (i + 1) ys) s s₄) { s with heap := h, toks := tk })
    (fin : ∀ D ys fz nn h' tk, J items.length ys fz → Fr h₀ L h' m → News h₀ L h' ((D, PySem.W.listOf ys.toArray nn) :: (fz ++ news)) → (∀ p ∈ fz ++ news, p.1 ≠ D) → (∀ p ∈ fz, s.heap.get? p.1 = none) → s.heap.StaysIn h' → Q (.ref D) { s with heap := h', toks := tk }) :
    CpGo prog w A E target elt ifs scope cl env J (FinE Q) (.ref ax) s := compgo_list hh hl hsz hJ0 turn (fin_eval F N fin)
theorem go_range_assign {Q : Flow → Shared → Prop} {y : Str} {r : Addr} {a b : Int} {t u v : Tok} {n : Nat} (hh : A.handled = none) (hr : IsRange s.heap r a b 1 t u v) (hsmall : Builtin.Range.small a b 1 = true) (hn : Builtin.Range.rangeSize a b 1 = (n : Int)) (hsz : n ≤ 1000000) (F : Fr h₀ L s.heap m) (N : News h₀ L s.heap news) (hL : env.locals = L) (hJ0 : J 0 [] [])
    (turn : ∀ (i : Nat) (u : Tok) (ys : List Value) (fz : List (Addr × Obj)) (C : Addr) (h : Heap) (tk : Nat) (m : Str → Option Value) (I : Addr) (it : Obj) (D : Addr) (acc : Obj), i < n → J i ys fz → Fr s.heap C h m → News s.heap C h ((I, it) :: (D, acc) :: fz) → @Ne Nat I D → (∀ p ∈ fz, p.1 ≠ I ∧ p.1 ≠ D) →
      CpTurn prog w A target elt ifs (compEnvC scope cl C env) (.int (a + i) u) (fun y s₅ => CpEnd s.heap C I it D acc (J (i + 1) (ys ++ [y])) s s₅) (fun s₄ => CpEnd s.heap C I it D acc (J (i + 1) ys) s s₄) { s with heap := h, toks := tk })
    (fin : ∀ D ys fz nn h' tk, J n ys fz → Fr h₀ L h' (fun z => if z = y then some (.ref D) else m z) → News h₀ L h' ((D, PySem.W.listOf ys.toArray nn) :: (fz ++ news)) → (∀ p ∈ fz ++ news, p.1 ≠ D) → (∀ p ∈ fz, s.heap.get? p.1 = none) → Q .next { s with heap := h', toks := tk }) :
    CpGo prog w A E target elt ifs scope cl env J (FinA env y Q) (.ref r) s := by
  subst hL
  exact compgo_range hh hr hsmall hn hsz hJ0 turn (fin_assign F N fin)
theorem go_range_eval {Q : Value → Shared → Prop} {r : Addr} {a b : Int} {t u v : Tok} {n : Nat} (hh : A.handled = none) (hr : IsRange s.heap r a b 1 t u v) (hsmall : Builtin.Range.small a b 1 = true) (hn : Builtin.Range.rangeSize a b 1 = (n : Int)) (hsz : n ≤ 1000000) (F : Fr h₀ L s.heap m) (N : News h₀ L s.heap news) (hJ0 : J 0 [] [])
    (turn : ∀ (i : Nat) (u : Tok) (ys : List Value) (fz : List (Addr × Obj)) (C : Addr) (h : Heap) (tk : Nat) (m : Str → Option Value) (I : Addr) (it : Obj) (D : Addr) (acc : Obj), i < n → J i ys fz → Fr s.heap C h m → News s.heap C h ((I, it) :: (D, acc) :: fz) → @Ne Nat I D → (∀ p ∈ fz, p.1 ≠ I ∧ p.1 ≠ D) →
      CpTurn prog w A target elt ifs (compEnvC scope cl C env) (.int (a + i) u) (fun y s₅ => CpEnd s.heap C I it D acc (J (i + 1) (ys ++ [y])) s s₅) (fun s₄ => CpEnd s.heap C I it D acc (J (i + 1) ys) s s₄) { s with heap := h, toks := tk })
    (fin : ∀ D ys fz nn h' tk, J n ys fz → Fr h₀ L h' m → News h₀ L h' ((D, PySem.W.listOf ys.toArray nn) :: (fz ++ news)) → (∀ p ∈ fz ++ news, p.1 ≠ D) → (∀ p ∈ fz, s.heap.get? p.1 = none) → s.heap.StaysIn h' → Q (.ref D) { s with heap := h', toks := tk }) :
    CpGo prog w A E target elt ifs scope cl env J (FinE Q) (.ref r) s := compgo_range hh hr hsmall hn hsz hJ0 turn (fin_eval F N fin)
theorem turn_name {x : Str} {px : Pos} {C : Addr} {h : Heap} {tk : Nat} {hb : Heap} {v : Value} {yes : Value → Shared → Prop} {no : Shared → Prop} (F : Fr hb C h m) (N : News hb C h news)
    (hx : scope.names.lookup x = some .local) (hkind : scope.kind = .function)
    (k : ∀ h' tk', Fr hb C h' (fun y => if y = x then some v else m y) → News hb C h' news → wpAny (model prog w) A (forIn ifs true fun c r => if r = true then do let ok ← isTrue c (compEnvC scope cl C env) (eval c (compEnvC scope cl C env)); pure (ForInStep.yield ok) else pure (ForInStep.yield r)) (fun ok s₄ =>
      if ok = true then wpAny (model prog w) A (eval elt (compEnvC scope cl C env)) yes (fun _ _ => False) s₄ else no s₄) (fun _ _ => False) { s with heap := h', toks := tk' }) :
    CpTurn prog w A (.Name x px) elt ifs (compEnvC scope cl C env) v yes no { s with heap := h, toks := tk } := by
  unfold CpTurn
  exact wpAny_assign_Name (wpAny_storeName_local (lookup_relabel_local hx) F.ns (fun h₂ hn₂ hs₂ => k h₂ (tk + 1) (F.set hn₂ hs₂) (PyProof.Rows.News.set N hs₂)) (by simp [compEnvC, relabel, hkind]))
theorem turn_name0 {x : Str} {px : Pos} {C : Addr} {h : Heap} {tk : Nat} {hb : Heap} {v : Value} {yes : Value → Shared → Prop} {no : Shared → Prop} (F : Fr hb C h m) (N : News hb C h news)
    (hx : scope.names.lookup x = some .local) (hkind : scope.kind = .function)
    (k : ∀ h' tk', Fr hb C h' (fun y => if y = x then some v else m y) → News hb C h' news → wpAny (model prog w) A (eval elt (compEnvC scope cl C env)) yes (fun _ _ => False) { s with heap := h', toks := tk' }) :
    CpTurn prog w A (.Name x px) elt [] (compEnvC scope cl C env) v yes no { s with heap := h, toks := tk } :=
  turn_name F N hx hkind fun h' tk' F' N' => wpAny_tests_nil (by simp only [if_true]; exact k h' tk' F' N')
theorem turn_name1 {x : Str} {px : Pos} {C : Addr} {h : Heap} {tk : Nat} {hb : Heap} {v : Value} {c : Expr} {yes : Value → Shared → Prop} {no : Shared → Prop} (F : Fr hb C h m) (N : News hb C h news)
    (hx : scope.names.lookup x = some .local) (hkind : scope.kind = .function)
    (k : ∀ h' tk', Fr hb C h' (fun y => if y = x then some v else m y) → News hb C h' news → wpAny (model prog w) A (isTrue c (compEnvC scope cl C env) (eval c (compEnvC scope cl C env))) (fun ok s₄ =>
      if ok = true then wpAny (model prog w) A (eval elt (compEnvC scope cl C env)) yes (fun _ _ => False) s₄ else no s₄) (fun _ _ => False) { s with heap := h', toks := tk' }) :
    CpTurn prog w A (.Name x px) elt [c] (compEnvC scope cl C env) v yes no { s with heap := h, toks := tk } :=
  turn_name F N hx hkind fun h' tk' F' N' => wpAny_tests_one (k h' tk' F' N')
end

-- names read in a comprehension's block
section
variable {M : Model} {A : Around} {E : Value → Shared → Prop} {s : Shared} {K : Frag} {h₀ : Heap} {C c : Addr} {m mg mb : Str → Option Value} {env : Env} {p : Program} {loose : List Str}
  {x : Str} {pos : Pos} {v : Value} {Q : Value → Shared → Prop}
theorem nmB (F : Fr h₀ C s.heap m) (X : K.In h₀) (T : TopRead p loose mg mb h₀) (e : nsIn K mainGlobals x = some none) (hv : bootBuiltins x = some v) (hn : x ≠ "__name__") (h : Q v s) (hg : env.globals = mainGlobals) (hbs : env.builtins = builtinsNs) (hk : env.scope.kind = .function) (hx : env.kindOf x = some .globalImplicit) (hd : (x == ("__debug__" : Str)) = false) :
    wpAny M A (eval (.Name x pos) env) Q E s :=
  Calls.Name_function_global hk hx (Calls.loadGlobal_builtin (env := env) (by rw [hg]; exact T.g.keeps F.keep) (mg_none_of X T.g e) (by rw [hbs]; exact T.b.keeps F.keep) ((T.builtins x hn).trans hv) h) hd
theorem nmL (F : Fr h₀ C s.heap m) (hC : env.locals = C) (hv : m x = some v) (h : Q v s) (hk : env.scope.kind = .function) (hx : env.kindOf x = some .local) (hd : (x == ("__debug__" : Str)) = false) :
    wpAny M A (eval (.Name x pos) env) Q E s := wpAny_Name (wpAny_loadName_local hk hx (hC ▸ F.ns) hv h) hd
theorem nmC (F : Fr h₀ C s.heap m) (hc : env.cells.lookup x = some c) (hv : h₀.IsCell c (some v)) (h : Q v s) (hk : env.scope.kind = .function) (hx : env.kindOf x = some .cell) (hd : (x == ("__debug__" : Str)) = false) :
    wpAny M A (eval (.Name x pos) env) Q E s := wpAny_Name (wpAny_loadName_cell hk hx hc (hv.keeps F.keep) h) hd
theorem nmG (F : Fr h₀ C s.heap m) (X : K.In h₀) (T : TopRead p loose mg mb h₀) (e : nsIn K mainGlobals x = some (some v)) (h : Q v s) (hg : env.globals = mainGlobals) (hk : env.scope.kind = .function) (hx : env.kindOf x = some .globalImplicit) (hd : (x == ("__debug__" : Str)) = false) :
    wpAny M A (eval (.Name x pos) env) Q E s := nameG_K F X T e h hg hk hx hd
end
end Mine
end
section
open PySem PySem.W PyProof.Rows PySem.Calls
set_option Elab.async false
set_option maxRecDepth 100000
set_option maxHeartbeats 8000000
namespace Mine
theorem fill_here3 : True := by w_top off; trivial

theorem len_slash2 : (Str.ofString "//").length = 2 := by decide +kernel
def sLt (a b : Str) : Bool := decide (a.cps.toList < b.cps.toList)
def ssStep {α : Type} (lt : α → α → Bool) (p : List α × List α) (x : α) : List α × List α := (x :: p.1.dropWhile (lt · x), p.2 ++ p.1.takeWhile (lt · x))
def ssRun {α : Type} (lt : α → α → Bool) (xs : List α) : List α × List α := xs.foldl (ssStep lt) ([], [])
def ssOut {α : Type} (lt : α → α → Bool) (xs : List α) : List α := (ssRun lt xs).2 ++ (ssRun lt xs).1

local macro_rules | `(tactic| walk_at "call ref") => `(tactic| (k_here; (k_dflt (refine' use_gives (strcoll_gives _ _ _ _ _) ?k1 ?k2 ?k3 ?k4 ?k5 ?k6 ?k7 ?k8 ?_; (case k1 => k_asm); (case k2 => k_asm); (case k3 => k_asm); (case k4 => k_asm); (case k5 => exact rfl); (case k6 => exact Nat.le_of_ble_eq_true rfl); (case k7 => exact Nat.le_of_ble_eq_true rfl); (case k8 => first | exact trivial | assumption); k_whole)); intro v9 h' tk' F' N' hs9 hp9; obtain ⟨t9, hp9⟩ := hp9; subst hp9; clear hs9; (try dsimp only); (try k_fold)))
local macro_rules | `(tactic| walk_at "call ref") => `(tactic| (k_here; (k_dflt (refine' use_gives (basename_gives _ _ _ (by omega)) ?k1 ?k2 ?k3 ?k4 ?k5 ?k6 ?k7 ?k8 ?_; (case k1 => k_asm); (case k2 => k_asm); (case k3 => k_asm); (case k4 => k_asm); (case k5 => exact rfl); (case k6 => exact Nat.le_of_ble_eq_true rfl); (case k7 => exact Nat.le_of_ble_eq_true rfl); (case k8 => first | exact trivial | assumption); k_whole)); intro v9 h' tk' F' N' hs9 hp9; obtain ⟨t9, hp9⟩ := hp9; subst hp9; clear hs9; (try dsimp only); (try k_fold)))
local macro_rules | `(tactic| walk_at "call ref") => `(tactic| (k_here; (k_dflt (refine' use_gives (join_gives _ _ _ _ _ (by first | omega | (simp only [Str.length_append, len_slash2]; omega)) (by omega)) ?k1 ?k2 ?k3 ?k4 ?k5 ?k6 ?k7 ?k8 ?_; (case k1 => k_asm); (case k2 => k_asm); (case k3 => k_asm); (case k4 => k_asm); (case k5 => exact rfl); (case k6 => exact Nat.le_of_ble_eq_true rfl); (case k7 => exact Nat.le_of_ble_eq_true rfl); (case k8 => first | exact trivial | assumption); k_whole)); intro v9 h' tk' F' N' hs9 hp9; obtain ⟨t9, hp9⟩ := hp9; subst hp9; clear hs9; (try dsimp only); (try k_fold)))
local macro_rules | `(tactic| walk_at "call ref") => `(tactic| (k_here; (k_dflt (refine' use_new (split_gives _ _ _ (by omega)) ?k1 ?k2 ?k3 ?k4 ?k5 ?k6 ?k7 ?k8 ?_; (case k1 => k_asm); (case k2 => k_asm); (case k3 => k_asm); (case k4 => k_asm); (case k5 => exact rfl); (case k6 => exact Nat.le_of_ble_eq_true rfl); (case k7 => exact Nat.le_of_ble_eq_true rfl); (case k8 => first | exact trivial | assumption); k_whole)); intro D9 x9 h' tk' F' N' hne9 hs9 hp9; clear hs9 hp9; (replace hne9 := allNe_of hne9; simp only [AllNe, and_true] at hne9); (try dsimp only); (try k_fold)))
local macro_rules | `(tactic| walk_at "exec For Name Name cons nil") => `(tactic| (k_here; with_unfolding_all refine wpAny_For ?_))
local macro_rules | `(tactic| walk_at "eval Name") => `(tactic| (k_here; k_dflt (refine' ld ?k1 ?k2 ?_; (case k1 => k_asm); (case k2 => first | exact rfl | assumption); k_whole)))


section
variable {α : Type} (lt : α → α → Bool)
theorem ssRun_snoc (xs : List α) (x : α) : ssRun lt (xs ++ [x]) = ssStep lt (ssRun lt xs) x := by unfold ssRun; rw [List.foldl_append]; rfl
theorem takeDrop_len (p : α → Bool) (l : List α) : (l.takeWhile p).length + (l.dropWhile p).length = l.length := by
  rw [← List.length_append, List.takeWhile_append_dropWhile]
theorem ssRun_len (xs : List α) : (ssRun lt xs).1.length + (ssRun lt xs).2.length = xs.length := by
  rw [← List.reverse_reverse xs]
  induction xs.reverse with
  | nil => rfl
  | cons x r ih =>
    rw [List.reverse_cons, ssRun_snoc]
    simp only [ssStep, List.length_cons, List.length_append]
    have := takeDrop_len (lt · x) (ssRun lt r.reverse).1
    simp only [List.length_nil]
    omega
theorem ssRun_mem (xs : List α) : ∀ y, y ∈ (ssRun lt xs).1 ∨ y ∈ (ssRun lt xs).2 → y ∈ xs := by
  rw [← List.reverse_reverse xs]
  induction xs.reverse with
  | nil => intro y h; rcases h with h | h <;> cases h
  | cons x r ih =>
    intro y h
    rw [List.reverse_cons, ssRun_snoc] at *
    simp only [ssStep, List.mem_cons, List.mem_append] at h
    rw [List.mem_append]
    rcases h with (h | h) | (h | h)
    · exact .inr (by simp [h])
    · exact .inl (ih y (.inl ((List.dropWhile_sublist _).subset h)))
    · exact .inl (ih y (.inr h))
    · exact .inl (ih y (.inl ((List.takeWhile_sublist _).subset h)))
end
theorem take_all {α : Type} {p : α → Bool} {a b : List α} (h : ∀ y ∈ a, p y = true) (hb : b.head?.all (fun y => !p y) = true) : (a ++ b).takeWhile p = a ∧ (a ++ b).dropWhile p = b := by
  induction a with
  | nil =>
    cases b with
    | nil => exact ⟨rfl, rfl⟩
    | cons y r =>
      have : p y = false := by simpa using hb
      simp [this]
  | cons y r ih =>
    have hy := h y (.head _)
    have := ih fun z hz => h z (.tail _ hz)
    simp [hy, this]
theorem b2i_lt {a b : List Nat} (h : ¬ 0 ≤ b2i (decide (b < a)) - b2i (decide (a < b))) : decide (a < b) = true := by
  cases hd : decide (a < b) with
  | true => rfl
  | false => rw [hd] at h; cases hc : decide (b < a) <;> rw [hc] at h <;> exact absurd (by decide) h
theorem b2i_ge {a b : List Nat} (h : 0 ≤ b2i (decide (b < a)) - b2i (decide (a < b))) : decide (a < b) = false := by
  cases hd : decide (a < b) with
  | false => rfl
  | true =>
    rw [hd] at h
    cases hc : decide (b < a) with
    | false => rw [hc] at h; exact absurd h (by decide)
    | true => exact absurd (of_decide_eq_true hd) (List.lt_asymm (of_decide_eq_true hc))
theorem strValues_push (outs : List (Str × Tok)) (y : Str) (t : Tok) : (strValues outs).toArray.push (.str y t) = (strValues (outs ++ [(y, t)])).toArray := by
  simp [strValues]

def PassJ (l : Addr) (names : List (Str × Tok)) (root : Str) (tr : Tok) (i : Nat) (m : Str → Option Value) (news : List (Addr × Obj)) : Prop :=
  ∃ o st outs t, news = [(o, W.listOf (strValues outs).toArray outs.length)] ∧ ssRun sLt ((names.map (·.1)).take i) = (st, outs.map (·.1)) ∧
    m (Str.ofString "path") = some (.str (pathOf root st) t) ∧ m (Str.ofString "out") = some (.ref o) ∧ m (Str.ofString "names") = some (.ref l) ∧ m (Str.ofString "root") = some (.str root tr)

def PassI (l : Addr) (I : Addr) (it : Obj) (x : Str) (tx : Tok) (root : Str) (tr : Tok) (st0 out0 : List Str) (j : Nat) (m : Str → Option Value) (news : List (Addr × Obj)) : Prop :=
  ∃ o st outs t pop, news = [(I, it), (o, W.listOf (strValues outs).toArray outs.length)] ∧ @Ne Nat o I ∧ st0 = pop ++ st ∧ pop.length = j ∧ (∀ y ∈ pop, sLt y x = true) ∧ outs.map (·.1) = out0 ++ pop ∧
    m (Str.ofString "path") = some (.str (pathOf root st) t) ∧ m (Str.ofString "out") = some (.ref o) ∧ m (Str.ofString "names") = some (.ref l) ∧ m (Str.ofString "root") = some (.str root tr) ∧ m (Str.ofString "name") = some (.str x tx)
def PassR (l : Addr) (I : Addr) (it : Obj) (x : Str) (tx : Tok) (root : Str) (tr : Tok) (st0 out0 : List Str) (m : Str → Option Value) (news : List (Addr × Obj)) : Prop :=
  ∃ o outs t, news = [(I, it), (o, W.listOf (strValues outs).toArray outs.length)] ∧ @Ne Nat o I ∧ outs.map (·.1) = out0 ++ st0.takeWhile (sLt · x) ∧
    m (Str.ofString "path") = some (.str (pathOf root (st0.dropWhile (sLt · x))) t) ∧ m (Str.ofString "out") = some (.ref o) ∧ m (Str.ofString "names") = some (.ref l) ∧ m (Str.ofString "root") = some (.str root tr) ∧ m (Str.ofString "name") = some (.str x tx)

def PassE (root : Str) (tr : Tok) (st0 out0 : List Str) (j : Nat) (m : Str → Option Value) (news : List (Addr × Obj)) : Prop :=
  ∃ o st outs t pop, news = [(o, W.listOf (strValues outs).toArray outs.length)] ∧ st0 = pop ++ st ∧ (pop.length = j ∨ st = []) ∧ outs.map (·.1) = out0 ++ pop ∧
    m (Str.ofString "path") = some (.str (pathOf root st) t) ∧ m (Str.ofString "out") = some (.ref o) ∧ m (Str.ofString "root") = some (.str root tr)

theorem pass_gives (w : World) (l : Addr) (names : List (Str × Tok)) (root : Str) (tr : Tok) (hr : IsRoot root) (hn : ∀ x ∈ names, Name x.1 ∧ x.1.length ≤ 10) (hlen : names.length ≤ 20) :
    Gives 202 10 w [.ref l, .str root tr] (fun h => h.IsList l (strValues names).toArray)
      (fun v h h' => ∃ D outs, v = .ref D ∧ h.get? D = none ∧ h'.get? D = some (W.listOf (strValues outs).toArray outs.length) ∧ outs.map (·.1) = ssOut sLt (names.map (·.1))) := by
  (intro prog A s p loose mean mg mb Q E X T hh hd hu hpre hret; refine wpAny_lv (A' := Lv 10) ?_ hh.symm hd rfl rfl hu; clear hh hd hu)
  (k_dflt (refine' enter_def (binds := [("names", .ref l), ("root", .str root tr)]) ?k1_q7 ?k2_q7 ?k6_q7 ?k7_q7 ?k8_q7 ?k9_q7 ?kB_q7 ?_ ?c2_q7 ?c3_q7 ?c4_q7 ?c5_q7; (case k1_q7 => assumption); (case k2_q7 => assumption); (case k6_q7 => k_is); (case k7_q7 => k_is); (case k8_q7 => decide); (case k9_q7 => exact BindsTo.of_eq rfl); (case kB_q7 => exact locs rfl); (case c2_q7 => exact rfl); (case c3_q7 => exact rfl); (case c4_q7 => exact rfl); (case c5_q7 => decide); k_whole); intro L' h' tk' eL F' N'; (try dsimp only); (try k_fold))
  k_steps
  rename Fr _ _ _ _ => kF
  rename News _ _ _ _ => kN
  refine' iter_list (items := strValues names) (PassJ l names root tr) rfl rfl rfl PassesOwn.never ?_ kF (fun p hp => kN p (.tail _ hp)) rfl ?_ ?_ ?_
  · exact fun _ _ _ h _ F _ => stays_list F.keep hpre
  · exact ⟨_, [], [], _, rfl, rfl, rfl, rfl, rfl, rfl⟩
  · intro i v m₁ news₁ h tk I it hi hit hlt hoff hJ F' N'
    obtain ⟨o, st, outs, t, rfl, hrun, hpath, hout, hnames, hroot⟩ := hJ
    clear kF kN
    k_steps
    rename Fr _ _ _ _ => kF
    rename News _ _ _ _ => kN
    obtain ⟨⟨x, tx⟩, hx, rfl⟩ : ∃ p, names[i]? = some p ∧ v = .str p.1 p.2 := by
      simp only [strValues, List.getElem?_map, Option.map_eq_some_iff] at hi
      obtain ⟨p, h1, h2⟩ := hi
      exact ⟨p, h1, h2.symm⟩
    have hmem := List.mem_of_getElem? hx
    have hoI : @Ne Nat o I := hoff _ (.head _)
    have hL1 := ssRun_len sLt ((names.map (·.1)).take i)
    have hM1 := ssRun_mem sLt ((names.map (·.1)).take i)
    rw [hrun] at hL1 hM1
    have hilt : i < names.length := (List.getElem?_eq_some_iff.mp hx).1
    simp only [List.length_take, List.length_map, Nat.min_eq_left (Nat.le_of_lt hilt)] at hL1
    have hM2 : ∀ y ∈ st, Name y ∧ y.length ≤ 10 := fun y hy => by
      obtain ⟨p, hp, rfl⟩ := List.mem_map.mp (List.mem_of_mem_take (hM1 y (.inl hy)))
      exact hn p hp
    refine' iter_list_meet (items := strValues names) (PassI l I it x tx root tr st (outs.map (·.1))) (PassR l I it x tx root tr st (outs.map (·.1))) rfl rfl rfl PassesOwn.never ?_ kF kN rfl ?_ ?_ ?_ ?_
    · exact fun _ _ _ h _ F _ => stays_list F.keep hpre
    · exact ⟨o, st, outs, t, [], rfl, hoI, rfl, rfl, (fun _ h => nomatch h), (by simp), hpath, hout, hnames, hroot, rfl⟩
    · intro j v2 m₂ news₂ h2 tk2 I2 it2 hj2 hit2 hlt2 hoff2 hJ2 F2 N2
      obtain ⟨o2, st2, outs2, t2, pop, rfl, ho2, hst, hpl, hpop, houts, hpath2, hout2, hnames2, hroot2, hname2⟩ := hJ2
      clear kF kN hpath hout hnames hroot
      have hsub : ∀ y ∈ st2, Name y ∧ y.length ≤ 10 := fun y hy => hM2 y (by rw [hst]; exact List.mem_append_right _ hy)
      have hlst : st.length = pop.length + st2.length := by rw [hst, List.length_append]
      have hlo : outs2.length = outs.length + pop.length := by have := congrArg List.length houts; simpa using this
      have hpl2 := pathOf_len hr fun y hy => (hsub y hy).2
      have hsz2 : (strValues outs2).toArray.size ≤ 1000 := by simp only [strValues, List.size_toArray, List.length_map]; omega
      (replace hoff2 := allNe_of hoff2; simp only [AllNe, and_true] at hoff2)
      k_lt hlt2
      (try k_fold)
      k_steps
      all_goals (rename Fr _ _ _ _ => kF; rename News _ _ _ _ => kN)

      · rename (((_ : Str) == _) = true) => hb
        rw [pathOf_eq_root hr fun y hy => (hsub y hy).1, List.isEmpty_iff] at hb
        subst hb
        obtain ⟨e1, e2⟩ := take_all (b := []) hpop rfl
        refine MtAt.intro kF kN _ (fun p hp => .tail _ hp) ⟨o2, outs2, t2, rfl, ho2, ?_, ?_, hout2, hnames2, hroot2, hname2⟩
        · rw [hst, e1]; exact houts
        · rw [hst, e2]; exact hpath2
      · rename (((_ : Str) == _) = false) => hb
        rename ((0 : Int) ≤ _) => hc
        cases st2 with
        | nil => rw [pathOf_eq_root hr fun y hy => (hsub y hy).1] at hb; cases hb
        | cons y st3 =>
          rw [base_pathOf hr (hsub y (.head _)).1] at hc
          have hc' := b2i_ge hc
          obtain ⟨e1, e2⟩ := take_all (p := (sLt · x)) (b := y :: st3) hpop (by show (!sLt y x) = true; unfold sLt; rw [hc']; rfl)
          refine MtAt.intro kF kN _ (fun p hp => .tail _ hp) ⟨o2, outs2, t2, rfl, ho2, ?_, ?_, hout2, hnames2, hroot2, hname2⟩
          · rw [hst, e1]; exact houts
          · rw [hst, e2]; exact hpath2
      · rename (((_ : Str) == _) = false) => hb
        rename (¬ (0 : Int) ≤ _) => hc
        cases st2 with
        | nil => rw [pathOf_eq_root hr fun y hy => (hsub y hy).1] at hb; cases hb
        | cons y st3 =>
          have hy := (hsub y (.head _)).1
          rw [base_pathOf hr hy] at hc kN kF
          rw [head_pathOf hr fun z hz => (hsub z hz).1] at kF
          have hc' := b2i_lt hc
          obtain ⟨tt, kN2⟩ : ∃ tt, News _ _ _ (_ :: (I2, it2) :: (I, it) :: [(o2, W.listOf (strValues (outs2 ++ [(y, tt)])).toArray (outs2 ++ [(y, tt)]).length)]) := ⟨_, by rw [← strValues_push, List.length_append]; exact kN⟩
          refine TnEnd.intro kF kN2 [(I, it), (o2, W.listOf (strValues (outs2 ++ [(y, tt)])).toArray (outs2 ++ [(y, tt)]).length)] (.tail _ (.head _)) ?_ ?_ ⟨o2, st3, outs2 ++ [(y, tt)], _, pop ++ [y], rfl, ho2, ?_, ?_, ?_, ?_, rfl, hout2, hnames2, hroot2, hname2⟩
          · exact fun p hp => .tail _ (.tail _ hp)
          · intro p hp
            rcases List.mem_cons.mp hp with rfl | hp
            · exact hoff2.1
            · obtain rfl := List.mem_singleton.mp hp
              exact hoff2.2
          · rw [hst]; simp
          · rw [List.length_append, hpl]; rfl
          · intro z hz
            rcases List.mem_append.mp hz with hz | hz
            · exact hpop z hz
            · rw [List.mem_singleton.mp hz]; exact hc'
          · rw [List.map_append, houts]; simp
    · rintro m₂ news₂ ⟨o2, st2, outs2, t2, pop, rfl, ho2, hst, hpl, hpop, houts, hpath2, hout2, hnames2, hroot2, hname2⟩
      exfalso
      have hlst : st.length = pop.length + st2.length := by rw [hst, List.length_append]
      simp only [strValues, List.length_map] at hpl
      omega
    · rintro m₂ news₂ h2 tk2 ⟨o2, outs2, t2, rfl, ho2, houts, hpath2, hout2, hnames2, hroot2, hname2⟩ F2 N2
      clear kF kN hpath hout hnames hroot
      have hxn := hn _ hmem
      have hsub : ∀ y ∈ st.dropWhile (sLt · x), Name y ∧ y.length ≤ 10 := fun y hy => hM2 y ((List.dropWhile_sublist _).subset hy)
      have hpl2 := pathOf_len hr fun y hy => (hsub y hy).2
      have hdl := takeDrop_len (sLt · x) st
      have hxl : x.length ≤ 10 := hxn.2
      (try k_fold)
      k_steps
      all_goals (rename Fr _ _ _ _ => kF; rename News _ _ _ _ => kN)
      · rename (((_ : Str) == _) = true) => hb
        rw [pathOf_eq_root hr fun y hy => (hsub y hy).1, List.isEmpty_iff] at hb
        rw [hb] at kF
        rw [show pathOf root [] = root from rfl, join_root hr hxn.1] at kF
        refine TnEnd.intro kF kN [(o2, _)] (.head _) (fun p hp => .tail _ hp) ?_ ⟨o2, [x], outs2, _, rfl, ?_, rfl, hout2, hnames2, hroot2⟩
        · intro p hp
          obtain rfl := List.mem_singleton.mp hp
          exact ho2
        · rw [List.take_add_one, List.getElem?_map, hx]
          show ssRun sLt (List.take i (List.map (fun x => x.fst) names) ++ [x]) = _
          rw [ssRun_snoc, hrun]
          unfold ssStep
          rw [hb, houts]
      · rename (((_ : Str) == _) = false) => hb
        rw [pathOf_eq_root hr fun y hy => (hsub y hy).1] at hb
        rw [join_deep hb hxn.1] at kF
        refine TnEnd.intro kF kN [(o2, _)] (.head _) (fun p hp => .tail _ hp) ?_ ⟨o2, _, outs2, _, rfl, ?_, rfl, hout2, hnames2, hroot2⟩
        · intro p hp
          obtain rfl := List.mem_singleton.mp hp
          exact ho2
        · rw [List.take_add_one, List.getElem?_map, hx]
          show ssRun sLt (List.take i (List.map (fun x => x.fst) names) ++ [x]) = _
          rw [ssRun_snoc, hrun]
          unfold ssStep
          rw [houts]
  · rintro m₁ news₁ h tk ⟨o, st, outs, t, rfl, hrun, hpath, hout, hnames, hroot⟩ F' N'
    clear kF kN
    rw [show (strValues names).length = (names.map (·.1)).length by simp [strValues], List.take_length] at hrun
    have hL1 := ssRun_len sLt (names.map (·.1))
    have hM1 := ssRun_mem sLt (names.map (·.1))
    rw [hrun] at hL1 hM1
    simp only [List.length_map] at hL1
    have hM2 : ∀ y ∈ st, Name y ∧ y.length ≤ 10 := fun y hy => by
      obtain ⟨p, hp, rfl⟩ := List.mem_map.mp (hM1 y (.inl hy))
      exact hn p hp
    (try k_fold)
    k_steps
    rename Fr _ _ _ _ => kF
    rename News _ _ _ _ => kN
    refine' iter_list (items := strValues names) (PassE root tr st (outs.map (·.1))) rfl rfl rfl PassesOwn.never ?_ kF kN rfl ?_ ?_ ?_
    · exact fun _ _ _ h _ F _ => stays_list F.keep hpre
    · exact ⟨o, st, outs, t, [], rfl, rfl, .inl rfl, (by simp), hpath, hout, hroot⟩
    · intro j v2 m₂ news₂ h2 tk2 I2 it2 hj2 hit2 hlt2 hoff2 hJ2 F2 N2
      obtain ⟨o2, st2, outs2, t2, pop, rfl, hst, hpl, houts, hpath2, hout2, hroot2⟩ := hJ2
      clear kF kN hpath hout hnames hroot
      have hsub : ∀ y ∈ st2, Name y ∧ y.length ≤ 10 := fun y hy => hM2 y (by rw [hst]; exact List.mem_append_right _ hy)
      have hlst : st.length = pop.length + st2.length := by rw [hst, List.length_append]
      have hlo : outs2.length = outs.length + pop.length := by have := congrArg List.length houts; simpa using this
      have hpl2 := pathOf_len hr fun y hy => (hsub y hy).2
      have hsz2 : (strValues outs2).toArray.size ≤ 1000 := by simp only [strValues, List.size_toArray, List.length_map]; omega
      (replace hoff2 := allNe_of hoff2; simp only [AllNe, and_true] at hoff2)
      (try k_fold)
      k_steps
      all_goals (rename Fr _ _ _ _ => kF; rename News _ _ _ _ => kN)

      · rename (((_ : Str) != _) = true) => hb
        cases st2 with
        | nil => exact absurd hb (by simp [pathOf])
        | cons y st3 =>
          have hy := (hsub y (.head _)).1
          rw [base_pathOf hr hy] at kN kF
          rw [head_pathOf hr fun z hz => (hsub z hz).1] at kF
          obtain ⟨tt, kN2⟩ : ∃ tt, News _ _ _ (_ :: (I2, it2) :: [(o2, W.listOf (strValues (outs2 ++ [(y, tt)])).toArray (outs2 ++ [(y, tt)]).length)]) := ⟨_, by rw [← strValues_push, List.length_append]; exact kN⟩
          refine TnEnd.intro kF kN2 [(o2, W.listOf (strValues (outs2 ++ [(y, tt)])).toArray (outs2 ++ [(y, tt)]).length)] (.tail _ (.head _)) ?_ ?_ ⟨o2, st3, outs2 ++ [(y, tt)], _, pop ++ [y], rfl, ?_, .inl ?_, ?_, rfl, hout2, hroot2⟩
          · exact fun p hp => .tail _ (.tail _ hp)
          · intro p hp
            obtain rfl := List.mem_singleton.mp hp
            exact hoff2
          · rw [hst]; simp
          · rcases hpl with hpl | hpl
            · rw [List.length_append, hpl]; rfl
            · cases hpl
          · rw [List.map_append, houts]; simp
      · rename (((_ : Str) != _) = false) => hb
        have hb' : (pathOf root st2 == root) = true := by simpa [bne] using hb
        rw [pathOf_eq_root hr fun y hy => (hsub y hy).1, List.isEmpty_iff] at hb'
        exact TnEnd.intro kF kN [(o2, W.listOf (strValues outs2).toArray outs2.length)] (.head _) (fun p hp => .tail _ hp) (fun p hp => by obtain rfl := List.mem_singleton.mp hp; exact hoff2) ⟨o2, st2, outs2, t2, pop, rfl, hst, .inr hb', houts, hpath2, hout2, hroot2⟩
    · rintro m₂ news₂ h2 tk2 ⟨o2, st2, outs2, t2, pop, rfl, hst, hpl, houts, hpath2, hout2, hroot2⟩ F2 N2
      clear kF kN hpath hout hnames hroot
      have hlst : st.length = pop.length + st2.length := by rw [hst, List.length_append]
      have hst2 : st2 = [] := by
        rcases hpl with hpl | hpl
        · simp only [strValues, List.length_map] at hpl
          exact List.length_eq_zero_iff.mp (by omega)
        · exact hpl
      subst hst2
      (try k_fold)
      k_steps
      rename Fr _ _ _ _ => kF
      rename News _ _ _ _ => kN
      refine hret _ _ _ kF.keep ⟨o2, outs2, rfl, kN.fresh (.head _), kN.get (.head _), ?_⟩
      rw [houts]
      unfold ssOut
      rw [hrun]
      simp only [List.append_nil] at hst
      rw [hst]
end Mine
end
section
open PySem PySem.W PyProof.Rows PySem.Calls
set_option Elab.async false
set_option maxRecDepth 100000
set_option maxHeartbeats 8000000
namespace Mine
theorem fill_here6 : True := by w_top off; trivial
local macro_rules | `(tactic| walk_at "exec Assign cons ListComp") => `(tactic| (k_here; refine Hold.out ?_))
local macro_rules | `(tactic| walk_at "eval ListComp") => `(tactic| (k_here; refine Hold.out ?_))
local macro_rules | `(tactic| walk_at "eval Name") => `(tactic| (k_here; k_dflt (refine' nmB ?k1 ?k2 ?k3 ?k4 ?k5 ?k6 ?_ ?a1 ?a2 ?a3 ?a4 ?a5; (case a1 => rfl); (case a2 => rfl); (case a3 => rfl); (case a4 => rfl); (case a5 => decide); (case k1 => k_asm); (case k2 => k_asm); (case k3 => k_asm); (case k4 => k_is); (case k5 => boot_by_name); (case k6 => decide); k_whole)))
local macro_rules | `(tactic| walk_at "eval Name") => `(tactic| (k_here; k_dflt (refine' nmG ?k1 ?k2 ?k3 ?k4 ?_ ?a1 ?a3 ?a4 ?a5; (case a1 => rfl); (case a3 => rfl); (case a4 => rfl); (case a5 => decide); (case k1 => k_asm); (case k2 => k_asm); (case k3 => k_asm); (case k4 => k_is); k_whole)))
local macro_rules | `(tactic| walk_at "eval Name") => `(tactic| (k_here; k_dflt (refine' nmC ?k1 ?k2 ?k3 ?_ ?a3 ?a4 ?a5; (case a3 => rfl); (case a4 => rfl); (case a5 => decide); (case k1 => k_asm); (case k2 => rfl); (case k3 => k_asm); k_whole)))
local macro_rules | `(tactic| walk_at "eval Name") => `(tactic| (k_here; k_dflt (refine' nmL ?k1 ?k2 ?k3 ?_ ?a3 ?a4 ?a5; (case a3 => rfl); (case a4 => rfl); (case a5 => decide); (case k1 => k_asm); (case k2 => rfl); (case k3 => first | exact rfl | assumption); k_whole)))

local macro_rules | `(tactic| walk_at "call builtin:len") => `(tactic| (k_here; k_dflt (refine' len_led ?k1 ?k2 ?k3 ?_; (case k1 => k_asm); (case k2 => k_mem); (case k3 => omega); k_whole); intro t9 tk9))
def seg (ns : List Int) (a b : Nat) : List Int := (ns.drop a).take (b - a)
def pAhead (ns : List Int) (j i : Nat) : Bool := (seg ns i (j + 1)).any fun x => decide (ns.getD i 0 < x)
def pBehind (ns : List Int) (j i : Nat) : Bool := (seg ns j (i + 1)).all fun x => decide (x ≤ ns.getD j 0)
def placeF (ns : List Int) (j : Nat) : Nat := ((List.range j).filter (pAhead ns j)).length + ((List.range (ns.length - (j + 1))).filter fun k => pBehind ns j (j + 1 + k)).length

theorem mem_seg_getD {ns : List Int} {a b : Nat} (hab : a < b) (ha : a < ns.length) : ns.getD a 0 ∈ seg ns a b := by
  unfold seg
  rw [List.getD_eq_getElem?_getD, List.getElem?_eq_getElem ha, List.drop_eq_getElem_cons ha]
  obtain ⟨c, hc⟩ : ∃ c, b - a = c + 1 := ⟨b - a - 1, by omega⟩
  rw [hc, List.take_succ_cons]
  exact .head _
theorem filter_range_succ (p : Nat → Bool) (i : Nat) : ((List.range (i + 1)).filter p).length = ((List.range i).filter p).length + (if p i then 1 else 0) := by
  rw [List.range_succ, List.filter_append, List.length_append]
  cases h : p i <;> simp [h]

theorem place_gives (w : World) (l : Addr) (vs : List Value) (ns : List Int) (j : Nat) (tj : Tok) (hj : j < ns.length) (hlen : ns.length ≤ 20) : Gives 207 20 w [.ref l, .int j tj] (fun h => h.IsList l vs.toArray ∧ IntsAre vs ns) (fun v _ _ => ∃ t, v = .int (placeF ns j) t) := by
  intro prog A s p loose mean mg mb Q E X T hh hd hu hpre hret
  refine wpAny_lv (A' := Lv 20) ?_ hh.symm hd rfl rfl hu
  clear hh hd hu
  obtain ⟨hil, hia⟩ := hpre
  (k_dflt (refine' enter_defC (binds := [("ranks", .ref l), ("j", .int j tj)]) ?k1_q8 ?k2_q8 ?k6_q8 ?k7_q8 ?k8_q8 ?k9_q8 ?kB_q8 ?kD_q8 ?_ ?c2_q8 ?c3_q8 ?c4_q8; (case k1_q8 => assumption); (case k2_q8 => assumption); (case k6_q8 => k_is); (case k7_q8 => k_is); (case k8_q8 => decide); (case k9_q8 => exact BindsTo.of_eq rfl); (case kB_q8 => exact rfl); (case kD_q8 => decide +kernel); (case c2_q8 => exact rfl); (case c3_q8 => exact rfl); (case c4_q8 => exact rfl); k_whole); intro L' h' tk' cells' eL F' N' Y'; k_cells Y'; (try simp only [List.cons_append, List.nil_append] at N'); (try dsimp only); (try k_fold))
  rename_i o1 o2 d1 d2
  replace d1 : o1.data = .cell (some (.int j tj)) := d1
  replace d2 : o2.data = .cell (some (.ref l)) := d2
  replace F' : Fr s.heap L' h' (fun _ => none) := F'
  k_steps
  unfold Hold
  refine comp_assign (fun i ys fz => fz = [] ∧ ys.length = ((List.range i).filter (pAhead ns j)).length) (by with_unfolding_all rfl) (by with_unfolding_all rfl) (by decide) rfl (by decide) rfl rfl ?_ (by intro _; rfl)
  k_steps
  rename Fr _ _ _ _ => kF
  rename News _ _ _ _ => kN
  refine' go_range_assign (n := j) ?hh ?hr ?sm ?rs ?sz ?hF ?hN ?hL ?J0 ?turn ?fin
  case hr => assumption
  case hh => rfl
  case sm => exact small_one (by omega) (by omega) (by omega) (by omega)
  case rs => rw [rangeSize_nat]; simp
  case sz => omega
  case hF => exact kF
  case hN => exact kN
  case hL => rfl
  case J0 => exact ⟨rfl, rfl⟩
  case turn =>
    have X2 := X.keeps kF.keep
    have T2 := T.keeps kF.keep
    have hil2 := stays_list kF.keep hil
    have hc1 := (⟨o1, kN.get (.head _), d1⟩ : Heap.IsCell _ (L' + 1 + 1) (some (.int j tj)))
    have hc2 := (⟨o2, kN.get (.tail _ (.head _)), d2⟩ : Heap.IsCell _ (L' + 1) (some (.ref l)))
    dsimp only
    intro i u ys fz C h tk m I it D acc hi hJ F N hne off
    obtain ⟨rfl, hys⟩ := hJ
    clear kF kN X T hil d1 d2 hret
    refine turn_name1 F N (by rfl) (by rfl) ?_
    intro h' tk' F' N'
    clear F N
    rw [show (0 : Int) + (i : Int) = (i : Int) by omega] at F'
    (try k_fold)
    k_steps
    all_goals (rename Fr _ _ _ _ => kF; rename News _ _ _ _ => kN)
    · rename (_ ∈ List.take _ _) => ha
      rename (List.getD _ _ _ < _) => hb
      refine CpEnd.intro kF kN [] (.tail _ (.head _)) (.tail _ (.tail _ (.head _))) (fun _ h => nomatch h) (fun _ h => nomatch h) ⟨rfl, ?_⟩
      rw [List.length_append, hys, filter_range_succ, if_pos]
      · rfl
      · unfold pAhead
        rw [List.any_eq_true]
        refine ⟨_, ?_, by rw [decide_eq_true_eq]; simpa using hb⟩
        unfold seg
        have e1 : ((j : Int) + 1).toNat = j + 1 := by omega
        rw [e1, Int.toNat_natCast, Nat.min_eq_left (by omega)] at ha
        exact ha
    · rename (_ ∈ List.take _ _) => ha
      rename (∀ a : Int, _ → _ ≤ _) => hm
      rename (¬ List.getD _ _ _ < _) => hb
      refine CpEnd.intro kF kN [] (.tail _ (.head _)) (.tail _ (.tail _ (.head _))) (fun _ h => nomatch h) (fun _ h => nomatch h) ⟨rfl, ?_⟩
      rw [hys, filter_range_succ, if_neg]
      · rfl
      · unfold pAhead
        rw [List.any_eq_true]
        rintro ⟨x, hx, hlt⟩
        unfold seg at hx
        have e1 : ((j : Int) + 1).toNat = j + 1 := by omega
        rw [e1, Int.toNat_natCast, Nat.min_eq_left (by omega)] at hm
        rw [Int.toNat_natCast] at hb
        have := hm x hx
        rw [decide_eq_true_eq] at hlt
        omega
  case fin =>
    intro D ys fz nn h' tk hJ F N hne hfz
    obtain ⟨rfl, hys⟩ := hJ
    clear kF kN
    rw [List.nil_append] at N hne
    (replace hne := allNe_of hne; simp only [AllNe, and_true] at hne)
    have hfl := List.length_filter_le (pAhead ns j) (List.range j)
    rw [List.length_range] at hfl
    (try k_fold)
    k_steps
    unfold Hold
    refine comp_eval (fun i ys fz => fz = [] ∧ ys.length = ((List.range i).filter fun k => pBehind ns j (j + 1 + k)).length) (by with_unfolding_all rfl) (by decide) rfl (by decide) ?_ (by intro _; rfl)
    k_steps
    rename Fr _ _ _ _ => kF
    rename News _ _ _ _ => kN
    refine' go_range_eval (n := ns.length - (j + 1)) ?hh ?hr ?sm ?rs ?sz ?hF ?hN ?J0 ?turn ?fin
    case hr => assumption
    case hh => rfl
    case sm => exact small_one (by omega) (by omega) (by omega) (by omega)
    case rs => rw [rangeSize_nat]; omega
    case sz => omega
    case hF => exact kF
    case hN => exact kN
    case J0 => exact ⟨rfl, rfl⟩
    case turn =>
      have X2 := X.keeps kF.keep
      have T2 := T.keeps kF.keep
      have hil2 := stays_list kF.keep hil
      have hc1 := (⟨o1, kN.get (by k_mem), d1⟩ : Heap.IsCell _ (L' + 1 + 1) (some (.int j tj)))
      have hc2 := (⟨o2, kN.get (by k_mem), d2⟩ : Heap.IsCell _ (L' + 1) (some (.ref l)))
      dsimp only
      intro i u ys fz C h tk m I it D2 acc hi hJ F N hne off
      obtain ⟨rfl, hys⟩ := hJ
      clear kF kN X T hil d1 d2 hret
      have hji : j + 1 + i + 1 ≤ ns.length := by clear hne hys hfl hlen; omega
      refine turn_name1 F N (by rfl) (by rfl) ?_
      intro h' tk' F' N'
      clear F N
      (try k_fold)
      k_steps
      all_goals (rename Fr _ _ _ _ => kF; rename News _ _ _ _ => kN)
      all_goals (
        have e1 : ((j : Int) + 1 + (i : Int) + 1).toNat = j + 1 + i + 1 := by omega
        rename (_ ∈ List.take _ _) => ha
        rename (∀ a : Int, _ → _ ≤ _) => hm
        rw [e1, Int.toNat_natCast, Nat.min_eq_left hji] at ha hm
        have hjm : ns.getD j 0 ∈ seg ns j (j + 1 + i + 1) := mem_seg_getD (by omega) hj)
      · rename (_ = List.getD _ _ _) => hb
        rw [Int.toNat_natCast] at hb
        refine CpEnd.intro kF kN [] (.tail _ (.head _)) (.tail _ (.tail _ (.head _))) (fun _ h => nomatch h) (fun _ h => nomatch h) ⟨rfl, ?_⟩
        rw [List.length_append, hys, filter_range_succ, if_pos]
        · rfl
        · unfold pBehind
          rw [List.all_eq_true]
          intro x hx
          rw [decide_eq_true_eq]
          have := hm x hx
          omega
      · rename (_ ≠ List.getD _ _ _) => hb
        rw [Int.toNat_natCast] at hb
        refine CpEnd.intro kF kN [] (.tail _ (.head _)) (.tail _ (.tail _ (.head _))) (fun _ h => nomatch h) (fun _ h => nomatch h) ⟨rfl, ?_⟩
        rw [hys, filter_range_succ, if_neg]
        · rfl
        · unfold pBehind
          rw [List.all_eq_true]
          intro hall
          have h1 := hall _ ha
          rw [decide_eq_true_eq] at h1
          have h2 := hm _ hjm
          omega
    case fin =>
      intro D2 ys2 fz nn2 h2 tk2 hJ F2 N2 hne2 hfz2 hst
      obtain ⟨rfl, hys2⟩ := hJ
      clear kF kN
      rw [List.nil_append] at N2 hne2
      (replace hne2 := allNe_of hne2; simp only [AllNe, and_true] at hne2)
      have hfl2 := List.length_filter_le (fun k => pBehind ns j (j + 1 + k)) (List.range (ns.length - (j + 1)))
      rw [List.length_range] at hfl2
      (try k_fold)
      k_steps
      rename Fr _ _ _ _ => kF
      refine hret _ _ _ kF.keep ⟨_, congrArg (fun z => Value.int z _) ?_⟩
      unfold placeF
      rw [hys, hys2]
      simp
end Mine
end
section
open PySem PySem.W PyProof.Rows PySem.Calls
set_option Elab.async false
set_option maxRecDepth 100000
set_option maxHeartbeats 8000000
namespace Mine
theorem fill_here7 : True := by w_top off; trivial
local macro_rules | `(tactic| walk_at "exec Assign cons ListComp") => `(tactic| (k_here; refine Hold.out ?_))
local macro_rules | `(tactic| walk_at "eval ListComp") => `(tactic| (k_here; refine Hold.out ?_))
local macro_rules | `(tactic| walk_at "eval Name") => `(tactic| (k_here; k_dflt (refine' nmB ?k1 ?k2 ?k3 ?k4 ?k5 ?k6 ?_ ?a1 ?a2 ?a3 ?a4 ?a5; (case a1 => rfl); (case a2 => rfl); (case a3 => rfl); (case a4 => rfl); (case a5 => decide); (case k1 => k_asm); (case k2 => k_asm); (case k3 => k_asm); (case k4 => k_is); (case k5 => boot_by_name); (case k6 => decide); k_whole)))
local macro_rules | `(tactic| walk_at "eval Name") => `(tactic| (k_here; k_dflt (refine' nmG ?k1 ?k2 ?k3 ?k4 ?_ ?a1 ?a3 ?a4 ?a5; (case a1 => rfl); (case a3 => rfl); (case a4 => rfl); (case a5 => decide); (case k1 => k_asm); (case k2 => k_asm); (case k3 => k_asm); (case k4 => k_is); k_whole)))
local macro_rules | `(tactic| walk_at "eval Name") => `(tactic| (k_here; k_dflt (refine' nmC ?k1 ?k2 ?k3 ?_ ?a3 ?a4 ?a5; (case a3 => rfl); (case a4 => rfl); (case a5 => decide); (case k1 => k_asm); (case k2 => rfl); (case k3 => k_asm); k_whole)))
local macro_rules | `(tactic| walk_at "eval Name") => `(tactic| (k_here; k_dflt (refine' nmL ?k1 ?k2 ?k3 ?_ ?a3 ?a4 ?a5; (case a3 => rfl); (case a4 => rfl); (case a5 => decide); (case k1 => k_asm); (case k2 => rfl); (case k3 => first | exact rfl | assumption); k_whole)))
local macro_rules | `(tactic| walk_at "exec For Name Call cons nil") => `(tactic| (k_here; with_unfolding_all refine wpAny_For ?_))
local macro_rules | `(tactic| walk_at "call builtin:len") => `(tactic| (k_here; k_dflt (refine' len_led ?k1 ?k2 ?k3 ?_; (case k1 => k_asm); (case k2 => k_mem); (case k3 => omega); k_whole); intro t9 tk9))

local macro_rules | `(tactic| walk_at "subscriptTail Name Slice ref ref") => `(tactic| (k_here; (with_reducible show wpAny _ _ (subscriptTail _ (PySem.Expr.Slice _ _ none _) (Value.ref _) (Value.ref _)) _ _ _); k_dflt (refine' kmk_slice_ints ?F ?N ?l ?p ?q ?i ?m ?c ?_ ?s ?t ?z; (case F => k_asm); (case N => k_asm); (case l => first | exact Fr.lst (by k_asm) (by k_asm) | exact News.isList (by k_asm) (by k_mem)); (case p => kmk_part); (case q => kmk_part); (case i => assumption); (case m => first | exact kmk_from (by assumption) (by omega) | exact kmk_run (by assumption) (by omega) (by omega)); (case c => kmk_len); (case s => with_unfolding_all rfl); (case t => kmk_pure); (case z => exact kmk_sz (by assumption) (by rw [sizeLine_eq]; omega))); intro D' ws' h' F' N' l1 hI' hC' hL'; (try k_lt l1)))
def hitB (ns : List Int) (i j k : Nat) : Bool := (ns.drop (k + 1)).any (fun x => decide (x < ns.getD i 0) && decide (x < ns.getD j 0)) && decide (ns.getD i 0 < ns.getD k 0) && decide (ns.getD j 0 < ns.getD k 0) &&
  (decide (ns.getD i 0 < ns.getD j 0) || (seg ns i j).all fun y => decide (y < ns.getD k 0))
def hindF (ns : List Int) : Bool := (List.range ns.length).any fun k => (List.range k).any fun j => (List.range j).any fun i => hitB ns i j k

theorem any_range_succ (p : Nat → Bool) (i : Nat) : (List.range (i + 1)).any p = ((List.range i).any p || p i) := by
  rw [List.range_succ, List.any_append]; simp
theorem any_range_of {p : Nat → Bool} {n i : Nat} (hi : i < n) (h : p i = true) : (List.range n).any p = true := List.any_eq_true.mpr ⟨i, List.mem_range.mpr hi, h⟩

theorem hitB_true {ns : List Int} {i j k : Nat} (h1 : ((ns.drop (k + 1)).filter fun x => decide (x < ns.getD i 0) && decide (x < ns.getD j 0)) ≠ []) (h2 : ns.getD i 0 < ns.getD k 0) (h3 : ns.getD j 0 < ns.getD k 0)
    (h4 : ns.getD i 0 < ns.getD j 0 ∨ ∀ y ∈ seg ns i j, y < ns.getD k 0) : hitB ns i j k = true := by
  unfold hitB
  have h1' : ((ns.drop (k + 1)).any fun x => decide (x < ns.getD i 0) && decide (x < ns.getD j 0)) = true := by
    rw [List.any_eq_true]
    obtain ⟨x, hx⟩ := List.exists_mem_of_ne_nil _ h1
    rw [List.mem_filter] at hx
    exact ⟨x, hx.1, hx.2⟩
  have h4' : (decide (ns.getD i 0 < ns.getD j 0) || (seg ns i j).all fun y => decide (y < ns.getD k 0)) = true := by
    rw [Bool.or_eq_true]
    rcases h4 with h | h
    · exact .inl (decide_eq_true h)
    · exact .inr (List.all_eq_true.mpr fun y hy => decide_eq_true (h y hy))
  rw [h1', h4', decide_eq_true h2, decide_eq_true h3]; rfl
theorem hitB_false {ns : List Int} {i j k : Nat} (h : ((ns.drop (k + 1)).filter fun x => decide (x < ns.getD i 0) && decide (x < ns.getD j 0)) = [] ∨ ¬ ns.getD i 0 < ns.getD k 0 ∨ ¬ ns.getD j 0 < ns.getD k 0 ∨
    (¬ ns.getD i 0 < ns.getD j 0 ∧ ∃ y ∈ seg ns i j, ¬ y < ns.getD k 0)) : hitB ns i j k = false := by
  unfold hitB
  rcases h with h | h | h | ⟨h, y, hy, hyk⟩
  · have : ((ns.drop (k + 1)).any fun x => decide (x < ns.getD i 0) && decide (x < ns.getD j 0)) = false := by
      rw [List.any_eq_false]
      intro x hx hp
      have : x ∈ ((ns.drop (k + 1)).filter fun x => decide (x < ns.getD i 0) && decide (x < ns.getD j 0)) := List.mem_filter.mpr ⟨hx, hp⟩
      rw [h] at this; cases this
    rw [this]; rfl
  · rw [decide_eq_false h]; simp
  · rw [decide_eq_false h]; simp
  · have : ((seg ns i j).all fun y => decide (y < ns.getD k 0)) = false := by
      rw [List.all_eq_false]
      exact ⟨y, hy, by simpa using hyk⟩
    rw [this, decide_eq_false h]; simp

def HJk (L l : Addr) (ns : List Int) (k : Nat) (_ : Str → Option Value) (news : List (Addr × Obj)) : Prop :=
  ∃ o1 o2 o3 c1 c2, news = [(L + 1 + 1 + 1, o1), (L + 1 + 1, o2), (L + 1, o3)] ∧ o1.data = .cell c1 ∧ o2.data = .cell c2 ∧ o3.data = .cell (some (.ref l)) ∧
    ((List.range k).any fun k => (List.range k).any fun j => (List.range j).any fun i => hitB ns i j k) = false
def HJj (L l : Addr) (ns : List Int) (I1 : Addr) (it1 : Obj) (k : Nat) (tk : Tok) (j : Nat) (m : Str → Option Value) (news : List (Addr × Obj)) : Prop :=
  ∃ o1 o2 o3 c1 c2, news = [(I1, it1), (L + 1 + 1 + 1, o1), (L + 1 + 1, o2), (L + 1, o3)] ∧ o1.data = .cell c1 ∧ o2.data = .cell c2 ∧ o3.data = .cell (some (.ref l)) ∧
    m (Str.ofString "k") = some (.int k tk) ∧ ((List.range j).any fun j => (List.range j).any fun i => hitB ns i j k) = false
def HJi (L l : Addr) (ns : List Int) (I1 : Addr) (it1 : Obj) (I2 : Addr) (it2 : Obj) (k : Nat) (tk : Tok) (j : Nat) (tj : Tok) (i : Nat) (m : Str → Option Value) (news : List (Addr × Obj)) : Prop :=
  ∃ o1 o2 o3 c1, news = [(I2, it2), (I1, it1), (L + 1 + 1 + 1, o1), (L + 1 + 1, o2), (L + 1, o3)] ∧ o1.data = .cell c1 ∧ o2.data = .cell (some (.int j tj)) ∧ o3.data = .cell (some (.ref l)) ∧
    m (Str.ofString "k") = some (.int k tk) ∧ ((List.range i).any fun i => hitB ns i j k) = false

theorem hind_gives (w : World) (l : Addr) (vs : List Value) (ns : List Int) (hlen : ns.length ≤ 20) : Gives 212 20 w [.ref l] (fun h => h.IsList l vs.toArray ∧ IntsAre vs ns) (fun v _ _ => v = .bool (hindF ns)) := by
  intro prog A s p loose mean mg mb Q E X T hh hd hu hpre hret
  refine wpAny_lv (A' := Lv 20) ?_ hh.symm hd rfl rfl hu
  clear hh hd hu
  obtain ⟨hil, hia⟩ := hpre
  (k_dflt (refine' enter_defC (binds := [("ranks", .ref l)]) ?k1_q9 ?k2_q9 ?k6_q9 ?k7_q9 ?k8_q9 ?k9_q9 ?kB_q9 ?kD_q9 ?_ ?c2_q9 ?c3_q9 ?c4_q9; (case k1_q9 => assumption); (case k2_q9 => assumption); (case k6_q9 => k_is); (case k7_q9 => k_is); (case k8_q9 => decide); (case k9_q9 => exact BindsTo.of_eq rfl); (case kB_q9 => exact rfl); (case kD_q9 => decide +kernel); (case c2_q9 => exact rfl); (case c3_q9 => exact rfl); (case c4_q9 => exact rfl); k_whole); intro L' h' tk' cells' eL F' N' Y'; k_cells Y'; (try simp only [List.cons_append, List.nil_append] at N'); (try dsimp only); (try k_fold))
  rename_i o1 o2 o3 d1 d2 d3
  replace d1 : o1.data = .cell none := d1
  replace d2 : o2.data = .cell none := d2
  replace d3 : o3.data = .cell (some (.ref l)) := d3
  replace F' : Fr s.heap L' h' (fun _ => none) := F'
  k_steps
  rename Fr _ _ _ _ => kF
  rename News _ _ _ _ => kN
  refine' iter_range (n := ns.length) (HJk L' l ns) ?hh ?hE ?hr ?sm ?rs kF kN ?hj ?turn ?done ?ht
  case hr => assumption
  case hh => rfl
  case hE => exact PassesOwn.never
  case sm => exact small_one (by omega) (by omega) (by omega) (by omega)
  case rs => rw [rangeSize_nat]; omega
  case ht => intro _ _; rfl
  case hj => exact ⟨o1, o2, o3, none, none, rfl, d1, d2, d3, rfl⟩
  case turn =>
    clear kF kN d1 d2 d3
    intro k uk m₁ news₁ h tk I1 it1 hk hit1 hlt1 hoff1 hJ F N
    obtain ⟨o1, o2, o3, c1, c2, rfl, d1, d2, d3, hno⟩ := hJ
    k_lt hlt1
    rw [Int.zero_add]
    refine wpAny_assign_Name ?_
    (try k_fold)
    k_steps
    rename Fr _ _ _ _ => kF
    rename News _ _ _ _ => kN
    refine' iter_range (n := k) (HJj L' l ns I1 it1 k uk) ?hh2 ?hE2 ?hr2 ?sm2 ?rs2 kF kN ?hj2 ?turn2 ?done2 ?ht2
    case hr2 => assumption
    case hh2 => rfl
    case hE2 => exact PassesOwn.never
    case sm2 => exact small_one (by omega) (by omega) (by omega) (by omega)
    case rs2 => rw [rangeSize_nat]; omega
    case ht2 => intro _ _; rfl
    case hj2 => exact ⟨o1, o2, o3, c1, c2, rfl, d1, d2, d3, rfl, rfl⟩
    case turn2 =>
      clear kF kN d1 d2 d3
      intro j uj m₂ news₂ h2 tk2 I2 it2 hj hit2 hlt2 hoff2 hJ F2 N2
      obtain ⟨o1, o2, o3, c1, c2, rfl, d1, d2, d3, hmk, hnoj⟩ := hJ
      k_lt hlt2
      rw [Int.zero_add]
      refine wpAny_assign_Name ?_
      (try k_fold)
      k_steps
      rename Fr _ _ _ _ => kF
      rename News _ _ _ _ => kN
      rename (_ = Data.cell (some (Value.int _ _))) => d2'
      refine' iter_range (n := j) (HJi L' l ns I1 it1 I2 it2 k uk j uj) ?hh3 ?hE3 ?hr3 ?sm3 ?rs3 kF kN ?hj3 ?turn3 ?done3 ?ht3
      case hr3 => assumption
      case hh3 => rfl
      case hE3 => exact PassesOwn.never
      case sm3 => exact small_one (by omega) (by omega) (by omega) (by omega)
      case rs3 => rw [rangeSize_nat]; omega
      case ht3 => intro _ _; rfl
      case hj3 => exact ⟨o1, _, o3, c1, rfl, d1, d2', d3, hmk, rfl⟩
      case turn3 =>
        clear kF kN d1 d2 d2' d3
        intro i ui m₃ news₃ h3 tk3 I3 it3 hi hit3 hlt3 hoff3 hJ F3 N3
        obtain ⟨o1, o2, o3, c1, rfl, d1, d2, d3, hmk, hnoi⟩ := hJ
        k_lt hlt3
        rw [Int.zero_add]
        refine wpAny_assign_Name ?_
        (try k_fold)
        k_steps
        rename Fr _ _ _ _ => kF
        rename News _ _ _ _ => kN
        rename (_ = Data.cell (some (Value.int _ ui))) => d1'
        unfold Hold
        refine comp_assign (fun q ys fz => fz = [] ∧ IntsAre ys (((ns.drop (k + 1)).take q).filter fun x => decide (x < ns.getD i 0) && decide (x < ns.getD j 0))) (by with_unfolding_all rfl) (by with_unfolding_all rfl) (by decide) rfl (by decide) rfl rfl ?_ (by intro _; rfl)
        k_steps
        rename Fr _ _ _ _ => kF
        rename News _ _ _ _ => kN
        rename (IntsAre _ (List.drop _ ns)) => hiw
        rename (_ ≤ ns.length) => hlw
        have e1 : ((k : Int) + 1).toNat = k + 1 := by omega
        rw [e1] at hiw
        refine' go_list_assign ?hh4 ?hl4 ?sz4 ?hF4 ?hN4 ?hL4 ?J04 ?turn4 ?fin4
        case hl4 => exact News.isList kN (.head _)
        case hh4 => rfl
        case sz4 => rw [hiw.length, List.length_drop]; omega
        case hF4 => exact kF
        case hN4 => exact kN
        case hL4 => rfl
        case J04 => exact ⟨rfl, .nil⟩
        case turn4 =>
          have X2 := X.keeps kF.keep
          have T2 := T.keeps kF.keep
          have hil2 := stays_list kF.keep hil
          have hc1 := (⟨_, kN.get (by k_mem), d1'⟩ : Heap.IsCell _ (L' + 1 + 1 + 1) (some (.int i ui)))
          have hc2 := (⟨_, kN.get (by k_mem), d2⟩ : Heap.IsCell _ (L' + 1 + 1) (some (.int j uj)))
          have hc3 := (⟨_, kN.get (by k_mem), d3⟩ : Heap.IsCell _ (L' + 1) (some (.ref l)))
          dsimp only
          intro q v ys fz C h tk m I it D acc hq hJ F N hne off
          obtain ⟨rfl, hys⟩ := hJ
          clear kF kN X T hil d1 d1' d2 d3 hret
          refine turn_name1 F N (by rfl) (by rfl) ?_
          intro h' tk' F' N'
          clear F N
          obtain ⟨xq, tq, rfl, hxq⟩ := hiw.at q v hq
          (try k_fold)
          k_steps
          all_goals (rename Fr _ _ _ _ => kF; rename News _ _ _ _ => kN)
          all_goals (
            refine CpEnd.intro kF kN [] (.head _) (.tail _ (.head _)) (fun _ h => nomatch h) (fun _ h => nomatch h) ⟨rfl, ?_⟩
            rw [List.take_add_one, hxq, List.filter_append])
          · rename (xq < List.getD ns (Int.toNat (j : Int)) 0) => ha2
            rename (xq < List.getD ns (Int.toNat (i : Int)) 0) => ha1
            rw [Int.toNat_natCast] at ha1 ha2
            simp only [Option.toList_some, List.filter_cons, List.filter_nil, decide_eq_true ha1, decide_eq_true ha2, Bool.and_self, if_true]
            exact hys.append (.cons _ _ .nil)
          · rename (¬ xq < List.getD ns (Int.toNat (j : Int)) 0) => ha2
            rw [Int.toNat_natCast] at ha2
            simp only [Option.toList_some, List.filter_cons, List.filter_nil, decide_eq_false ha2, Bool.and_false, Bool.false_eq_true, if_false, List.append_nil]
            exact hys
          · rename (¬ xq < List.getD ns (Int.toNat (i : Int)) 0) => ha2
            rw [Int.toNat_natCast] at ha2
            simp only [Option.toList_some, List.filter_cons, List.filter_nil, decide_eq_false ha2, Bool.false_and, Bool.false_eq_true, if_false, List.append_nil]
            exact hys
        case fin4 =>
          intro D ys fz nn h' tk hJ F N hne hfz
          obtain ⟨rfl, hys⟩ := hJ
          rw [hiw.length, List.take_length] at hys
          clear kF kN
          rw [List.nil_append] at N hne
          (replace hne := allNe_of hne; simp only [AllNe, and_true] at hne)
          (try k_fold)
          k_steps
          all_goals (rename Fr _ _ _ _ => kF; rename News _ _ _ _ => kN)
          all_goals (try simp only [Int.toNat_natCast] at *)
          · rename (decide (_ = []) = true) => hE
            have hb : hitB ns i j k = false := hitB_false (.inl (of_decide_eq_true hE))
            refine TnEnd.intro kF kN [(I2, it2), (I1, it1), (L' + 1 + 1 + 1, _), (L' + 1 + 1, o2), (L' + 1, o3)] (by k_mem) ?_ ?_ ⟨_, o2, o3, _, rfl, d1', d2, d3, hmk, ?_⟩
            · intro p hp
              simp only [List.mem_cons, List.not_mem_nil, or_false] at hp
              rcases hp with rfl | rfl | rfl | rfl | rfl <;> k_mem
            · intro p hp
              simp only [List.mem_cons, List.not_mem_nil, or_false] at hp
              rcases hp with rfl | rfl | rfl | rfl | rfl <;> (show @Ne Nat _ _; omega)
            · rw [any_range_succ, hnoi, hb]; rfl
          · rename (decide (_ = []) = false) => hE
            have hb : hitB ns i j k = true := hitB_true (of_decide_eq_false hE) (by assumption) (by assumption) (.inl (by assumption))
            refine hret _ _ _ kF.keep ?_
            rw [show hindF ns = true from any_range_of hk (any_range_of hj (any_range_of hi hb))]
          · rename (decide (_ = []) = false) => hE
            rename (∀ a : Int, _ → _ ≤ _) => hm
            rename (_ < List.getD ns k 0) => hMk
            have hb : hitB ns i j k = true := hitB_true (of_decide_eq_false hE) (by assumption) (by assumption) (.inr fun y hy => by
              have := hm y (by rw [Nat.min_eq_left (by omega)]; exact hy)
              omega)
            refine hret _ _ _ kF.keep ?_
            rw [show hindF ns = true from any_range_of hk (any_range_of hj (any_range_of hi hb))]
          · rename (_ ∈ List.take _ _) => hM
            rename (¬ _ < List.getD ns k 0) => hMk
            rw [Nat.min_eq_left (by omega)] at hM
            have hb : hitB ns i j k = false := hitB_false (.inr (.inr (.inr ⟨by assumption, _, hM, hMk⟩)))
            refine TnEnd.intro kF kN [(I2, it2), (I1, it1), (L' + 1 + 1 + 1, _), (L' + 1 + 1, o2), (L' + 1, o3)] (by k_mem) ?_ ?_ ⟨_, o2, o3, _, rfl, d1', d2, d3, hmk, ?_⟩
            · intro p hp
              simp only [List.mem_cons, List.not_mem_nil, or_false] at hp
              rcases hp with rfl | rfl | rfl | rfl | rfl <;> k_mem
            · intro p hp
              simp only [List.mem_cons, List.not_mem_nil, or_false] at hp
              rcases hp with rfl | rfl | rfl | rfl | rfl <;> (show @Ne Nat _ _; omega)
            · rw [any_range_succ, hnoi, hb]; rfl
          · have hb : hitB ns i j k = false := hitB_false (.inr (.inr (.inl (by assumption))))
            refine TnEnd.intro kF kN [(I2, it2), (I1, it1), (L' + 1 + 1 + 1, _), (L' + 1 + 1, o2), (L' + 1, o3)] (by k_mem) ?_ ?_ ⟨_, o2, o3, _, rfl, d1', d2, d3, hmk, ?_⟩
            · intro p hp
              simp only [List.mem_cons, List.not_mem_nil, or_false] at hp
              rcases hp with rfl | rfl | rfl | rfl | rfl <;> k_mem
            · intro p hp
              simp only [List.mem_cons, List.not_mem_nil, or_false] at hp
              rcases hp with rfl | rfl | rfl | rfl | rfl <;> (show @Ne Nat _ _; omega)
            · rw [any_range_succ, hnoi, hb]; rfl
          · have hb : hitB ns i j k = false := hitB_false (.inr (.inl (by assumption)))
            refine TnEnd.intro kF kN [(I2, it2), (I1, it1), (L' + 1 + 1 + 1, _), (L' + 1 + 1, o2), (L' + 1, o3)] (by k_mem) ?_ ?_ ⟨_, o2, o3, _, rfl, d1', d2, d3, hmk, ?_⟩
            · intro p hp
              simp only [List.mem_cons, List.not_mem_nil, or_false] at hp
              rcases hp with rfl | rfl | rfl | rfl | rfl <;> k_mem
            · intro p hp
              simp only [List.mem_cons, List.not_mem_nil, or_false] at hp
              rcases hp with rfl | rfl | rfl | rfl | rfl <;> (show @Ne Nat _ _; omega)
            · rw [any_range_succ, hnoi, hb]; rfl
      case done3 =>
        clear kF kN
        intro m₃ news₃ h3 tk3 hJ F3 N3
        obtain ⟨o1, o2, o3, c1, rfl, d1, d2, d3, hmk, hnoi⟩ := hJ
        k_steps
        rename Fr _ _ _ _ => kF
        rename News _ _ _ _ => kN
        refine TnEnd.intro kF kN [(I1, it1), (L' + 1 + 1 + 1, o1), (L' + 1 + 1, o2), (L' + 1, o3)] (.head _) (fun p hp => .tail _ hp) ?_ ⟨o1, o2, o3, _, _, rfl, d1, d2, d3, hmk, ?_⟩
        · intro p hp
          simp only [List.mem_cons, List.not_mem_nil, or_false] at hp
          rcases hp with rfl | rfl | rfl | rfl <;> (show @Ne Nat _ _; omega)
        · rw [any_range_succ, hnoj, hnoi]; rfl
    case done2 =>
      clear kF kN
      intro m₃ news₃ h3 tk3 hJ F3 N3
      obtain ⟨o1, o2, o3, c1, c2, rfl, d1, d2, d3, hmk, hnoj⟩ := hJ
      k_steps
      rename Fr _ _ _ _ => kF
      rename News _ _ _ _ => kN
      refine TnEnd.intro kF kN [(L' + 1 + 1 + 1, o1), (L' + 1 + 1, o2), (L' + 1, o3)] (.head _) (fun p hp => .tail _ hp) ?_ ⟨o1, o2, o3, _, _, rfl, d1, d2, d3, ?_⟩
      · intro p hp
        simp only [List.mem_cons, List.not_mem_nil, or_false] at hp
        rcases hp with rfl | rfl | rfl <;> (show @Ne Nat _ _; omega)
      · rw [any_range_succ, hno, hnoj]; rfl
  case done =>
    clear kF kN
    intro m₃ news₃ h3 tk3 hJ F3 N3
    obtain ⟨o1, o2, o3, c1, c2, rfl, d1, d2, d3, hno⟩ := hJ
    (try k_fold)
    k_steps
    rename Fr _ _ _ _ => kF
    refine hret _ _ _ kF.keep ?_
    unfold hindF
    rw [hno]
end Mine
end
section
open PySem PySem.W PyProof.Rows PySem.Calls
set_option Elab.async false
set_option maxRecDepth 100000
set_option maxHeartbeats 8000000
namespace Mine
theorem fill_hereF : True := by w_top off; trivial

theorem fm0 (a : Int) {b : Int} (hb : 0 < b) : 0 ≤ Int.fmod a b := by rw [Int.fmod_eq_emod_of_nonneg _ (Int.le_of_lt hb)]; exact Int.emod_nonneg _ (by omega)
theorem fm1 (a : Int) {b : Int} (hb : 0 < b) : Int.fmod a b < b := by rw [Int.fmod_eq_emod_of_nonneg _ (Int.le_of_lt hb)]; exact Int.emod_lt_of_pos _ hb
def kindTab : List Int := [1, 6, 3, 1, 4, 1, 2, 1, 0, 1, 5, 1, 7, 1, 1, 1]
theorem kind_all : ∀ d : Fin 16, Txt.find "-?bcdlps" (Txt.item "?pc?d?b?-?l?s???" ((d.val : Nat) : Int)) = kindTab.getD d.val 0 ∧ 0 ≤ kindTab.getD d.val 0 := by decide +kernel
theorem kind_find (i : Int) (h0 : 0 ≤ i) (h1 : i < 16) : Txt.find "-?bcdlps" (Txt.item "?pc?d?b?-?l?s???" i) = kindTab.getD i.toNat 0 ∧ 0 ≤ kindTab.getD i.toNat 0 := by
  have := kind_all ⟨i.toNat, by omega⟩
  dsimp only at this
  rwa [Int.toNat_of_nonneg h0] at this
theorem index_kind {prog : Program} {w : World} {A : Around} {E : Value → Shared → Prop} {s : Shared} {Q : Value → Shared → Prop} {i : Int} {t u : Tok} (hA : A.handled = none) (h0 : 0 ≤ i) (h1 : i < 16)
    (h : ∀ t tk, Q (.int (kindTab.getD i.toNat 0) t) { s with toks := tk }) : wpAny (model prog w) A (call (.builtin "str.index") [.str "-?bcdlps" t, .str (Txt.item "?pc?d?b?-?l?s???" i) u]) Q E s := by
  obtain ⟨e, hp⟩ := kind_find i h0 h1
  refine index_or hA (fun h => ?_) (fun _ _ => ?_)
  · exfalso; rw [e] at h; omega
  · rw [e]; exact h _ _
theorem item_kind {prog : Program} {w : World} {A : Around} {E : Value → Shared → Prop} {s : Shared} {Q : Value → Shared → Prop} {value slice : Expr} {i : Int} {t u : Tok} (h0 : 0 ≤ i) (h1 : i < 16)
    (h : ∀ t tk, Q (.str (Txt.item "?pc?d?b?-?l?s???" i) t) { s with toks := tk })
    (hs : subscripted slice false (.str "?pc?d?b?-?l?s???" t) (.int i u) = operate [.str "?pc?d?b?-?l?s???" t, .int i u] (getItem (.str "?pc?d?b?-?l?s???" t) (.int i u)))
    (ht : ∀ r, letTemporaryGo value (.str "?pc?d?b?-?l?s???" t) r = pure ()) :
    wpAny (model prog w) A (subscriptTail value slice (.str "?pc?d?b?-?l?s???" t) (.int i u)) Q E s := by
  have hl : (Str.ofString "?pc?d?b?-?l?s???").length = 16 := by decide +kernel
  exact item_str (by unfold fitsSsize; simp; omega) (by rw [hl]; omega) (by rw [hl]; omega) (fun _ => h _ _) hs ht

local macro_rules | `(tactic| walk_at "subscriptTail Constant str BinOp str int") => `(tactic| (k_here; k_dflt (refine' item_kind ?a ?b ?_ ?c ?d; (case a => exact fm0 _ (by decide)); (case b => exact fm1 _ (by decide)); (case c => with_unfolding_all rfl); (case d => intro _; with_unfolding_all rfl)); intro t9 tk9))
local macro_rules | `(tactic| walk_at "call builtin:str.index") => `(tactic| (k_here; k_dflt (refine' index_kind ?z ?a ?b ?_; (case z => rfl); (case a => exact fm0 _ (by decide)); (case b => exact fm1 _ (by decide))); intro t9 tk9))

local macro_rules | `(tactic| walk_at "exec For Name Call cons nil") => `(tactic| (k_here; refine Hold.out ?_))
local macro_rules | `(tactic| walk_at "eval Name") => `(tactic| (k_here; k_dflt (refine' nmL ?k1 ?k2 ?k3 ?_ ?a3 ?a4 ?a5; (case a3 => rfl); (case a4 => rfl); (case a5 => decide); (case k1 => k_asm); (case k2 => rfl); (case k3 => first | exact rfl | assumption); k_whole)))
theorem pow_val {prog : Program} {w : World} {A : Around} {E : Value → Shared → Prop} {s : Shared} {Q : Value → Shared → Prop} {a n r : Int} {t u : Tok} (hn : 0 ≤ n) (hn2 : n ≤ 1000000) (ha : a.natAbs < 2 ^ 64) (e : a ^ n.toNat = r) (h : ∀ t tk, Q (.int r t) { s with toks := tk }) :
    wpAny (model prog w) A (binaryOp .Pow (.int a t) (.int n u)) Q E s := pow_int_small hn hn2 ha (e ▸ h _ _)
local macro_rules | `(tactic| walk_at "binaryOp Pow int int") => `(tactic| (k_here; k_dflt (refine' pow_val ?a ?b ?c ?e ?_; (case a => decide); (case b => decide); (case c => decide); (case e => first | exact (show _ = (64 : Int) by decide) | exact (show _ = (8 : Int) by decide) | exact (show _ = (1 : Int) by decide) | exact (show _ = (2048 : Int) by decide) | exact (show _ = (1024 : Int) by decide) | exact (show _ = (512 : Int) by decide))); intro t9 tk9))
theorem nmN {M : Model} {A : Around} {E : Value → Shared → Prop} {s : Shared} {h₀ : Heap} {C : Addr} {m : Str → Option Value} {env : Env} {x : Str} {v : Value} {Q : Value → Shared → Prop} (F : Fr h₀ C s.heap m) (hC : env.locals = C) (hv : m x = some v) (h : Q v s) (hk : env.scope.kind = .function) (hx : env.kindOf x = some .local) :
    wpAny M A (loadName env x) Q E s := wpAny_loadName_local hk hx (hC ▸ F.ns) hv h
local macro_rules | `(tactic| walk_at "loadName") => `(tactic| (k_here; k_dflt (refine' nmN ?k1 ?k2 ?k3 ?_ ?a3 ?a4; (case a3 => rfl); (case a4 => rfl); (case k1 => k_asm); (case k2 => rfl); (case k3 => first | exact rfl | assumption); k_whole)))
def menu4 : List Int := [0, 3, 1, 2]
theorem item_menu {prog : Program} {w : World} {A : Around} {E : Value → Shared → Prop} {s : Shared} {Q : Value → Shared → Prop} {value slice : Expr} {D : Addr} {t0 t1 t2 t3 u : Tok} {e : Int} (ho : s.heap.get? D = some { cls := .type "tuple", data := .seq #[.int 0 t0, .int 3 t1, .int 1 t2, .int 2 t3] })
    (h0 : 0 ≤ e) (h1 : e < 4) (h : ∀ t, Q (.int (menu4.getD e.toNat 0) t) s)
    (hs : subscripted slice false (.ref D) (.int e u) = operate [.ref D, .int e u] (getItem (.ref D) (.int e u))) :
    wpAny (model prog w) A (subscriptTail value slice (.ref D) (.int e u)) Q E s := by
  have hT : IsTup s.heap D #[.int 0 t0, .int 3 t1, .int 1 t2, .int 2 t3] := ⟨_, ho, rfl, _, rfl⟩
  have : e = 0 ∨ e = 1 ∨ e = 2 ∨ e = 3 := by omega
  rcases this with rfl | rfl | rfl | rfl
  · exact item_tupleT (l := [.int 0 t0, .int 3 t1, .int 1 t2, .int 2 t3]) (j := 0) hT (by decide) (by decide) rfl rfl (h _) hs
  · exact item_tupleT (l := [.int 0 t0, .int 3 t1, .int 1 t2, .int 2 t3]) (j := 1) hT (by decide) (by decide) rfl rfl (h _) hs
  · exact item_tupleT (l := [.int 0 t0, .int 3 t1, .int 1 t2, .int 2 t3]) (j := 2) hT (by decide) (by decide) rfl rfl (h _) hs
  · exact item_tupleT (l := [.int 0 t0, .int 3 t1, .int 1 t2, .int 2 t3]) (j := 3) hT (by decide) (by decide) rfl rfl (h _) hs
theorem menu_lo (a b : Int) : 0 ≤ Int.fmod a 2 + 2 * Int.fmod b 2 := by have := fm0 a (b := 2) (by decide); have := fm0 b (b := 2) (by decide); omega
theorem menu_hi (a b : Int) : Int.fmod a 2 + 2 * Int.fmod b 2 < 4 := by have := fm1 a (b := 2) (by decide); have := fm1 b (b := 2) (by decide); omega
local macro_rules | `(tactic| walk_at "subscriptTail Tuple cons BinOp ref int") => `(tactic| (k_here; k_dflt (refine' item_menu ?a ?b ?c ?_ ?d; (case a => exact News.get (by k_asm) (by k_mem)); (case b => exact menu_lo _ _); (case c => exact menu_hi _ _); (case d => with_unfolding_all rfl)); intro t9))
theorem look_list_iadd : typeLookup (.type "list") (dunderI "add") = pure (some (.builtin "list.__iadd__")) := PySem.F.slot_list_iadd.lookup
theorem iadd_K {prog : Program} {w : World} {A : Around} {E : Value → Shared → Prop} {s : Shared} {Q : Value → Shared → Prop} {h₀ : Heap} {L D b : Addr} {m : Str → Option Value} {news news' : List (Addr × Obj)} {its its2 : Array Value} {n n2 : Nat}
    (F : Fr h₀ L s.heap m) (N : News h₀ L s.heap news) (hb : (b, PySem.W.listOf its2 n2) ∈ news) (U : Upd D (PySem.W.listOf its n) (PySem.W.listOf (its ++ its2) (n + 1)) news news') (hne : its2.size ≠ 0) (hsz : its.size + its2.size ≤ 1000000)
    (h : ∀ h', Fr h₀ L h' m → News h₀ L h' news' → Q (.ref D) { s with heap := h' }) : wpAny (model prog w) A (inplaceOp .Add (.ref D) (.ref b)) Q E s := by
  obtain ⟨pre, post, rfl, rfl, a, c⟩ := U.split
  have z := N (D, PySem.W.listOf its n) (List.mem_append.mpr (.inr (.head _)))
  have zb := (N _ hb).1
  have ha : s.TypeIs (.ref D) "list" := ⟨_, z.1, rfl⟩
  have hbT : s.TypeIs (.ref b) "list" := ⟨_, zb, rfl⟩
  unfold inplaceOp
  refine wpAny_holding ?_
  have hfi : fillsInplaceSlot (.type "list") "add" (Operator.Add == .Add) = pure false := by
    unfold fillsInplaceSlot
    show (typeLookup (.type "list") (dunderI "add") >>= fun fi => pure (fi.isSome && !isSeqSlot fi)) = pure false
    rw [look_list_iadd]; rfl
  have hsi : seqSlot? (.type "list") (dunderI "add") = pure (some (.builtin "list.__iadd__")) := PySem.seqSlot_of look_list_iadd (by decide +kernel)
  refine wpAny_bind (wpAny_typeOf ha (wpAny_bind (wpAny_of_eq hfi ?_)))
  show wpAny _ A (if false = true then _ else _) Q E s
  rw [if_neg Bool.false_ne_true]
  refine wpAny_bind (wpAny_binaryOp1_none (nm := "add") ha hbT noFill_list_add ?_)
  refine wpAny_bind (wpAny_of_eq hsi ?_)
  refine wpAny_bind (wpAny_rule ?_)
  have hl : its.size ≤ sizeLine := by rw [sizeLine_eq]; omega
  refine call_meets PySem.F.slot_list_iadd ha PySem.F.entry_list_iadd (PySem.F.args_list_iadd_2 _ _) (PySem.AutoSeq1.list___iadd___list_list_0 D its n b its2 n2 (extend_door (by rw [sizeLine_eq]; omega)) hl (by rw [sizeLine_eq]; omega)) ⟨z.1, zb, ?_⟩
  refine h _ (F.change (Heap.SameBut.update ..) z.2.1 z.2.2) (news_set N a c (Heap.SameBut.update ..) ?_)
  rw [Heap.get?_update_self _ z.1 (by rw [mapSeq_app]; rfl), mapSeq_app, if_neg (by simp only [Array.size_append, beq_iff_eq]; omega)]
local macro_rules | `(tactic| walk_at "inplaceOp Add ref ref") => `(tactic| (k_here; k_dflt (refine' iadd_K ?F ?N ?b ?U ?ne ?sz ?_; (case F => k_asm); (case N => k_asm); (case b => k_mem); (case U => k_upd); (case ne => simp); (case sz => simp only [List.size_toArray, List.length_cons, List.length_nil]; omega)); intro h' F' N'))
def figs3 (x : Int) (k : Nat) : List Int :=
  let f := Int.fmod (Int.fdiv x (8 ^ (2 - k))) 8
  let sp := Int.fmod (Int.fdiv x (2 ^ (11 - k))) 2
  [Int.fdiv f 4, Int.fmod (Int.fdiv f 2) 2, menu4.getD (Int.fmod f 2 + 2 * sp).toNat 0]
def figs0 (x : Int) : Int := kindTab.getD (Int.fmod (Int.fdiv x 4096) 16).toNat 0
def figsTo (x : Int) : Nat → List Int
  | 0 => [figs0 x]
  | k + 1 => figsTo x k ++ figs3 x k
def figs (x : Int) : List Int := figsTo x 3

def FigJ (x : Int) (tx : Tok) (k : Nat) (m : Str → Option Value) (news : List (Addr × Obj)) : Prop :=
  ∃ o vs nn, news = [(o, PySem.W.listOf vs.toArray nn)] ∧ IntsAre vs (figsTo x k) ∧ m (Str.ofString "figures") = some (.ref o) ∧ m (Str.ofString "mode") = some (.int x tx)

theorem fig_end {x : Int} {tx : Tok} {k : Nat} {h₀ h' : Heap} {L I o : Addr} {it : Obj} {m' : Str → Option Value} {all : List (Addr × Obj)} {s₁ : Shared} {tk : Nat} {vs : List Value} {nn : Nat} {a b c : Int} {t1 t2 t3 : Tok}
    (F : Fr h₀ L h' m') (N : News h₀ L h' all) (hI : (I, it) ∈ all) (ho : (o, PySem.W.listOf (vs.toArray ++ #[Value.int a t1, Value.int b t2, Value.int c t3]) nn) ∈ all) (hne : o ≠ I) (hiv : IntsAre vs (figsTo x k)) (e : figs3 x k = [a, b, c])
    (hf : m' (Str.ofString "figures") = some (.ref o)) (hm : m' (Str.ofString "mode") = some (.int x tx)) : TnEnd h₀ L I it (FigJ x tx (k + 1)) s₁ { s₁ with heap := h', toks := tk } := by
  refine TnEnd.intro F N [(o, PySem.W.listOf (vs ++ [Value.int a t1, Value.int b t2, Value.int c t3]).toArray nn)] hI ?_ ?_ ⟨o, _, _, rfl, ?_, hf, hm⟩
  · intro p hp; rw [List.mem_singleton.mp hp]; simpa using ho
  · intro p hp; rw [List.mem_singleton.mp hp]; exact hne
  · show IntsAre _ (figsTo x k ++ figs3 x k)
    rw [e]; exact hiv.append (.cons _ _ (.cons _ _ (.cons _ _ .nil)))
theorem figures_gives (w : World) (x : Int) (tx : Tok) : Gives 190 20 w [.int x tx] (fun _ => True)
    (fun v h h' => ∃ D vs, v = .ref D ∧ h.get? D = none ∧ h'.get? D = some ((fun p : List Value × Nat => PySem.W.listOf p.1.toArray p.2) vs) ∧ (fun p : List Value × Nat => IntsAre p.1 (figs x)) vs) := by
  intro prog A s p loose mean mg mb Q E X T hh hd hu hpre hret
  refine wpAny_lv (A' := Lv 20) ?_ hh.symm hd rfl rfl hu
  clear hh hd hu
  (k_dflt (refine' enter_def (binds := [("mode", .int x tx)]) ?k1_q10 ?k2_q10 ?k6_q10 ?k7_q10 ?k8_q10 ?k9_q10 ?kB_q10 ?_ ?c2_q10 ?c3_q10 ?c4_q10 ?c5_q10; (case k1_q10 => assumption); (case k2_q10 => assumption); (case k6_q10 => k_is); (case k7_q10 => k_is); (case k8_q10 => decide); (case k9_q10 => exact BindsTo.of_eq rfl); (case kB_q10 => exact locs rfl); (case c2_q10 => exact rfl); (case c3_q10 => exact rfl); (case c4_q10 => exact rfl); (case c5_q10 => decide); k_whole); intro L' h' tk' eL F' N'; (try dsimp only); (try k_fold))
  k_steps
  unfold Hold
  with_unfolding_all refine wpAny_For ?_
  k_steps
  rename Fr _ _ _ _ => kF
  rename News _ _ _ _ => kN
  refine' iter_range (n := 3) (FigJ x tx) ?hh ?hE ?hr ?sm ?rs kF kN ?hj ?turn ?done ?ht
  case hr => assumption
  case hh => rfl
  case hE => exact PassesOwn.never
  case sm => decide
  case rs => decide
  case ht => intro _ _; rfl
  case hj => exact ⟨_, [_], 0, rfl, .cons _ _ .nil, rfl, rfl⟩
  case turn =>
    clear kF kN
    intro k uk m₁ news₁ h tk I1 it1 hk hit1 hlt1 hoff1 hJ F N
    obtain ⟨o, vs, nn, rfl, hiv, hfig, hmode⟩ := hJ
    (replace hoff1 := allNe_of hoff1; simp only [AllNe, and_true] at hoff1)
    have hvl := hiv.length
    have hfl : (figsTo x k).length ≤ 10 := by
      have hk3 : k = 0 ∨ k = 1 ∨ k = 2 := by omega
      rcases hk3 with rfl | rfl | rfl <;> simp [figsTo, figs3]
    rw [Int.zero_add]
    refine wpAny_assign_Name ?_
    have hk3 : k = 0 ∨ k = 1 ∨ k = 2 := by omega
    rcases hk3 with rfl | rfl | rfl
    · rw [show ((0 : Nat) : Int) = 0 from rfl]
      (try k_fold)
      k_steps
      rename Fr _ _ _ _ => kF
      rename News _ _ _ _ => kN
      exact fig_end kF kN (by k_mem) (by k_mem) hoff1 hiv rfl rfl hmode
    · rw [show ((1 : Nat) : Int) = 1 from rfl]
      (try k_fold)
      k_steps
      rename Fr _ _ _ _ => kF
      rename News _ _ _ _ => kN
      exact fig_end kF kN (by k_mem) (by k_mem) hoff1 hiv rfl rfl hmode
    · rw [show ((2 : Nat) : Int) = 2 from rfl]
      (try k_fold)
      k_steps
      rename Fr _ _ _ _ => kF
      rename News _ _ _ _ => kN
      exact fig_end kF kN (by k_mem) (by k_mem) hoff1 hiv rfl rfl hmode
  case done =>
    clear kF kN
    intro m₁ news₁ h tk hJ F N
    obtain ⟨o, vs, nn, rfl, hiv, hfig, hmode⟩ := hJ
    k_steps
    rename Fr _ _ _ _ => kF
    rename News _ _ _ _ => kN
    exact hret _ _ _ kF.keep ⟨o, (vs, nn), rfl, (kN _ (.head _)).2.2, (kN _ (.head _)).1, hiv⟩
end Mine
end
section
open PySem PySem.W PyProof.Rows PySem.Calls
set_option Elab.async false
set_option maxRecDepth 100000
set_option maxHeartbeats 8000000
namespace Mine

section
variable {prog : Program} {w : World} {A : Around} {E : Value → Shared → Prop} {s : Shared} {env : Env} {h₀ : Heap} {target : Expr} {body orelse : List Stmt} {Q : Flow → Shared → Prop}
/-- a for over a tuple that stands since the frame began, any target: a turn begins with the target's binding -/
theorem iter_tup {L r : Addr} {items : List Value} {m₀ : Str → Option Value} {news : List (Addr × Obj)} (J : Nat → (Str → Option Value) → List (Addr × Obj) → Prop)
    (hh : A.handled = none) (hE : PassesOwn (model prog w) A env E) (hr : h₀.IsTuple r items.toArray)
    (F : Fr h₀ L s.heap m₀) (N : News h₀ L s.heap news) (hj : J 0 m₀ news)
    (turn : ∀ (i : Nat) (v : Value) (m₁ : Str → Option Value) (news₁ : List (Addr × Obj)) (h : Heap) (tk : Nat) (I : Addr) (it : Obj), items[i]? = some v → it.cls = .type "tuple_iterator" → (∀ p ∈ news, p.1 < I) → (∀ p ∈ news₁, p.1 ≠ I) → J i m₁ news₁ →
      Fr h₀ L h m₁ → News h₀ L h ((I, it) :: news₁) →
      wpAny (model prog w) A (assign target env v) (fun _ s₂ => wpAny (model prog w) A (execs body env) (TnPost h₀ L I it (J (i + 1)) { s with heap := h, toks := tk } Q) E s₂) E { s with heap := h, toks := tk })
    (done : ∀ m₁ news₁ h tk, J items.length m₁ news₁ → Fr h₀ L h m₁ → News h₀ L h news₁ → wpAny (model prog w) A (execs orelse env) Q E { s with heap := h, toks := tk }) :
    wpAny (model prog w) A (pyIter (.ref r)) (fun it s₂ => codeAny (model prog w) A (.forLoop target it body orelse env) (fun r s' => match r with | .ok f => Q f s' | .error e => cameBackBy (model prog w) A env E e s') s₂) E s := by
  have tup : ∀ {h : Heap} {m}, Fr h₀ L h m → h.IsTuple r items.toArray := fun F' => let ⟨o, ho, x⟩ := hr; ⟨o, F'.keep _ _ ho, x⟩
  refine wpAny_pyIter_tuple (tup F) ?_
  have hnew := next_is_new F
  have hLne : L ≠ s.heap.objs.size := Nat.ne_of_lt F.ns.lt
  have hoff : ∀ p ∈ news, p.1 ≠ s.heap.objs.size := fun p hp => Nat.ne_of_lt (Heap.lt_size (N p hp).1)
  refine codeAny_forLoop_any (fun k s' => ∃ h' tk m' news' i, s' = { s with heap := h', toks := tk } ∧ h'.IsTupleIter s.heap.objs.size r i ∧ Fr h₀ L h' m' ∧ News h₀ L h' news' ∧ (∀ p ∈ news', p.1 ≠ s.heap.objs.size) ∧ J i m' news' ∧ i ≤ items.length ∧ k = items.length + 1 - i) ?_ (items.length + 1)
    ⟨_, s.toks, m₀, news, 0, rfl, ⟨_, Heap.get?_push_size _ rfl, rfl, rfl⟩, F.push _, (fun p hp => ⟨Heap.get?_push_of_some _ (N p hp).1, (N p hp).2⟩), hoff, hj, Nat.zero_le _, rfl⟩
  rintro k s' ⟨h', tk, m', news', i, rfl, hit, F', N', off', hJ, hi, rfl⟩
  cases hv : items[i]? with
  | none =>
    have hsz : i = items.length := Nat.le_antisymm hi (by simpa using hv)
    refine wpAny_pyNext_tuple_end hh hit (tup F') (by simpa using hv) fun h₁ he₁ => ?_
    exact wpAny_passesOwn hE (done m' news' h₁ tk (hsz ▸ hJ) (Fr.upd F' he₁ hLne hnew) (News.upd N' he₁ off'))
  | some v =>
    have hlt : i < items.length := (List.getElem?_eq_some_iff.mp hv).1
    refine wpAny_pyNext_tuple_item hit (tup F') (by simpa using hv) fun h₁ hit₁ hs₁ => ?_
    refine letGo_tupleiter hit₁ ?_
    have F₁ := Fr.upd F' (fun b o hb e => hs₁.extBut b o hb e) hLne hnew
    have N₁ := News.upd N' (fun b o hb e => hs₁.extBut b o hb e) off'
    obtain ⟨oi, hoi, hci, hdi⟩ := hit₁
    refine wpAny_mono (wpAny_passesOwn hE (turn i v m' news' h₁ tk s.heap.objs.size oi hv hci (fun p hp => Heap.lt_size (N p hp).1) off' hJ F₁ (fun p hp => ?_))) (fun _ s₂ hw₂ => wpAny_mono (wpAny_passesOwn hE hw₂) (fun f s₃ hf => ?_) fun _ _ e => e) fun _ _ e => e
    · rcases List.mem_cons.mp hp with rfl | hp
      · exact ⟨hoi, Ne.symm hLne, hnew⟩
      · exact N₁ p hp
    · have fin : TnEnd h₀ L s.heap.objs.size oi (J (i + 1)) { s with heap := h₁, toks := tk } s₃ → ∃ m, m < items.length + 1 - i ∧ ∃ h' tk m' news' i, s₃ = { s with heap := h', toks := tk } ∧ h'.IsTupleIter s.heap.objs.size r i ∧ Fr h₀ L h' m' ∧ News h₀ L h' news' ∧ (∀ p ∈ news', p.1 ≠ s.heap.objs.size) ∧ J i m' news' ∧ i ≤ items.length ∧ m = items.length + 1 - i := by
        rintro ⟨h₃, tk₃, m₃, news₃, rfl, F₃, N₃, off₃, hJ₃⟩
        exact ⟨items.length + 1 - (i + 1), by omega, h₃, tk₃, m₃, news₃, i + 1, rfl, ⟨oi, (N₃ _ (.head _)).1, hci, hdi⟩, F₃, (fun p hp => N₃ p (.tail _ hp)), off₃, hJ₃, hlt, rfl⟩
      cases f with
      | next => exact fin hf
      | cont => exact fin hf
      | brk => exact hf
      | ret v => exact hf
end

section
variable {prog : Program} {w : World} {A : Around} {E : Value → Shared → Prop} {s : Shared}
theorem nextOf_tuple_item {it l : Addr} {i : Nat} {items} {x : Value} {Q : Value → Shared → Prop} (hit : s.heap.IsTupleIter it l i)
    (hl : s.heap.IsTuple l items) (hx : items[i]? = some x)
    (hQ : ∀ h', h'.IsTupleIter it l (i + 1) → Heap.SameBut it s.heap h' → Q x { s with heap := h' }) :
    wpAny (model prog w) A (Builtin.SmallTypes.nextOf (.ref it)) Q E s := by
  obtain ⟨o, ho, hc, hd⟩ := id hit
  obtain ⟨ol, hol, _, nl, hdl⟩ := hl
  unfold Builtin.SmallTypes.nextOf
  refine wpAny_bind (wpAny_callSpecial?_slot (name := Str.ofString "__next__") hit.typeIs PySem.F.slot_tuple_iterator_next
    (wpAny_call_entry PySem.F.slot_tuple_iterator_next hit.typeIs PySem.F.entry_tuple_iterator_next ?_ (PySem.F.args_tuple_iterator_next_1 _)))
  show wpAny _ _ (field (.ref it) 0 >>= _) _ _ s
  refine wpAny_bind (wpAny_field ho hd (x := .ref l) rfl ?_)
  show wpAny _ _ (if (Value.ref l == Value.none) = true then _ else _) _ _ s
  rw [if_neg (show ¬ ((Value.ref l == Value.none) = true) from Bool.false_ne_true)]
  show wpAny _ _ (field (.ref it) 1 >>= _) _ _ s
  refine wpAny_bind (wpAny_field ho hd (x := .int i 0) rfl ?_)
  show wpAny _ _ (seqItems? (.ref l) >>= _) _ _ s
  refine wpAny_bind (wpAny_seqItems hol hdl ?_)
  simp only [Int.toNat_natCast, hx]
  refine wpAny_bind (wpAny_setField ho hd (by simp) (wpAny_pure ⟨x, rfl, wpAny_pure (hQ _ ?_ (Heap.SameBut.update ..))⟩))
  exact ⟨_, Heap.get?_update_self _ ho (Obj.isFreed_of_fields (Obj.data_mapFields hd _)), (Obj.cls_mapFields ..).trans hc, by
    rw [Obj.data_mapFields hd]; simp [rawInt]⟩
end

section
variable {prog : Program} {w : World} {A : Around} {E : Value → Shared → Prop} {s : Shared}
theorem nextOf_tuple_end {it l : Addr} {i : Nat} {items} {Q : Value → Shared → Prop} (hh : A.handled = none)
    (hit : s.heap.IsTupleIter it l i) (hl : s.heap.IsTuple l items) (hx : items[i]? = none)
    (hE : ∀ h' e, Heap.ExtBut it s.heap h' → (∃ o, h'.get? e = some o ∧ o.cls = .type "StopIteration") → E (.ref e) { s with heap := h' }) :
    wpAny (model prog w) A (Builtin.SmallTypes.nextOf (.ref it)) Q E s := by
  obtain ⟨o, ho, hc, hd⟩ := id hit
  obtain ⟨ol, hol, _, nl, hdl⟩ := hl
  unfold Builtin.SmallTypes.nextOf
  refine wpAny_bind (wpAny_callSpecial?_slot (name := Str.ofString "__next__") hit.typeIs PySem.F.slot_tuple_iterator_next
    (wpAny_call_entry PySem.F.slot_tuple_iterator_next hit.typeIs PySem.F.entry_tuple_iterator_next ?_ (PySem.F.args_tuple_iterator_next_1 _)))
  show wpAny _ _ (field (.ref it) 0 >>= _) _ _ s
  refine wpAny_bind (wpAny_field ho hd (x := .ref l) rfl ?_)
  show wpAny _ _ (if (Value.ref l == Value.none) = true then _ else _) _ _ s
  rw [if_neg (show ¬ ((Value.ref l == Value.none) = true) from Bool.false_ne_true)]
  show wpAny _ _ (field (.ref it) 1 >>= _) _ _ s
  refine wpAny_bind (wpAny_field ho hd (x := .int i 0) rfl ?_)
  show wpAny _ _ (seqItems? (.ref l) >>= _) _ _ s
  refine wpAny_bind (wpAny_seqItems hol hdl ?_)
  simp only [Int.toNat_natCast, hx]
  refine wpAny_bind (wpAny_rule (wpAny_bind (wpAny_setField ho hd (by simp) ?_)))
  show wpAny _ _ (newExc (.type "StopIteration") [] >>= _) _ _ _
  refine wpAny_bind ?_
  simp only [newExc, newTuple]
  refine wpAny_bind (wpAny_newObj_type ?_ (by size_fits))
  refine wpAny_bind (m := firstArgMember _ _) (wpAny_of_eq (a := Value.none) (by first | rfl | (simp only [firstArgMember]; rfl)) ?_)
  refine wpAny_newObj_type ?_ (by size_fits)
  simp only [raiseNew]
  refine wpAny_bind (wpAny_handled ?_)
  first | rw [show A.in1.handled = none from hh] | rw [hh]
  refine wpAny_bind (wpAny_pure (wpAny_throw ?_))
  exact hE _ _ (((Heap.SameBut.update ..).extBut.push _).push _) ⟨_, Heap.get?_push_size _ rfl, rfl⟩
end
theorem drawsTuple {prog : Program} {w : World} {A : Around} (hh : A.handled = none) (it l : Addr) (hne : l ≠ it) (items : Array Value) :
    Draws prog w A it [it, l] items.size (fun i v => items[i]? = some v) (fun i h => h.IsTupleIter it l i ∧ h.IsTuple l items) where
  live := fun _ _ st => let ⟨o, ho, _⟩ := st.1; ⟨o, ho⟩
  frame := fun _ _ _ st hk => ⟨let ⟨o, ho, r⟩ := st.1; ⟨o, hk it (by simp) o ho, r⟩, let ⟨o, ho, r⟩ := st.2; ⟨o, hk l (by simp) o ho, r⟩⟩
  item := fun i s Q E hi st hQ => by
    refine nextOf_tuple_item st.1 st.2 (x := items[i]) (by simp [hi]) fun h' hit' hs' => ?_
    exact hQ _ h' s.toks (by simp [hi]) ⟨hit', st.2.extBut hs'.extBut hne⟩ hs'
  done := fun s Q E st hE => nextOf_tuple_end hh st.1 st.2 (by simp) hE

theorem meets_enumerate_newT (l : Addr) (items : Array Value) (n : Nat) (dct : Option Addr) (sl : Array (Option Value)) :
    Meets (Builtin.«enumerate.__new__» ⟨[.type "enumerate", .ref l], []⟩) (fun _ R s => s.heap.get? l = some { cls := .type "tuple", dict := dct, data := .seq items n, slots := sl } ∧
      R (.ok (.ret (.ref (s.heap.push { cls := .type "tuple_iterator", data := .fields #[.ref l, .int 0 0] }).objs.size)))
        { s with heap := (s.heap.push { cls := .type "tuple_iterator", data := .fields #[.ref l, .int 0 0] }).push { cls := .type "enumerate", data := .fields #[.none, .bool false, .ref s.heap.objs.size, rawInt 0, .none, .none] } }) :=
  .of_wp fun prog w A R s h => by
    obtain ⟨hp, g, d, tk, os⟩ := s; obtain ⟨hl, h⟩ := h
    have hsub := sub_enumerate
    have hL : Heap.IsTuple (Shared.heap ⟨hp, g, d, tk, os⟩) l items := ⟨_, hl, rfl, n, rfl⟩
    wp_walk using AutoSeq1.wpAny_loadPart' hl
    refine wpAny_stack_any fun st => wpAny_pure ?_
    split
    · rename_i c _ _ _ _ _
      cases (c == Value.type "enumerate")
      · wp_walk using AutoSeq1.wpAny_loadPart' hl, wpAny_pyIter_tuple hL
        exact ⟨_, rfl, h⟩
      · wp_walk using AutoSeq1.wpAny_loadPart' hl, wpAny_pyIter_tuple hL
        exact ⟨_, rfl, h⟩
    · wp_walk using AutoSeq1.wpAny_loadPart' hl, wpAny_pyIter_tuple hL
      exact ⟨_, rfl, h⟩

theorem call_enumerate_tup {prog : Program} {w : World} {A : Around} {E : Value → Shared → Prop} {s : Shared} {l : Addr} {items : Array Value} {Q : Value → Shared → Prop} (hL : s.heap.IsTuple l items)
    (h : ∀ h', IsEnum h' (s.heap.objs.size + 1) s.heap.objs.size 0 .none → h'.IsTupleIter s.heap.objs.size l 0 → h'.objs.size = s.heap.objs.size + 2 →
      (∀ b o, s.heap.get? b = some o → h'.get? b = some o) → Q (.ref (s.heap.objs.size + 1)) { s with heap := h' }) :
    wpAny (model prog w) A (call (.type "enumerate") [.ref l]) Q E s := by
  obtain ⟨⟨c, dct, dt, sl⟩, hl, hc, n, hd⟩ := hL
  replace hc : c = .type "tuple" := hc
  replace hd : dt = .seq items n := hd
  subst hc hd
  refine callType_new PySem.F.called_enumerate (by decide) (PySem.F.typeCall_enumerate_1 _) (PySem.F.newCall_enumerate_1 _) (fun obj => PySem.F.args_object_init_2 obj _) PySem.F.entry_enumerate_new
    (meets_enumerate_newT l items n dct sl) ⟨hl, ?_⟩
  have hz : (s.heap.push { cls := .type "tuple_iterator", data := .fields #[.ref l, .int 0 0] }).objs.size = s.heap.objs.size + 1 := Heap.size_push ..
  show _ ∧ _
  rw [hz]
  have he : IsEnum ((s.heap.push { cls := .type "tuple_iterator", data := .fields #[.ref l, .int 0 0] }).push
      { cls := .type "enumerate", data := .fields #[.none, .bool false, .ref s.heap.objs.size, rawInt 0, .none, .none] }) (s.heap.objs.size + 1) s.heap.objs.size 0 .none := by
    have := Heap.get?_push_size (s.heap.push { cls := .type "tuple_iterator", data := .fields #[.ref l, .int 0 0] })
      (o := { cls := .type "enumerate", data := .fields #[.none, .bool false, .ref s.heap.objs.size, rawInt 0, .none, .none] }) rfl
    rw [hz] at this; exact this
  refine ⟨⟨_, he, rfl⟩, h _ he ⟨_, Heap.get?_push_of_some _ (Heap.get?_push_size _ rfl), rfl, rfl⟩ (by rw [Heap.size_push, hz]) fun b o x => Heap.get?_push_of_some _ (Heap.get?_push_of_some _ x)⟩

/-- what a turn of a loop over enumerate must leave behind -/
def EnEnd (h₀ : Heap) (L : Addr) (p₁ p₂ : Addr × Obj) (J : (Str → Option Value) → List (Addr × Obj) → Prop) (s₁ s₂ : Shared) : Prop :=
  ∃ h' tk m' news', s₂ = { s₁ with heap := h', toks := tk } ∧ Fr h₀ L h' m' ∧ News h₀ L h' (p₁ :: p₂ :: news') ∧ (∀ p ∈ news', p.1 ≠ p₁.1 ∧ p.1 ≠ p₂.1) ∧ J m' news'
def EnPost (h₀ : Heap) (L : Addr) (p₁ p₂ : Addr × Obj) (J : (Str → Option Value) → List (Addr × Obj) → Prop) (s₁ : Shared) (Q : Flow → Shared → Prop) (f : Flow) (s₂ : Shared) : Prop :=
  match f with
  | .ret v => Q (.ret v) s₂
  | .brk => Q .next s₂
  | _ => EnEnd h₀ L p₁ p₂ J s₁ s₂
theorem EnEnd.intro {h₀ : Heap} {L : Addr} {p₁ p₂ : Addr × Obj} {J : (Str → Option Value) → List (Addr × Obj) → Prop} {s₁ : Shared} {h' : Heap} {tk : Nat} {m' : Str → Option Value} {all : List (Addr × Obj)} (F : Fr h₀ L h' m') (N : News h₀ L h' all) (news' : List (Addr × Obj))
    (h1 : p₁ ∈ all) (h2 : p₂ ∈ all) (sub : ∀ p ∈ news', p ∈ all) (off : ∀ p ∈ news', p.1 ≠ p₁.1 ∧ p.1 ≠ p₂.1) (hj : J m' news') : EnEnd h₀ L p₁ p₂ J s₁ { s₁ with heap := h', toks := tk } :=
  ⟨h', tk, m', news', rfl, F, fun p hp => by
    rcases List.mem_cons.mp hp with rfl | hp
    · exact N _ h1
    · rcases List.mem_cons.mp hp with rfl | hp
      · exact N _ h2
      · exact N p (sub p hp), off, hj⟩

section
variable {prog : Program} {w : World} {A : Around} {E : Value → Shared → Prop} {s : Shared} {env : Env} {h₀ : Heap} {elts : List Expr} {x1 : Nat} {pt : Pos} {body : List Stmt} {Q : Flow → Shared → Prop}
theorem iter_enum {L e it t : Addr} {items : List Value} {m₀ : Str → Option Value} {news : List (Addr × Obj)} (J : Nat → (Str → Option Value) → List (Addr × Obj) → Prop)
    (hh : A.handled = none) (hE : PassesOwn (model prog w) A env E) (ht : h₀.IsTuple t items.toArray)
    (he : IsEnum s.heap e it 0 .none) (hit : s.heap.IsTupleIter it t 0) (hei : e ≠ it) (heL : e ≠ L) (hiL : it ≠ L) (he0 : h₀.get? e = none) (hi0 : h₀.get? it = none) (hoff : ∀ p ∈ news, p.1 ≠ e ∧ p.1 ≠ it)
    (F : Fr h₀ L s.heap m₀) (N : News h₀ L s.heap news) (hj : J 0 m₀ news)
    (turn : ∀ (i : Nat) (v : Value) (u : Tok) (m₁ : Str → Option Value) (news₁ : List (Addr × Obj)) (h : Heap) (tk : Nat) (T : Addr) (oe oi : Obj), items[i]? = some v → (∀ p ∈ news₁, p.1 ≠ e ∧ p.1 ≠ it) → (∀ p ∈ (e, oe) :: (it, oi) :: news₁, p.1 < T) → J i m₁ news₁ →
      Fr h₀ L h m₁ → News h₀ L h ((T, { cls := .type "tuple", data := .seq #[.int i u, v] }) :: (e, oe) :: (it, oi) :: news₁) →
      wpAny (model prog w) A (assign (.Tuple elts x1 pt) env (.ref T)) (fun _ s₂ => wpAny (model prog w) A (execs body env) (EnPost h₀ L (e, oe) (it, oi) (J (i + 1)) { s with heap := h, toks := tk } Q) E s₂) E { s with heap := h, toks := tk })
    (done : ∀ m₁ news₁ h tk, J items.length m₁ news₁ → Fr h₀ L h m₁ → News h₀ L h news₁ → Q .next { s with heap := h, toks := tk }) :
    wpAny (model prog w) A (pyIter (.ref e)) (fun it s₂ => codeAny (model prog w) A (.forLoop (.Tuple elts x1 pt) it body [] env) (fun r s' => match r with | .ok f => Q f s' | .error e => cameBackBy (model prog w) A env E e s') s₂) E s := by
  have tup : ∀ {h : Heap} {m}, Fr h₀ L h m → h.IsTuple t items.toArray := fun F' => let ⟨o, ho, x⟩ := ht; ⟨o, F'.keep _ _ ho, x⟩
  have hti : t ≠ it := by rintro rfl; obtain ⟨o, ho, _⟩ := ht; rw [hi0] at ho; cases ho
  have hte : t ≠ e := by rintro rfl; obtain ⟨o, ho, _⟩ := ht; rw [he0] at ho; cases ho
  have D := drawsTuple (prog := prog) (w := w) (A := A.in1) hh it t hti items.toArray
  have hef : e ∉ [it, t] := by simp [hei, Ne.symm hte]
  refine wpAny_pyIter_enum he ?_
  refine codeAny_forLoop_any (fun k s' => ∃ h' tk m' news' i old, s' = { s with heap := h', toks := tk } ∧ IsEnum h' e it ((i : Nat) : Int) old ∧ h'.IsTupleIter it t i ∧ Fr h₀ L h' m' ∧ News h₀ L h' news' ∧ (∀ p ∈ news', p.1 ≠ e ∧ p.1 ≠ it) ∧ J i m' news' ∧ i ≤ items.length ∧ k = items.length + 1 - i) ?_ (items.length + 1)
    ⟨_, s.toks, m₀, news, 0, .none, rfl, he, hit, F, N, hoff, hj, Nat.zero_le _, rfl⟩
  rintro k s' ⟨h', tk, m', news', i, old, rfl, he', hit', F', N', off', hJ, hi, rfl⟩
  by_cases hlt : i < items.length
  · refine wpAny_pyNext_enum_itemD D he' ⟨hit', tup F'⟩ (by simpa using hlt) hei hef fun v h₁ tk₁ hv heo hst hT hz hk₁ => ?_
    refine wpAny_letOwnedTupleGo_enum heo fun h₂ he₂ hs₂ => ?_
    replace hs₂ : Heap.SameBut e h₁ h₂ := hs₂
    have hv' : items[i]? = some v := by simpa using hv
    have up : ∀ b o, b ≠ e → b ≠ it → h'.get? b = some o → h₂.get? b = some o := fun b o h1 h2 x => hs₂.extBut b o h1 (hk₁ b o h1 h2 x)
    have hLs : L < h'.objs.size := F'.ns.lt
    have F₂ : Fr h₀ L h₂ m' := by
      obtain ⟨oL, es, ep, hL', r⟩ := F'.ns
      refine ⟨⟨oL, es, ep, up _ _ (Ne.symm heL) (Ne.symm hiL) hL', r⟩, fun b o x => up _ _ ?_ ?_ (F'.keep b o x), F'.above⟩
      · rintro rfl; rw [he0] at x; cases x
      · rintro rfl; rw [hi0] at x; cases x
    obtain ⟨oi, hoi, hci, hdi⟩ := hst.1
    have hoi₂ : h₂.get? it = some oi := hs₂.extBut it oi (Ne.symm hei) hoi
    have heT : e < h'.objs.size := Heap.lt_size he'
    have hiT : it < h'.objs.size := by obtain ⟨_, x, _⟩ := hit'; exact Heap.lt_size x
    have hTn : h₀.get? h'.objs.size = none := next_is_new F'
    refine wpAny_mono (wpAny_passesOwn hE (turn i v tk₁ m' news' h₂ (tk₁ + 1) h'.objs.size { cls := .type "enumerate", dict := none, data := .fields #[.none, .bool false, .ref it, rawInt ((i : Int) + 1), .none, v], slots := #[] } oi hv' off' ?_ hJ F₂ ?_)) (fun _ s₂ hw₂ => wpAny_mono (wpAny_passesOwn hE hw₂) (fun f s₃ hf => ?_) fun _ _ e => e) fun _ _ e => e
    · intro p hp
      rcases List.mem_cons.mp hp with rfl | hp
      · exact heT
      · rcases List.mem_cons.mp hp with rfl | hp
        · exact hiT
        · exact Heap.lt_size (N' p hp).1
    · intro p hp
      rcases List.mem_cons.mp hp with rfl | hp
      · exact ⟨hs₂.extBut _ _ (Nat.ne_of_gt heT) hT, Nat.ne_of_gt hLs, hTn⟩
      · rcases List.mem_cons.mp hp with rfl | hp
        · exact ⟨he₂, heL, he0⟩
        · rcases List.mem_cons.mp hp with rfl | hp
          · exact ⟨hoi₂, hiL, hi0⟩
          · exact ⟨up _ _ (off' p hp).1 (off' p hp).2 (N' p hp).1, (N' p hp).2⟩
    · have fin : EnEnd h₀ L (e, { cls := .type "enumerate", dict := none, data := .fields #[.none, .bool false, .ref it, rawInt ((i : Int) + 1), .none, v], slots := #[] }) (it, oi) (J (i + 1)) { s with heap := h₂, toks := tk₁ + 1 } s₃ → ∃ m, m < items.length + 1 - i ∧ ∃ h' tk m' news' i old, s₃ = { s with heap := h', toks := tk } ∧ IsEnum h' e it ((i : Nat) : Int) old ∧ h'.IsTupleIter it t i ∧ Fr h₀ L h' m' ∧ News h₀ L h' news' ∧ (∀ p ∈ news', p.1 ≠ e ∧ p.1 ≠ it) ∧ J i m' news' ∧ i ≤ items.length ∧ m = items.length + 1 - i := by
        rintro ⟨h₃, tk₃, m₃, news₃, rfl, F₃, N₃, off₃, hJ₃⟩
        exact ⟨items.length + 1 - (i + 1), by omega, h₃, tk₃, m₃, news₃, i + 1, v, rfl, (N₃ _ (.head _)).1, ⟨oi, (N₃ _ (.tail _ (.head _))).1, hci, hdi⟩, F₃, (fun p hp => N₃ p (.tail _ (.tail _ hp))), off₃, hJ₃, hlt, rfl⟩
      cases f with
      | next => exact fin hf
      | cont => exact fin hf
      | brk => exact hf
      | ret v => exact hf
  · have hin : i = items.length := by omega
    subst hin
    refine wpAny_pyNext_enum_endD D he' ⟨by simpa using hit', tup F'⟩ fun h₁ hx => wpAny_execs_nil ?_
    exact done m' news' h₁ tk hJ (Fr.upd F' hx (Ne.symm hiL) hi0) (News.upd N' hx fun p hp => (off' p hp).2)
end
end Mine
end
section
open PySem PySem.W PyProof.Rows PySem.Calls
set_option Elab.async false
set_option maxRecDepth 100000
set_option maxHeartbeats 8000000
namespace Mine
theorem fill_here9b : True := by w_top off; trivial
structure PEnt where
  at' : Addr
  bit : Int
  tb : Tok
  ch : Str
  tc : Tok
def PEnt.obj (q : PEnt) : Obj := { cls := .type "tuple", data := .seq #[.int q.bit q.tb, .str q.ch q.tc] }
def permTab : List (Addr × List PEnt) :=
  [(151, [⟨144, 40960, 375, Str.ofString "l", 403⟩, ⟨145, 49152, 377, Str.ofString "s", 404⟩, ⟨146, 32768, 371, Str.ofString "-", 405⟩, ⟨147, 24576, 369, Str.ofString "b", 406⟩, ⟨148, 16384, 365, Str.ofString "d", 407⟩, ⟨149, 8192, 367, Str.ofString "c", 408⟩, ⟨150, 4096, 373, Str.ofString "p", 409⟩]),
   (153, [⟨152, 256, 385, Str.ofString "r", 410⟩]),
   (155, [⟨154, 128, 387, Str.ofString "w", 411⟩]),
   (159, [⟨156, 2112, 412, Str.ofString "s", 413⟩, ⟨157, 2048, 379, Str.ofString "S", 414⟩, ⟨158, 64, 389, Str.ofString "x", 415⟩]),
   (161, [⟨160, 32, 391, Str.ofString "r", 416⟩]),
   (163, [⟨162, 16, 393, Str.ofString "w", 417⟩]),
   (167, [⟨164, 1032, 418, Str.ofString "s", 419⟩, ⟨165, 1024, 381, Str.ofString "S", 420⟩, ⟨166, 8, 395, Str.ofString "x", 421⟩]),
   (169, [⟨168, 4, 397, Str.ofString "r", 422⟩]),
   (171, [⟨170, 2, 399, Str.ofString "w", 423⟩]),
   (175, [⟨172, 513, 424, Str.ofString "t", 425⟩, ⟨173, 512, 383, Str.ofString "T", 426⟩, ⟨174, 1, 401, Str.ofString "x", 427⟩])]
def rowOk (h : Heap) : List PEnt → Prop
  | [] => True
  | q :: r => h.get? q.at' = some q.obj ∧ rowOk h r
theorem rowOk.get {h : Heap} : ∀ {l : List PEnt} {i : Nat} {q : PEnt}, rowOk h l → l[i]? = some q → h.get? q.at' = some q.obj
  | [], _, _, _, e => by simp at e
  | _ :: _, 0, _, h, e => by simp at e; exact e ▸ h.1
  | _ :: _, i + 1, _, h, e => rowOk.get h.2 (by simpa using e)
def tabOk (h : Heap) : List (Addr × List PEnt) → Prop
  | [] => True
  | p :: r => (h.IsTuple p.1 (p.2.map fun q => Value.ref q.at').toArray ∧ rowOk h p.2) ∧ tabOk h r
theorem tabOk.get {h : Heap} : ∀ {l : List (Addr × List PEnt)} {i : Nat} {p : Addr × List PEnt}, tabOk h l → l[i]? = some p → h.IsTuple p.1 (p.2.map fun q => Value.ref q.at').toArray ∧ rowOk h p.2
  | [], _, _, _, e => by simp at e
  | _ :: _, 0, _, h, e => by simp at e; exact e ▸ h.1
  | _ :: _, i + 1, _, h, e => tabOk.get h.2 (by simpa using e)
theorem tab_ok {w : World} {h : Heap} (X : (hd.heap_39 w.params).In h) : h.IsTuple 176 (permTab.map fun p => Value.ref p.1).toArray ∧ tabOk h permTab := by
  refine ⟨⟨_, X 176 { cls := .type "tuple", data := .seq #[.ref 151, .ref 153, .ref 155, .ref 159, .ref 161, .ref 163, .ref 167, .ref 169, .ref 171, .ref 175] } (by k_is), rfl, _, rfl⟩, ?_, ?_, ?_, ?_, ?_, ?_, ?_, ?_, ?_, ?_, trivial⟩
  · exact ⟨⟨_, X 151 { cls := .type "tuple", data := .seq #[.ref 144, .ref 145, .ref 146, .ref 147, .ref 148, .ref 149, .ref 150] } (by k_is), rfl, _, rfl⟩, ⟨X 144 _ (by k_is), X 145 _ (by k_is), X 146 _ (by k_is), X 147 _ (by k_is), X 148 _ (by k_is), X 149 _ (by k_is), X 150 _ (by k_is), trivial⟩⟩
  · exact ⟨⟨_, X 153 { cls := .type "tuple", data := .seq #[.ref 152] } (by k_is), rfl, _, rfl⟩, ⟨X 152 _ (by k_is), trivial⟩⟩
  · exact ⟨⟨_, X 155 { cls := .type "tuple", data := .seq #[.ref 154] } (by k_is), rfl, _, rfl⟩, ⟨X 154 _ (by k_is), trivial⟩⟩
  · exact ⟨⟨_, X 159 { cls := .type "tuple", data := .seq #[.ref 156, .ref 157, .ref 158] } (by k_is), rfl, _, rfl⟩, ⟨X 156 _ (by k_is), X 157 _ (by k_is), X 158 _ (by k_is), trivial⟩⟩
  · exact ⟨⟨_, X 161 { cls := .type "tuple", data := .seq #[.ref 160] } (by k_is), rfl, _, rfl⟩, ⟨X 160 _ (by k_is), trivial⟩⟩
  · exact ⟨⟨_, X 163 { cls := .type "tuple", data := .seq #[.ref 162] } (by k_is), rfl, _, rfl⟩, ⟨X 162 _ (by k_is), trivial⟩⟩
  · exact ⟨⟨_, X 167 { cls := .type "tuple", data := .seq #[.ref 164, .ref 165, .ref 166] } (by k_is), rfl, _, rfl⟩, ⟨X 164 _ (by k_is), X 165 _ (by k_is), X 166 _ (by k_is), trivial⟩⟩
  · exact ⟨⟨_, X 169 { cls := .type "tuple", data := .seq #[.ref 168] } (by k_is), rfl, _, rfl⟩, ⟨X 168 _ (by k_is), trivial⟩⟩
  · exact ⟨⟨_, X 171 { cls := .type "tuple", data := .seq #[.ref 170] } (by k_is), rfl, _, rfl⟩, ⟨X 170 _ (by k_is), trivial⟩⟩
  · exact ⟨⟨_, X 175 { cls := .type "tuple", data := .seq #[.ref 172, .ref 173, .ref 174] } (by k_is), rfl, _, rfl⟩, ⟨X 172 _ (by k_is), X 173 _ (by k_is), X 174 _ (by k_is), trivial⟩⟩
theorem ifmt_gives (w : World) (x : Int) (tx : Tok) : Gives 143 30 w [.int x tx] (fun _ => True) (fun v _ _ => ∃ t, v = .int (Builtin.bitAnd x 61440) t) := by
  (intro prog A s p loose mean mg mb Q E X T hh hd hu hpre hret; refine wpAny_lv (A' := Lv 30) ?_ hh.symm hd rfl rfl hu; clear hh hd hu)
  (k_dflt (refine' enter_def (binds := [("mode", .int x tx)]) ?k1_q11 ?k2_q11 ?k6_q11 ?k7_q11 ?k8_q11 ?k9_q11 ?kB_q11 ?_ ?c2_q11 ?c3_q11 ?c4_q11 ?c5_q11; (case k1_q11 => assumption); (case k2_q11 => assumption); (case k6_q11 => k_is); (case k7_q11 => k_is); (case k8_q11 => decide); (case k9_q11 => exact BindsTo.of_eq rfl); (case kB_q11 => exact locs rfl); (case c2_q11 => exact rfl); (case c3_q11 => exact rfl); (case c4_q11 => exact rfl); (case c5_q11 => decide); k_whole); intro L' h' tk' eL F' N'; (try dsimp only); (try k_fold))
  k_steps
  rename Fr _ _ _ _ => kF
  exact hret _ _ _ kF.keep ⟨_, rfl⟩

def fTest (i : Nat) (x bit : Int) : Bool := if i = 0 then Builtin.bitAnd x 61440 == bit else Builtin.bitAnd x bit == bit
def fDef (i : Nat) : Str := if i = 0 then Str.ofString "?" else Str.ofString "-"
def fChar (x : Int) (i : Nat) : Str := match (permTab.getD i (0, [])).2.find? (fun q => fTest i x q.bit) with | some q => q.ch | none => fDef i
def FmJ (x : Int) (tx : Tok) (i : Nat) (m : Str → Option Value) (news : List (Addr × Obj)) : Prop :=
  ∃ o cs, news = [(o, PySem.W.listOf (strValues cs).toArray cs.length)] ∧ cs.map (·.1) = (List.range i).map (fChar x) ∧ m (Str.ofString "perm") = some (.ref o) ∧ m (Str.ofString "mode") = some (.int x tx)
def FmI (x : Int) (tx : Tok) (i : Nat) (ti : Tok) (row : List PEnt) (p₁ p₂ : Addr × Obj) (o : Addr) (cs : List (Str × Tok)) (j : Nat) (m : Str → Option Value) (news : List (Addr × Obj)) : Prop :=
  news = [p₁, p₂, (o, PySem.W.listOf (strValues cs).toArray cs.length)] ∧ (∀ q ∈ row.take j, fTest i x q.bit = false) ∧ m (Str.ofString "perm") = some (.ref o) ∧ m (Str.ofString "mode") = some (.int x tx) ∧ m (Str.ofString "index") = some (.int i ti)
local macro_rules | `(tactic| walk_at "exec For Tuple Call cons nil") => `(tactic| (k_here; with_unfolding_all refine wpAny_For ?_))
local macro_rules | `(tactic| walk_at "exec For Tuple Name cons cons") => `(tactic| (k_here; with_unfolding_all refine wpAny_For ?_))
local macro_rules | `(tactic| walk_at "call ref") => `(tactic| (k_here; (k_dflt (refine' use_gives (ifmt_gives _ _ _) ?k1 ?k2 ?k3 ?k4 ?k5 ?k6 ?k7 ?k8 ?_; (case k1 => k_asm); (case k2 => k_asm); (case k3 => k_asm); (case k4 => k_asm); (case k5 => exact rfl); (case k6 => exact Nat.le_of_ble_eq_true rfl); (case k7 => exact Nat.le_of_ble_eq_true rfl); (case k8 => first | exact trivial | assumption); k_whole)); intro v9 h' tk' F' N' hs9 hp9; obtain ⟨t9, hp9⟩ := hp9; subst hp9; clear hs9; (try dsimp only); (try k_fold)))
local macro_rules | `(tactic| walk_at "eval Name") => `(tactic| (k_here; k_dflt (refine' nmL ?k1 ?k2 ?k3 ?_ ?a3 ?a4 ?a5; (case a3 => rfl); (case a4 => rfl); (case a5 => decide); (case k1 => k_asm); (case k2 => rfl); (case k3 => first | exact rfl | assumption); k_whole)))
theorem call_enum_K {prog : Program} {w : World} {A : Around} {E : Value → Shared → Prop} {s : Shared} {l : Addr} {items : Array Value} {Q : Value → Shared → Prop} {h₀ : Heap} {L : Addr} {m : Str → Option Value} {news : List (Addr × Obj)}
    (F : Fr h₀ L s.heap m) (N : News h₀ L s.heap news) (ht : h₀.IsTuple l items)
    (h : ∀ (e it : Addr) h', IsEnum h' e it 0 .none → h'.IsTupleIter it l 0 → e ≠ it → e ≠ L → it ≠ L → h₀.get? e = none → h₀.get? it = none → (∀ p ∈ news, p.1 ≠ e ∧ p.1 ≠ it) → Fr h₀ L h' m → News h₀ L h' news → Q (.ref e) { s with heap := h' }) :
    wpAny (model prog w) A (call (.type "enumerate") [.ref l]) Q E s := by
  have ht1 : s.heap.IsTuple l items := let ⟨o, ho, x⟩ := ht; ⟨o, F.keep _ _ ho, x⟩
  refine call_enumerate_tup ht1 fun h₁ he₁ hi₁ hz₁ hk₁ => h _ _ _ he₁ hi₁ (Nat.succ_ne_self _) (Nat.ne_of_gt (Nat.lt_succ_of_lt F.ns.lt)) (Nat.ne_of_gt F.ns.lt) ?_ (next_is_new F) ?_ (Fr.grow F hk₁) (News.grow N hk₁)
  · have := next_is_new (F.push { cls := .type "tuple", data := .seq #[] })
    rwa [Heap.size_push] at this
  · intro p hp
    have := Heap.lt_size (N p hp).1
    exact ⟨Nat.ne_of_lt (Nat.lt_succ_of_lt this), Nat.ne_of_lt this⟩
theorem find_none_of {α : Type} {p : α → Bool} {l : List α} (h : ∀ q ∈ l, p q = false) : l.find? p = none := by
  rw [List.find?_eq_none]; intro q hq; rw [h q hq]; decide
theorem find_first {α : Type} {p : α → Bool} : ∀ {l : List α} {j : Nat} {q : α}, (∀ z ∈ l.take j, p z = false) → l[j]? = some q → p q = true → l.find? p = some q
  | [], _, _, _, e, _ => by simp at e
  | a :: l, 0, q, _, e, hq => by simp at e; subst e; simp [hq]
  | a :: l, j + 1, q, h, e, hq => by
    have ha : p a = false := h a (by simp)
    simp only [List.find?_cons, ha]
    exact find_first (j := j) (fun z hz => h z (by simp [hz])) (by simpa using e) hq
theorem fch_len : ∀ p ∈ permTab, ∀ q ∈ p.2, q.ch.length = 1 := by decide +kernel
theorem fChar_len (x : Int) (i : Nat) : (fChar x i).length = 1 := by
  unfold fChar
  split
  · rename_i q hq
    have hm := List.mem_of_find?_eq_some hq
    by_cases h : i < permTab.length
    · rw [List.getD_eq_getElem?_getD, List.getElem?_eq_getElem h] at hm
      exact fch_len _ (List.getElem_mem h) q hm
    · rw [List.getD_eq_getElem?_getD, List.getElem?_eq_none (by omega)] at hm
      cases hm
  · unfold fDef; split <;> decide +kernel
def fmode (x : Int) : Str := Txt.join (Str.ofString "") ((List.range 10).map (fChar x))
theorem fmode_ok (x : Int) : JoinOk (Str.ofString "") ((List.range 10).map (fChar x)) = true := by
  refine joinOk_of_weight ?_ (by decide +kernel)
  have : ((List.range 10).map (fChar x)).map (·.length) = (List.range 10).map fun _ => 1 := by
    rw [List.map_map]; exact List.map_congr_left fun i _ => fChar_len x i
  rw [this, List.length_map]; decide
theorem fm_end {x : Int} {tx : Tok} {i : Nat} {h₀ h' : Heap} {L o : Addr} {p₁ p₂ : Addr × Obj} {m' : Str → Option Value} {all : List (Addr × Obj)} {s₁ : Shared} {tk : Nat} {cs : List (Str × Tok)} {c : Str} {t : Tok}
    (F : Fr h₀ L h' m') (N : News h₀ L h' all) (h1 : p₁ ∈ all) (h2 : p₂ ∈ all) (ho : (o, PySem.W.listOf ((strValues cs).toArray.push (.str c t)) (cs.length + 1)) ∈ all) (d1 : @Ne Nat o p₁.1) (d2 : @Ne Nat o p₂.1)
    (hcs : cs.map (·.1) = (List.range i).map (fChar x)) (hc : fChar x i = c) (hp : m' (Str.ofString "perm") = some (.ref o)) (hm : m' (Str.ofString "mode") = some (.int x tx)) :
    EnEnd h₀ L p₁ p₂ (FmJ x tx (i + 1)) s₁ { s₁ with heap := h', toks := tk } := by
  refine EnEnd.intro F N [(o, PySem.W.listOf (strValues (cs ++ [(c, t)])).toArray (cs ++ [(c, t)]).length)] h1 h2 ?_ ?_ ⟨o, _, rfl, ?_, hp, hm⟩
  · intro q hq; rw [List.mem_singleton.mp hq]
    have e : (strValues cs).toArray.push (.str c t) = (strValues (cs ++ [(c, t)])).toArray := by simp [strValues]
    rw [e] at ho
    simpa using ho
  · intro q hq; rw [List.mem_singleton.mp hq]; exact ⟨d1, d2⟩
  · rw [List.map_append, hcs, List.range_succ, List.map_append, List.map_singleton, List.map_singleton, hc]
theorem fm_turn {x : Int} {tx : Tok} {i j : Nat} {ti : Tok} {row : List PEnt} {q : PEnt} {h₀ h' : Heap} {L I o : Addr} {it : Obj} {p₁ p₂ : Addr × Obj} {m' : Str → Option Value} {all : List (Addr × Obj)} {s₁ : Shared} {tk : Nat} {cs : List (Str × Tok)}
    (F : Fr h₀ L h' m') (N : News h₀ L h' all) (h1 : (I, it) ∈ all) (sub : ∀ p ∈ [p₁, p₂, (o, PySem.W.listOf (strValues cs).toArray cs.length)], p ∈ all) (d : @Ne Nat p₁.1 I ∧ @Ne Nat p₂.1 I ∧ @Ne Nat o I)
    (hno : ∀ q ∈ row.take j, fTest i x q.bit = false) (hq : row[j]? = some q) (hqt : fTest i x q.bit = false) (hp : m' (Str.ofString "perm") = some (.ref o)) (hm : m' (Str.ofString "mode") = some (.int x tx)) (hi : m' (Str.ofString "index") = some (.int i ti)) :
    TnEnd h₀ L I it (FmI x tx i ti row p₁ p₂ o cs (j + 1)) s₁ { s₁ with heap := h', toks := tk } := by
  refine TnEnd.intro F N _ h1 sub ?_ ⟨rfl, ?_, hp, hm, hi⟩
  · intro p hp
    rcases List.mem_cons.mp hp with rfl | hp
    · exact d.1
    · rcases List.mem_cons.mp hp with rfl | hp
      · exact d.2.1
      · rw [List.mem_singleton.mp hp]; exact d.2.2
  · intro z hz
    rw [List.take_add_one, hq] at hz
    rcases List.mem_append.mp hz with hz | hz
    · exact hno z hz
    · have : z = q := by simpa using hz
      rw [this]; exact hqt
theorem filemode_gives (w : World) (x : Int) (tx : Tok) : Gives 183 20 w [.int x tx] (fun _ => True) (fun v _ _ => ∃ t, v = .str (fmode x) t) := by
  intro prog A s p loose mean mg mb Q E X T hh hd hu hpre hret
  refine wpAny_lv (A' := Lv 20) ?_ hh.symm hd rfl rfl hu
  clear hh hd hu
  (k_dflt (refine' enter_def (binds := [("mode", .int x tx)]) ?k1_q12 ?k2_q12 ?k6_q12 ?k7_q12 ?k8_q12 ?k9_q12 ?kB_q12 ?_ ?c2_q12 ?c3_q12 ?c4_q12 ?c5_q12; (case k1_q12 => assumption); (case k2_q12 => assumption); (case k6_q12 => k_is); (case k7_q12 => k_is); (case k8_q12 => decide); (case k9_q12 => exact BindsTo.of_eq rfl); (case kB_q12 => exact locs rfl); (case c2_q12 => exact rfl); (case c3_q12 => exact rfl); (case c4_q12 => exact rfl); (case c5_q12 => decide); k_whole); intro L' h' tk' eL F' N'; (try dsimp only); (try k_fold))
  k_steps
  rename Fr _ _ _ _ => kF
  rename News _ _ _ _ => kN
  have hx0 := tab_ok X
  obtain ⟨ht0, htab⟩ := hx0
  refine call_enum_K kF kN ht0 fun e it h₁ he₁ hi₁ d1 d2 d3 d4 d5 d6 kF1 kN1 => ?_
  clear kF kN
  refine' iter_enum (items := permTab.map fun p => Value.ref p.1) (FmJ x tx) ?e1 ?e2 ht0 he₁ hi₁ d1 d2 d3 d4 d5 d6 kF1 kN1 ?hj ?turn ?done
  case e1 => rfl
  case e2 => exact PassesOwn.never
  case hj => exact ⟨_, [], rfl, rfl, rfl, rfl⟩
  case turn =>
    clear kF1 kN1 d6 he₁ hi₁
    intro i v u m₁ news₁ h tk T1 oe oi hv hoff hlt hJ F N
    obtain ⟨o, cs, rfl, hcs, hperm, hmode⟩ := hJ
    obtain ⟨p, hp, rfl⟩ : ∃ p, permTab[i]? = some p ∧ v = .ref p.1 := by
      simp only [List.getElem?_map, Option.map_eq_some_iff] at hv
      obtain ⟨p, h1, h2⟩ := hv
      exact ⟨p, h1, h2.symm⟩
    obtain ⟨hrow, hents⟩ := htab.get hp
    have hcl : cs.length = i := by simpa using congrArg List.length hcs
    have hi10 : i < 10 := (List.getElem?_eq_some_iff.mp hp).1
    have hsz : (strValues cs).toArray.size ≤ 1000 := by simp only [strValues, List.size_toArray, List.length_map]; omega
    have hoe : @Ne Nat o e := (hoff _ (.head _)).1
    have hoi : @Ne Nat o it := (hoff _ (.head _)).2
    have hei : @Ne Nat e it := d1
    clear hoff
    k_lt hlt
    k_steps
    rename Fr _ _ _ _ => kF
    rename News _ _ _ _ => kN
    have hrowdef : (permTab.getD i (0, [])).2 = p.2 := by rw [List.getD_eq_getElem?_getD, hp]; rfl
    have kN2 : News _ _ _ [(e, oe), (it, oi), (o, PySem.W.listOf (strValues cs).toArray cs.length)] := fun q hq => kN q (.tail _ hq)
    clear kN
    refine' iter_tup (items := p.2.map fun q => Value.ref q.at') (FmI x tx i u p.2 (e, oe) (it, oi) o cs) ?f1 ?f2 hrow kF kN2 ?fj ?fturn ?fdone
    case f1 => rfl
    case f2 => exact PassesOwn.never
    case fj => exact ⟨rfl, (fun q hq => nomatch hq), hperm, hmode, rfl⟩
    case fturn =>
      clear kF kN2 hperm hmode hlt
      intro j v2 m₂ news₂ h2 tk2 I2 it2 hj2 hit2 hlt2 hoff2 hJ2 F2 N2
      obtain ⟨rfl, hno, hperm, hmode, hindex⟩ := hJ2
      obtain ⟨q, hq, rfl⟩ : ∃ q, p.2[j]? = some q ∧ v2 = .ref q.at' := by
        simp only [List.getElem?_map, Option.map_eq_some_iff] at hj2
        obtain ⟨p, h1, h2⟩ := hj2
        exact ⟨p, h1, h2.symm⟩
      have hqo := hents.get hq
      have hqT : IsTup s.heap q.at' #[.int q.bit q.tb, .str q.ch q.tc] := ⟨_, hqo, rfl, _, rfl⟩
      (replace hoff2 := allNe_of hoff2; simp only [AllNe, and_true] at hoff2)
      k_lt hlt2
      k_steps
      all_goals (rename Fr _ _ _ _ => kF; rename News _ _ _ _ => kN)
      · rename ((i : Int) = 0) => hi0
        rename (Builtin.bitAnd x 61440 = q.bit) => hb
        have hii : i = 0 := by omega
        have hqt : fTest i x q.bit = true := by unfold fTest; rw [if_pos hii, hb]; simp
        have hc : fChar x i = q.ch := by unfold fChar; rw [hrowdef, find_first (p := fun z => fTest i x z.bit) hno hq hqt]
        show wpAny _ _ (execs [] _) _ _ _
        refine wpAny_execs_nil ?_
        exact fm_end kF kN (.tail _ (.head _)) (.tail _ (.tail _ (.head _))) (.tail _ (.tail _ (.tail _ (.head _)))) hoe hoi hcs hc hperm hmode
      · rename ((i : Int) = 0) => hi0
        rename (¬ Builtin.bitAnd x 61440 = q.bit) => hb
        have hii : i = 0 := by omega
        have hqt : fTest i x q.bit = false := by unfold fTest; rw [if_pos hii]; simpa using hb
        exact fm_turn kF kN (.head _) (fun p hp => .tail _ hp) hoff2 hno hq hqt hperm hmode hindex
      · rename (¬ (i : Int) = 0) => hi0
        rename (Builtin.bitAnd x q.bit = q.bit) => hb
        have hii : i ≠ 0 := by omega
        have hqt : fTest i x q.bit = true := by unfold fTest; rw [if_neg hii, hb]; simp
        have hc : fChar x i = q.ch := by unfold fChar; rw [hrowdef, find_first (p := fun z => fTest i x z.bit) hno hq hqt]
        show wpAny _ _ (execs [] _) _ _ _
        refine wpAny_execs_nil ?_
        exact fm_end kF kN (.tail _ (.head _)) (.tail _ (.tail _ (.head _))) (.tail _ (.tail _ (.tail _ (.head _)))) hoe hoi hcs hc hperm hmode
      · rename (¬ (i : Int) = 0) => hi0
        rename (¬ Builtin.bitAnd x q.bit = q.bit) => hb
        have hii : i ≠ 0 := by omega
        have hqt : fTest i x q.bit = false := by unfold fTest; rw [if_neg hii]; simpa using hb
        exact fm_turn kF kN (.head _) (fun p hp => .tail _ hp) hoff2 hno hq hqt hperm hmode hindex
    case fdone =>
      clear kF kN2 hperm hmode hlt
      intro m₂ news₂ h2 tk2 hJ2 F2 N2
      obtain ⟨rfl, hno, hperm, hmode, hindex⟩ := hJ2
      have hnone : (permTab.getD i (0, [])).2.find? (fun q => fTest i x q.bit) = none := by
        rw [hrowdef]; exact find_none_of fun q hq => hno q (by rw [List.take_of_length_le (by simp)]; exact hq)
      k_steps
      all_goals (rename Fr _ _ _ _ => kF; rename News _ _ _ _ => kN)
      · rename ((i : Int) = 0) => hi0
        have hii : i = 0 := by omega
        have hc : fChar x i = Str.ofString "?" := by unfold fChar; rw [hnone]; unfold fDef; exact if_pos hii
        exact fm_end kF kN (.head _) (.tail _ (.head _)) (.tail _ (.tail _ (.head _))) hoe hoi hcs hc hperm hmode
      · rename (¬ (i : Int) = 0) => hi0
        have hii : i ≠ 0 := by omega
        have hc : fChar x i = Str.ofString "-" := by unfold fChar; rw [hnone]; unfold fDef; exact if_neg hii
        exact fm_end kF kN (.head _) (.tail _ (.head _)) (.tail _ (.tail _ (.head _))) hoe hoi hcs hc hperm hmode
  case done =>
    clear kF1 kN1 d6 he₁ hi₁
    intro m₁ news₁ h tk hJ F N
    obtain ⟨o, cs, rfl, hcs, hperm, hmode⟩ := hJ
    k_steps
    refine SC.join (News.isList N (.head _)) hcs (fmode_ok x) fun t' k' => ?_
    k_steps
    all_goals (rename Fr _ _ _ _ => kF; exact hret _ _ _ kF.keep ⟨_, rfl⟩)
end Mine
end
section
open PySem PySem.W PyProof.Rows PySem.Calls
set_option Elab.async false
set_option maxRecDepth 100000
set_option maxHeartbeats 8000000
namespace Mine
theorem fill_here10 : True := by w_top off; trivial
local macro_rules | `(tactic| walk_at "eval ListComp") => `(tactic| (k_here; refine Hold.out ?_))
local macro_rules | `(tactic| walk_at "eval Name") => `(tactic| (k_here; k_dflt (refine' nmC ?k1 ?k2 ?k3 ?_ ?a3 ?a4 ?a5; (case a3 => rfl); (case a4 => rfl); (case a5 => decide); (case k1 => k_asm); (case k2 => rfl); (case k3 => k_asm); k_whole)))
local macro_rules | `(tactic| walk_at "eval Name") => `(tactic| (k_here; k_dflt (refine' nmL ?k1 ?k2 ?k3 ?_ ?a3 ?a4 ?a5; (case a3 => rfl); (case a4 => rfl); (case a5 => decide); (case k1 => k_asm); (case k2 => rfl); (case k3 => first | exact rfl | assumption); k_whole)))
def signRows : List Str := [Str.ofString "-?bcdlps", Str.ofString "-r", Str.ofString "-w", Str.ofString "-Ssx", Str.ofString "-r", Str.ofString "-w", Str.ofString "-Ssx", Str.ofString "-r", Str.ofString "-w", Str.ofString "-Ttx"]
def signAt (ns : List Int) (k : Nat) : Str := Txt.item (signRows.getD k Str.empty) (ns.getD k 0)
def figOk (ns : List Int) : Prop := ns.length = 10 ∧ ∀ k, k < 10 → 0 ≤ ns.getD k 0 ∧ ns.getD k 0 < (signRows.getD k Str.empty).length
def signsF (ns : List Int) : Str := Txt.join (Str.ofString "") ((List.range 10).map (signAt ns))
theorem signRows_len : ∀ k, k < 10 → (signRows.getD k Str.empty).length ≤ 8 := by decide +kernel
theorem item_sign {prog : Program} {w : World} {A : Around} {E : Value → Shared → Prop} {s : Shared} {Q : Value → Shared → Prop} {value slice : Expr} {ns : List Int} {i : Nat} {t u : Tok} (hok : figOk ns) (hi : i < 10)
    (h : ∀ t tk, Q (.str (signAt ns i) t) { s with toks := tk })
    (hs : subscripted slice false (.str (signRows.getD i Str.empty) t) (.int (ns.getD i 0) u) = operate [.str (signRows.getD i Str.empty) t, .int (ns.getD i 0) u] (getItem (.str (signRows.getD i Str.empty) t) (.int (ns.getD i 0) u)))
    (ht : ∀ r, letTemporaryGo value (.str (signRows.getD i Str.empty) t) r = pure ()) :
    wpAny (model prog w) A (subscriptTail value slice (.str (signRows.getD i Str.empty) t) (.int (ns.getD i 0) u)) Q E s := by
  obtain ⟨h0, h1⟩ := hok.2 i hi
  have hl := signRows_len i hi
  refine item_str ?_ (by omega) (by omega) (fun _ => h _ _) hs ht
  clear hs ht h
  generalize ns.getD i 0 = z at *
  unfold fitsSsize; simp; omega
theorem signAt_len (ns : List Int) (i : Nat) : (signAt ns i).length = 1 := rfl
theorem signs_ok (ns : List Int) : JoinOk (Str.ofString "") ((List.range 10).map (signAt ns)) = true := by
  refine joinOk_of_weight ?_ (by decide +kernel)
  have : ((List.range 10).map (signAt ns)).map (·.length) = (List.range 10).map fun _ => 1 := by
    rw [List.map_map]; exact List.map_congr_left fun i _ => signAt_len ns i
  rw [this, List.length_map]; decide
theorem signs_gives (w : World) (l : Addr) (vs : List Value) (ns : List Int) (hok : figOk ns) : Gives 195 20 w [.ref l] (fun h => h.IsList l vs.toArray ∧ IntsAre vs ns)
    (fun v _ _ => ∃ t, v = .str (signsF ns) t) := by
  intro prog A s p loose mean mg mb Q E X T hh hd hu hpre hret
  obtain ⟨hil, hiv⟩ := hpre
  refine wpAny_lv (A' := Lv 20) ?_ hh.symm hd rfl rfl hu
  clear hh hd hu
  (k_dflt (refine' enter_defC (binds := [("figures", .ref l)]) ?k1_q13 ?k2_q13 ?k6_q13 ?k7_q13 ?k8_q13 ?k9_q13 ?kB_q13 ?kD_q13 ?_ ?c2_q13 ?c3_q13 ?c4_q13; (case k1_q13 => assumption); (case k2_q13 => assumption); (case k6_q13 => k_is); (case k7_q13 => k_is); (case k8_q13 => decide); (case k9_q13 => exact BindsTo.of_eq rfl); (case kB_q13 => exact rfl); (case kD_q13 => decide +kernel); (case c2_q13 => exact rfl); (case c3_q13 => exact rfl); (case c4_q13 => exact rfl); k_whole); intro L' h' tk' cells' eL F' N' Y'; k_cells Y'; (try simp only [List.cons_append, List.nil_append] at N'); (try dsimp only); (try k_fold))
  rename_i o1 o2 d1 d2
  replace d1 : o1.data = .cell none := d1
  replace d2 : o2.data = .cell (some (.ref l)) := d2
  replace F' : Fr s.heap L' h' (fun _ => none) := F'
  k_steps
  rename (Obj.data _ = _) => d1'
  unfold Hold
  rename Fr _ _ _ _ => kF0
  rename News _ _ _ _ => kN0
  have hnl : ns.length = 10 := hok.1
  have hvl := hiv.length
  refine comp_eval (fun i ys fz => fz = [] ∧ ∃ cs, ys = strValues cs ∧ cs.map (·.1) = (List.range i).map (signAt ns)) (by with_unfolding_all rfl) (by decide) rfl (by decide) ?_ (by intro _; rfl)
  k_steps
  rename Fr _ _ _ _ => kF
  rename News _ _ _ _ => kN
  (try clear kF0)
  (try clear kN0)
  refine' go_range_eval (n := 10) ?hh ?hr ?sm ?rs ?sz ?hF ?hN ?J0 ?turn ?fin
  case hr => assumption
  case hh => rfl
  case sm => decide
  case rs => decide
  case sz => omega
  case hF => exact kF
  case hN => exact kN
  case J0 => exact ⟨rfl, [], rfl, rfl⟩
  case turn =>
    have hrl := News.isList kN (by k_mem : (_, PySem.W.listOf #[Value.str (Str.ofString "-?bcdlps") _, Value.str (Str.ofString "-r") _, Value.str (Str.ofString "-w") _, Value.str (Str.ofString "-Ssx") _, Value.str (Str.ofString "-r") _, Value.str (Str.ofString "-w") _, Value.str (Str.ofString "-Ssx") _, Value.str (Str.ofString "-r") _, Value.str (Str.ofString "-w") _, Value.str (Str.ofString "-Ttx") _] _) ∈ _)
    have X2 := X.keeps kF.keep
    have T2 := T.keeps kF.keep
    have hil2 := stays_list kF.keep hil
    have hc1 := (⟨_, kN.get (by k_mem), d1'⟩ : Heap.IsCell _ (L' + 1 + 1) _)
    have hc2 := (⟨o2, kN.get (by k_mem), d2⟩ : Heap.IsCell _ (L' + 1) (some (.ref l)))
    dsimp only
    intro i u ys fz C h tk m I it D acc hi hJ F N hne off
    obtain ⟨rfl, cs, rfl, hcs⟩ := hJ
    clear kF kN X T hil d1 d1' d2 hret
    refine turn_name0 F N (by rfl) (by rfl) ?_
    intro h' tk' F' N'
    clear F N
    rw [show (0 : Int) + (i : Int) = (i : Int) by omega] at F'
    (try k_fold)
    k_steps
    refine item_sign hok hi (fun t9 tk9 => ?_) (by with_unfolding_all rfl) (by intro _; with_unfolding_all rfl)
    k_steps
    rename Fr _ _ _ _ => kF
    rename News _ _ _ _ => kN
    refine CpEnd.intro kF kN [] (by k_mem) (by k_mem) (fun _ h => nomatch h) (fun _ h => nomatch h) ⟨rfl, cs ++ [(signAt ns i, t9)], by simp [strValues], ?_⟩
    rw [List.map_append, hcs, List.range_succ, List.map_append]; rfl
  case fin =>
    intro D ys fz nn h' tk hJ F N hne hfz
    obtain ⟨rfl, cs, rfl, hcs⟩ := hJ
    clear kF kN
    rw [List.nil_append] at N hne
    (replace hne := allNe_of hne; simp only [AllNe, and_true] at hne)
    (try k_fold)
    k_steps
    refine SC.join (News.isList N (.head _)) hcs (signs_ok ns) fun t' k' => ?_
    k_steps
    rename Fr _ _ _ _ => kF
    exact hret _ _ _ kF.keep ⟨_, rfl⟩
end Mine
end
section
open PySem PySem.W PyProof.Rows PySem.Calls
open AutoSeq1 (wpAny_loadPart')
open MeetsSeq MeetsSeq2 MeetsSeq3 SeqAt
set_option Elab.async false
set_option maxRecDepth 100000
set_option maxHeartbeats 8000000
namespace Mine
/-- the order of lists of numbers -/
def lexI : List Int → List Int → Bool
  | [], [] => false
  | [], _ :: _ => true
  | _ :: _, [] => false
  | a :: as, b :: bs => if a = b then lexI as bs else decide (a < b)

theorem IntsAre.at' {vs : List Value} {ns : List Int} (h : IntsAre vs ns) {i : Nat} (hi : i < vs.length) : ∃ t, vs[i]? = some (.int (ns.getD i 0) t) := by
  induction h generalizing i with
  | nil => exact absurd hi (by simp)
  | cons n t r ih =>
    cases i with
    | zero => exact ⟨t, rfl⟩
    | succ i =>
      obtain ⟨t', e⟩ := ih (by simpa using hi)
      exact ⟨t', by simpa using e⟩

theorem lt_loop (l b : Addr) (vs ws : List Value) (ns ks : List Int) (hv : IntsAre vs ns) (hw : IntsAre ws ks) (n n2 : Nat) (dd dd2 : Option Addr) (sl sl2 : Array (Option Value)) (hsz : vs.length = ws.length) (k : Nat) :
    ∀ i : Nat, vs.length - i = k → Meets (Builtin.«list.__eq__.loop» ⟨[.ref l, .ref b, rawInt i, rawInt 0], []⟩)
      (fun _ R s => s.heap.get? l = some { cls := .type "list", dict := dd, data := .seq vs.toArray n, slots := sl } ∧ s.heap.get? b = some { cls := .type "list", dict := dd2, data := .seq ws.toArray n2, slots := sl2 } ∧
        R (.ok (.ret (.bool (lexI (ns.drop i) (ks.drop i))))) s) := by
  have hl1 := hv.length
  have hl2 := hw.length
  induction k with
  | zero =>
    intro i hk prog w A R s h
    obtain ⟨hp, g, d, tk, os⟩ := s; obtain ⟨hl, hb, h⟩ := h
    wp_walk using wpAny_loadPart' hl, wpAny_loadPart' hb
    have hi1 : vs.toArray[((i : Nat) : Int).toNat]? = none := by simp; omega
    have hi2 : ws.toArray[((i : Nat) : Int).toNat]? = none := by simp; omega
    have hd1 : ns.drop i = [] := by simp; omega
    have hd2 : ks.drop i = [] := by simp; omega
    rw [hd1, hd2] at h
    rw [hi1, hi2]
    wp_walk using wpAny_loadPart' hl, wpAny_loadPart' hb
    show R (.ok (.ret (.bool (decide (vs.toArray.size < ws.toArray.size))))) _
    have : decide (vs.toArray.size < ws.toArray.size) = false := by simp [hsz]
    rw [this]
    exact h
  | succ k ih =>
    intro i hk prog w A R s h
    obtain ⟨hp, g, d, tk, os⟩ := s; obtain ⟨hl, hb, h⟩ := h
    wp_walk using wpAny_loadPart' hl, wpAny_loadPart' hb
    have hlt : i < vs.length := by omega
    have hlt2 : i < ws.length := by omega
    obtain ⟨t1, e1⟩ := IntsAre.at' hv hlt
    obtain ⟨t2, e2⟩ := IntsAre.at' hw hlt2
    have hi1 : vs.toArray[((i : Nat) : Int).toNat]? = some (.int (ns.getD i 0) t1) := by simpa using e1
    have hi2 : ws.toArray[((i : Nat) : Int).toNat]? = some (.int (ks.getD i 0) t2) := by simpa using e2
    have hd1 : ns.drop i = ns.getD i 0 :: ns.drop (i + 1) := by
      rw [List.drop_eq_getElem_cons (by omega), List.getD_eq_getElem?_getD, List.getElem?_eq_getElem (by omega)]; rfl
    have hd2 : ks.drop i = ks.getD i 0 :: ks.drop (i + 1) := by
      rw [List.drop_eq_getElem_cons (by omega), List.getD_eq_getElem?_getD, List.getElem?_eq_getElem (by omega)]; rfl
    have hc : ((i : Int) + 1) = ((i + 1 : Nat) : Int) := by push_cast; rfl
    rw [hd1, hd2] at h
    rw [hi1, hi2]
    refine wpAny_bind (EqAt.int_int _ _ _ _ prog w _ _ ?_)
    cases hb' : (ns.getD i 0 == ks.getD i 0) with
    | true =>
      have he : ns.getD i 0 = ks.getD i 0 := by simpa using hb'
      rw [lexI, if_pos he] at h
      wp_walk
      rw [hc]
      exact ⟨plainId_quiet plain_eq_loop _, codeAny_builtin entry_eq_loop (by
        rw [Around.under_plainId plain_eq_loop _]
        exact ih (i + 1) (by omega) prog w A R _ ⟨hl, hb, h⟩)⟩
    | false =>
      have he : ¬ ns.getD i 0 = ks.getD i 0 := by intro e; rw [e] at hb'; simp at hb'
      rw [lexI, if_neg he] at h
      wp_walk using wpAny_loadPart' hl, wpAny_loadPart' hb
      rw [hi1, hi2]
      show wpAny _ _ (compareOp .Lt (.int (ns.getD i 0) t1) (.int (ks.getD i 0) t2) >>= fun r => ret r) _ _ _
      exact wpAny_bind (lt_int (wpAny_pure h))

theorem list_lt (l b : Addr) (vs ws : List Value) (ns ks : List Int) (hv : IntsAre vs ns) (hw : IntsAre ws ks) (n n2 : Nat) (dd dd2 : Option Addr) (sl sl2 : Array (Option Value)) (hsz : vs.length = ws.length) :
    Meets (Builtin.«list.__lt__» ⟨[.ref l, .ref b], []⟩)
      (fun _ R s => s.heap.get? l = some { cls := .type "list", dict := dd, data := .seq vs.toArray n, slots := sl } ∧ s.heap.get? b = some { cls := .type "list", dict := dd2, data := .seq ws.toArray n2, slots := sl2 } ∧
        R (.ok (.ret (.bool (lexI ns ks)))) s) := by
  intro prog w A R s h
  obtain ⟨hp, g, d, tk, os⟩ := s; obtain ⟨hl, hb, h⟩ := h
  have f3 := AutoSeq1.sub_list_list
  wp_walk using wpAny_loadPart' hl, wpAny_loadPart' hb
  exact ⟨plainId_quiet plain_eq_loop _, codeAny_builtin entry_eq_loop (by
    rw [Around.under_plainId plain_eq_loop _]
    exact lt_loop l b vs ws ns ks hv hw n n2 dd dd2 sl sl2 hsz _ 0 rfl prog w A R _ ⟨hl, hb, h⟩)⟩

theorem keyLt_list {prog : Program} {w : World} {A : Around} {E : Value → Shared → Prop} {s : Shared} {Q : Bool → Shared → Prop} {l b : Addr} {vs ws : List Value} {ns ks : List Int} (hu : A.units < cLine)
    (hl : s.heap.IsList l vs.toArray) (hb : s.heap.IsList b ws.toArray) (hv : IntsAre vs ns) (hw : IntsAre ws ks) (hsz : ns.length = ks.length) (h : Q (lexI ns ks) s) :
    wpAny (model prog w) A (keyLt' oneType' (.ref l) (.ref b)) Q E s := by
  have hsz' : vs.length = ws.length := by rw [hv.length, hw.length, hsz]
  obtain ⟨⟨c1, d1, e1, f1⟩, h1, hc1, n1, hd1⟩ := hl
  obtain ⟨⟨c2, d2, e2, f2⟩, h2, hc2, n2, hd2⟩ := hb
  replace hc1 : c1 = .type "list" := hc1
  replace hd1 : e1 = .seq vs.toArray n1 := hd1
  replace hc2 : c2 = .type "list" := hc2
  replace hd2 : e2 = .seq ws.toArray n2 := hd2
  subst hc1 hd1 hc2 hd2
  rw [keyLt'_oneType, oneLt'_eq]
  simp only [if_true]
  refine wpAny_bind (wpAny_cRoomFor hu ?_)
  have hT : s.TypeIs (.ref l) "list" := ⟨_, h1, rfl⟩
  refine wpAny_bind (wpAny_callSpecialIfBound?_slot hT PySem.F.slot_list_lt (call_meets PySem.F.slot_list_lt hT PySem.F.entry_list_lt (PySem.F.args_list_lt_2 _ _) (list_lt l b vs ws ns ks hv hw n1 n2 d1 d2 f1 f2 hsz') ⟨h1, h2, ?_⟩))
  exact wpAny_truthy_bool h
end Mine
end
section
open PySem PySem.W PyProof.Rows PySem.Calls
set_option Elab.async false
set_option maxRecDepth 100000
set_option maxHeartbeats 8000000
namespace Mine

/-- the answers put in -/
def kRun {α : Type} (lt : Nat → Nat → Bool) : KasT α → α
  | .ret a => a
  | .ask i j k => kRun lt (k (lt i j))
theorem kRun_bind {α β : Type} (lt : Nat → Nat → Bool) (f : α → KasT β) : ∀ t : KasT α, kRun lt (t.bind f) = kRun lt (f (kRun lt t))
  | .ret _ => rfl
  | .ask i j k => kRun_bind lt f (k (lt i j))

theorem kas_by_run {α : Type} {cmp : Nat → Nat → (Bool → Shared → Prop) → Shared → Prop} {Q : α → Shared → Prop} (lt : Nat → Nat → Bool) (Inv : Shared → Prop) :
    ∀ (t : KasT α) (s : Shared), Inv s → (∀ i j C s, Inv s → (∀ s', Inv s' → C (lt i j) s') → cmp i j C s) → (∀ s', Inv s' → Q (kRun lt t) s') → t.kasWp cmp Q s
  | .ret _, s, hs, _, hq => hq s hs
  | .ask i j k, s, hs, hc, hq => hc i j _ s hs fun s' hs' => kas_by_run lt Inv (k (lt i j)) s' hs' hc hq

section
variable {lt : Nat → Nat → Bool} {N : Nat}
structure TotalLt (lt : Nat → Nat → Bool) (N : Nat) : Prop where
  tr : ∀ a b c, a < N → b < N → c < N → lt a b = true → lt b c = true → lt a c = true
  tot : ∀ a b, a < N → b < N → a ≠ b → lt a b = false → lt b a = true

def Full (N : Nat) (p : Array Nat) : Prop := p.size = N ∧ p.toList.Perm (List.range N)
abbrev at0 (p : Array Nat) (i : Nat) : Nat := p.getD i 0
def UpTo (lt : Nat → Nat → Bool) (p : Array Nat) (k : Nat) : Prop := ∀ i j, i < j → j < k → lt (at0 p i) (at0 p j) = true
def DownTo (lt : Nat → Nat → Bool) (p : Array Nat) (k : Nat) : Prop := ∀ i j, i < j → j < k → lt (at0 p j) (at0 p i) = true

theorem at0_eq (p : Array Nat) (i : Nat) : at0 p i = (p[i]?).getD 0 := by
  unfold at0; simp [Array.getD_eq_getD_getElem?]
theorem Full.lt' {p : Array Nat} (h : Full N p) {i : Nat} (hi : i < N) : at0 p i < N := by
  have hi' : i < p.size := by rw [h.1]; exact hi
  have hm : p[i] ∈ p.toList := by simp
  have := List.mem_range.mp (h.2.mem_iff.mp hm)
  rw [at0_eq, Array.getElem?_eq_getElem hi']; exact this
theorem Full.ne {p : Array Nat} (h : Full N p) {i j : Nat} (hij : i < j) (hj : j < N) : at0 p i ≠ at0 p j := by
  have hi' : i < p.size := by rw [h.1]; omega
  have hj' : j < p.size := by rw [h.1]; exact hj
  rw [at0_eq, at0_eq, Array.getElem?_eq_getElem hi', Array.getElem?_eq_getElem hj']
  have nd : p.toList.Nodup := h.2.nodup_iff.mpr List.nodup_range
  intro e
  have hl : i < p.toList.length := by simpa using hi'
  have hl2 : j < p.toList.length := by simpa using hj'
  have e' : p.toList[i] = p.toList[j] := by simpa using e
  exact List.pairwise_iff_getElem.mp nd i j hl hl2 hij e'

theorem asc_run (T : TotalLt lt N) {p : Array Nat} (hp : Full N p) : ∀ (f n : Nat), 1 ≤ n → n + f ≤ N → UpTo lt p n →
    n ≤ kRun lt (kas_asc p f n) ∧ kRun lt (kas_asc p f n) ≤ n + f ∧ UpTo lt p (kRun lt (kas_asc p f n)) ∧ (kRun lt (kas_asc p f n) < n + f → lt (at0 p (kRun lt (kas_asc p f n))) (at0 p (kRun lt (kas_asc p f n) - 1)) = true)
  | 0, n, h1, hn, hu => ⟨Nat.le_refl _, Nat.le_refl _, hu, fun h => absurd h (Nat.lt_irrefl _)⟩
  | f + 1, n, h1, hn, hu => by
    show n ≤ kRun lt ((fun c => if c = true then KasT.ret n else kas_asc p f (n + 1)) (lt (at0 p n) (at0 p (n - 1)))) ∧ _
    cases hc : lt (at0 p n) (at0 p (n - 1)) with
    | true =>
      have e : kRun lt (kas_asc p (f + 1) n) = n := by
        show kRun lt ((fun c => if c = true then KasT.ret n else kas_asc p f (n + 1)) (lt (at0 p n) (at0 p (n - 1)))) = n
        rw [hc]; rfl
      rw [e]
      exact ⟨Nat.le_refl _, by omega, hu, fun _ => hc⟩
    | false =>
      have e : kRun lt (kas_asc p (f + 1) n) = kRun lt (kas_asc p f (n + 1)) := by
        show kRun lt ((fun c => if c = true then KasT.ret n else kas_asc p f (n + 1)) (lt (at0 p n) (at0 p (n - 1)))) = _
        rw [hc]; rfl
      have hstep : lt (at0 p (n - 1)) (at0 p n) = true := T.tot _ _ (hp.lt' (by omega)) (hp.lt' (by omega)) (Ne.symm (hp.ne (by omega) (by omega))) hc
      have hu' : UpTo lt p (n + 1) := by
        intro i j hij hj
        by_cases hjn : j = n
        · subst hjn
          by_cases hin : i = j - 1
          · subst hin; exact hstep
          · exact T.tr _ _ _ (hp.lt' (by omega)) (hp.lt' (by omega)) (hp.lt' (by omega)) (hu i (j - 1) (by omega) (by omega)) hstep
        · exact hu i j hij (by omega)
      obtain ⟨a, b, c, d⟩ := asc_run T hp f (n + 1) (by omega) (by omega) hu'
      rw [e]
      exact ⟨by show n ≤ kRun lt (kas_asc p f (n + 1)); omega, by omega, c, fun h => d (by omega)⟩

theorem desc_run (T : TotalLt lt N) {p : Array Nat} (hp : Full N p) : ∀ (f n : Nat), 1 ≤ n → n + f ≤ N → DownTo lt p n →
    ∃ m, kRun lt (kas_desc f p n 0) = (p, m, 0) ∧ n ≤ m ∧ m ≤ n + f ∧ DownTo lt p m
  | 0, n, h1, hn, hu => ⟨n, rfl, Nat.le_refl _, Nat.le_refl _, hu⟩
  | f + 1, n, h1, hn, hu => by
    cases hc : lt (at0 p n) (at0 p (n - 1)) with
    | true =>
      have e : kRun lt (kas_desc (f + 1) p n 0) = kRun lt (kas_desc f p (n + 1) 0) := by
        show kRun lt ((fun c => if c = true then (if 0 > 0 then kas_desc f (kas_rev p (n - (0 + 1)) n) (n + 1) 0 else kas_desc f p (n + 1) 0) else KasT.ask (p.getD (n - 1) 0) (p.getD n 0) fun d => if d = true then KasT.ret (p, n, 0) else kas_desc f p (n + 1) (0 + 1)) (lt (at0 p n) (at0 p (n - 1)))) = _
        rw [hc]; rfl
      have hu' : DownTo lt p (n + 1) := by
        intro i j hij hj
        by_cases hjn : j = n
        · subst hjn
          by_cases hin : i = j - 1
          · subst hin; exact hc
          · exact T.tr _ _ _ (hp.lt' (by omega)) (hp.lt' (by omega)) (hp.lt' (by omega)) hc (hu i (j - 1) (by omega) (by omega))
        · exact hu i j hij (by omega)
      obtain ⟨m, a, b, c, d⟩ := desc_run T hp f (n + 1) (by omega) (by omega) hu'
      exact ⟨m, e.trans a, by omega, by omega, d⟩
    | false =>
      have hstep : lt (at0 p (n - 1)) (at0 p n) = true := T.tot _ _ (hp.lt' (by omega)) (hp.lt' (by omega)) (Ne.symm (hp.ne (by omega) (by omega))) hc
      have e : kRun lt (kas_desc (f + 1) p n 0) = (p, n, 0) := by
        show kRun lt ((fun c => if c = true then (if 0 > 0 then kas_desc f (kas_rev p (n - (0 + 1)) n) (n + 1) 0 else kas_desc f p (n + 1) 0) else KasT.ask (p.getD (n - 1) 0) (p.getD n 0) fun d => if d = true then KasT.ret (p, n, 0) else kas_desc f p (n + 1) (0 + 1)) (lt (at0 p n) (at0 p (n - 1)))) = _
        rw [hc]
        show kRun lt ((fun d => if d = true then KasT.ret (p, n, 0) else kas_desc f p (n + 1) (0 + 1)) (lt (at0 p (n - 1)) (at0 p n))) = _
        rw [hstep]; rfl
      exact ⟨n, e, Nat.le_refl _, by omega, hu⟩

theorem full_rev {p : Array Nat} (hp : Full N p) (i j : Nat) : Full N (kas_rev p i j) :=
  ⟨(mirror_size _ _ _ _).trans hp.1, (Array.perm_iff_toList_perm.mp (mirror_perm p i j ((j - i) / 2))).trans hp.2⟩
theorem rev_at {p : Array Nat} {n k : Nat} (hn : n ≤ p.size) (hk : k < n) : at0 (kas_rev p 0 n) k = at0 p (n - 1 - k) := by
  rw [at0_eq, at0_eq]
  unfold kas_rev
  rw [getElem?_mirror_all hn, if_pos ⟨Nat.zero_le _, hk⟩, Nat.zero_add]

theorem count_run (T : TotalLt lt N) {p : Array Nat} (hp : Full N p) (hN : 1 ≤ N) : ∃ m p', kRun lt (kas_count N p) = (m, p') ∧ Full N p' ∧ 1 ≤ m ∧ m ≤ N ∧ UpTo lt p' m := by
  obtain ⟨a, b, c, d⟩ := asc_run T hp (N - 1) 1 (Nat.le_refl _) (by omega) (by intro i j hij hj; omega)
  unfold kas_count
  rw [kRun_bind]
  generalize kRun lt (kas_asc p (N - 1) 1) = n at *
  by_cases h1 : n = N
  · subst h1
    refine ⟨n, p, ?_, hp, a, Nat.le_refl _, c⟩
    simp [kRun]
  · have hb : (n == N) = false := by simpa using h1
    simp only [hb, Bool.false_eq_true, if_false]
    by_cases h2 : n > 1
    · rw [if_pos h2]
      refine ⟨n, p, ?_, hp, a, by omega, c⟩
      show kRun lt ((fun c => if c = true then KasT.ret (n, p) else kas_descPart n N (kas_rev p 0 n)) (lt (at0 p 0) (at0 p (n - 1)))) = _
      rw [c 0 (n - 1) (by omega) (by omega)]; rfl
    · rw [if_neg h2]
      have hn1 : n = 1 := by omega
      subst hn1
      have hd2 : DownTo lt p 2 := by
        intro i j hij hj
        have : i = 0 ∧ j = 1 := by omega
        obtain ⟨rfl, rfl⟩ := this
        exact d (by omega)
      obtain ⟨m, e1, e2, e3, e4⟩ := desc_run T hp (N - 2) 2 (by omega) (by omega) hd2
      have hup : UpTo lt (kas_rev p 0 m) m := by
        intro i j hij hj
        rw [rev_at (by rw [hp.1]; omega) (by omega), rev_at (by rw [hp.1]; omega) (by omega)]
        exact e4 _ _ (by omega) (by omega)
      obtain ⟨a', b', c', d'⟩ := asc_run T (full_rev hp 0 m) (N - m) m (by omega) (by omega) hup
      refine ⟨_, kas_rev p 0 m, ?_, full_rev hp 0 m, ?_, ?_, c'⟩
      · unfold kas_descPart
        rw [kRun_bind, show (1 + 1 : Nat) = 2 from rfl, e1]
        simp only [gt_iff_lt, Nat.lt_irrefl, if_false]
        unfold kas_tail3
        rw [kRun_bind]
        rfl
      · omega
      · omega

theorem place_run (T : TotalLt lt N) {p : Array Nat} (hp : Full N p) {k : Nat} (hk : k < N) (hu : UpTo lt p k) : ∀ (f l r : Nat), l ≤ r → r ≤ k → r - l ≤ f → (∀ i, i < l → lt (at0 p i) (at0 p k) = true) → (∀ i, r ≤ i → i < k → lt (at0 p k) (at0 p i) = true) →
    ∃ x, kRun lt (kas_place p k f l r) = x ∧ x ≤ k ∧ (∀ i, i < x → lt (at0 p i) (at0 p k) = true) ∧ (∀ i, x ≤ i → i < k → lt (at0 p k) (at0 p i) = true)
  | 0, l, r, h1, h2, h3, ha, hb => ⟨l, rfl, by omega, ha, fun i hi hik => hb i (by omega) hik⟩
  | f + 1, l, r, h1, h2, h3, ha, hb => by
    unfold kas_place
    by_cases hlr : l ≥ r
    · rw [if_pos hlr]
      exact ⟨l, rfl, by omega, ha, fun i hi hik => hb i (by omega) hik⟩
    · rw [if_neg hlr]
      show ∃ x, kRun lt ((fun c => if c = true then kas_place p k f l ((l + r) / 2) else kas_place p k f ((l + r) / 2 + 1) r) (lt (at0 p k) (at0 p ((l + r) / 2)))) = x ∧ _
      cases hc : lt (at0 p k) (at0 p ((l + r) / 2)) with
      | true =>
        refine place_run T hp hk hu f l ((l + r) / 2) (by omega) (by omega) (by omega) ha fun i hi hik => ?_
        by_cases hm : i = (l + r) / 2
        · rw [hm]; exact hc
        · exact T.tr _ _ _ (hp.lt' hk) (hp.lt' (by omega)) (hp.lt' (by omega)) hc (hu _ _ (by omega) hik)
      | false =>
        have hs : lt (at0 p ((l + r) / 2)) (at0 p k) = true := T.tot _ _ (hp.lt' hk) (hp.lt' (by omega)) (Ne.symm (hp.ne (by omega) hk)) hc
        refine place_run T hp hk hu f ((l + r) / 2 + 1) r (by omega) h2 (by omega) (fun i hi => ?_) hb
        by_cases hm : i = (l + r) / 2
        · rw [hm]; exact hs
        · exact T.tr _ _ _ (hp.lt' (by omega)) (hp.lt' (by omega)) (hp.lt' hk) (hu _ _ (by omega) (by omega)) hs

theorem full_bubble {p : Array Nat} (hp : Full N p) (i j : Nat) : Full N (bubble p i j) :=
  ⟨(bubble_size _ _ _).trans hp.1, (Array.perm_iff_toList_perm.mp (bubble_perm p i j)).trans hp.2⟩
theorem bubble_at {p : Array Nat} {k l i : Nat} (hk : k < p.size) (hl : l ≤ k) : at0 (bubble p k (k - l)) i = if i = l then at0 p k else if l < i ∧ i ≤ k then at0 p (i - 1) else at0 p i := by
  simp only [at0_eq]
  rw [getElem?_bubble hk _ (by omega), show k - (k - l) = l by omega]
  by_cases h1 : i = l
  · rw [if_pos h1, if_pos h1]
  · rw [if_neg h1, if_neg h1]
    by_cases h2 : l < i ∧ i ≤ k
    · rw [if_pos h2, if_pos h2]
    · rw [if_neg h2, if_neg h2]

theorem bin_run (T : TotalLt lt N) : ∀ (f k : Nat) (p : Array Nat), Full N p → UpTo lt p k → k + f = N → ∃ p', kRun lt (kas_bin f p k) = p' ∧ Full N p' ∧ UpTo lt p' N
  | 0, k, p, hp, hu, e => ⟨p, rfl, hp, by rw [← e]; exact hu⟩
  | f + 1, k, p, hp, hu, e => by
    unfold kas_bin
    rw [kRun_bind]
    obtain ⟨x, e1, hx, ha, hb⟩ := place_run T hp (k := k) (by omega) hu k 0 k (Nat.zero_le _) (Nat.le_refl _) (by omega) (fun i hi => absurd hi (Nat.not_lt_zero _)) (fun i hi hik => absurd hik (by omega))
    rw [e1]
    refine bin_run T f (k + 1) (bubble p k (k - x)) (full_bubble hp _ _) ?_ (by omega)
    have hkp : k < p.size := by rw [hp.1]; omega
    intro i j hij hj
    rw [bubble_at hkp hx, bubble_at hkp hx]
    by_cases i1 : i = x
    · rw [if_pos i1, if_neg (by omega), if_pos ⟨by omega, by omega⟩]
      exact hb _ (by omega) (by omega)
    · rw [if_neg i1]
      by_cases j1 : j = x
      · rw [if_pos j1, if_neg (by omega)]
        exact ha _ (by omega)
      · rw [if_neg j1]
        by_cases i2 : x < i ∧ i ≤ k
        · rw [if_pos i2, if_pos ⟨by omega, by omega⟩]
          exact hu _ _ (by omega) (by omega)
        · rw [if_neg i2]
          by_cases j2 : x < j ∧ j ≤ k
          · rw [if_pos j2]; exact hu _ _ (by omega) (by omega)
          · rw [if_neg j2]; exact hu _ _ hij (by omega)

theorem sort_run (T : TotalLt lt N) (hN : 1 ≤ N) : ∃ p', kRun lt (kas_sort N) = p' ∧ Full N p' ∧ UpTo lt p' N := by
  have h0 : Full N (List.toArray (List.range N)) := ⟨by simp, by simp⟩
  obtain ⟨m, p', e, hp, h1, h2, hu⟩ := count_run T h0 hN
  unfold kas_sort
  rw [kRun_bind, e]
  by_cases hm : m < N
  · rw [if_pos hm]
    exact bin_run T _ _ _ hp (by rw [Nat.max_eq_left h1]; exact hu) (by omega)
  · rw [if_neg hm]
    have : m = N := by omega
    subst this
    exact ⟨p', rfl, hp, hu⟩

/-- every question of the tree asks within the bound -/
def AskOk {α : Type} (N : Nat) (P : α → Prop) : KasT α → Prop
  | .ret a => P a
  | .ask i j k => i < N ∧ j < N ∧ ∀ b, AskOk N P (k b)
theorem AskOk.bind {α β : Type} {P : α → Prop} {P' : β → Prop} {f : α → KasT β} (hf : ∀ a, P a → AskOk N P' (f a)) : ∀ {t : KasT α}, AskOk N P t → AskOk N P' (t.bind f)
  | .ret a, h => hf a h
  | .ask _ _ _, h => ⟨h.1, h.2.1, fun b => AskOk.bind hf (h.2.2 b)⟩
theorem Full.lt0 {p : Array Nat} (h : Full N p) (hN : 1 ≤ N) (i : Nat) : p.getD i 0 < N := by
  by_cases hi : i < N
  · exact h.lt' hi
  · have : at0 p i = 0 := by rw [at0_eq, Array.getElem?_eq_none (by rw [h.1]; omega)]; rfl
    show at0 p i < N
    omega
theorem asc_ok {p : Array Nat} (hp : Full N p) (hN : 1 ≤ N) : ∀ f n, AskOk N (fun _ => True) (kas_asc p f n)
  | 0, _ => trivial
  | f + 1, n => ⟨hp.lt0 hN _, hp.lt0 hN _, fun b => by
    cases b with
    | true => exact trivial
    | false => exact asc_ok hp hN f (n + 1)⟩
theorem desc_ok (hN : 1 ≤ N) : ∀ f (p : Array Nat) n q, Full N p → AskOk N (fun r : Array Nat × Nat × Nat => Full N r.1) (kas_desc f p n q)
  | 0, _, _, _, hp => hp
  | f + 1, p, n, q, hp => by
    refine ⟨hp.lt0 hN _, hp.lt0 hN _, fun b => ?_⟩
    cases b with
    | true =>
      show AskOk N _ (if q > 0 then _ else _)
      split
      · exact desc_ok hN f _ _ _ (full_rev hp _ _)
      · exact desc_ok hN f _ _ _ hp
    | false =>
      refine ⟨hp.lt0 hN _, hp.lt0 hN _, fun d => ?_⟩
      cases d with
      | true => exact hp
      | false => exact desc_ok hN f _ _ _ hp
theorem tail3_ok (hN : 1 ≤ N) {p : Array Nat} (hp : Full N p) (n nrem : Nat) : AskOk N (fun r : Nat × Array Nat => Full N r.2) (kas_tail3 n nrem p) := by
  unfold kas_tail3
  refine AskOk.bind (P := fun _ => True) (fun m _ => ?_) (asc_ok (full_rev hp 0 n) hN _ _)
  exact full_rev hp 0 n
theorem descPart_ok (hN : 1 ≤ N) {p : Array Nat} (hp : Full N p) (n nrem : Nat) : AskOk N (fun r : Nat × Array Nat => Full N r.2) (kas_descPart n nrem p) := by
  refine AskOk.bind (fun r hr => ?_) (desc_ok hN _ _ _ _ hp)
  split
  · exact tail3_ok hN (full_rev hr _ _) _ _
  · exact tail3_ok hN hr _ _
theorem count_ok (hN : 1 ≤ N) {p : Array Nat} (hp : Full N p) (nrem : Nat) : AskOk N (fun r : Nat × Array Nat => Full N r.2) (kas_count nrem p) := by
  refine AskOk.bind (fun n _ => ?_) (asc_ok hp hN _ _)
  split
  · exact hp
  · split
    · refine ⟨hp.lt0 hN _, hp.lt0 hN _, fun b => ?_⟩
      cases b with
      | true => exact hp
      | false => exact descPart_ok hN (full_rev hp _ _) _ _
    · exact descPart_ok hN hp _ _
theorem place_ok (hN : 1 ≤ N) {p : Array Nat} (hp : Full N p) (k : Nat) : ∀ f l r, AskOk N (fun _ => True) (kas_place p k f l r)
  | 0, _, _ => trivial
  | f + 1, l, r => by
    unfold kas_place
    split
    · trivial
    · refine ⟨hp.lt0 hN _, hp.lt0 hN _, fun b => ?_⟩
      cases b with
      | true => exact place_ok hN hp k f _ _
      | false => exact place_ok hN hp k f _ _
theorem bin_ok (hN : 1 ≤ N) : ∀ f (p : Array Nat) k, Full N p → AskOk N (fun _ => True) (kas_bin f p k)
  | 0, _, _, _ => trivial
  | f + 1, _, k, hp => AskOk.bind (fun _ _ => bin_ok hN f _ _ (full_bubble hp _ _)) (place_ok hN hp k _ _ _)
theorem sort_ok (hN : 1 ≤ N) : AskOk N (fun _ => True) (kas_sort N) := by
  have h0 : Full N (List.toArray (List.range N)) := ⟨by simp, by simp⟩
  refine AskOk.bind (fun r hr => ?_) (count_ok hN h0 N)
  split
  · exact bin_ok hN _ _ _ hr
  · trivial
theorem kas_run_at {α : Type} {P : α → Prop} {cmp : Nat → Nat → (Bool → Shared → Prop) → Shared → Prop} {Q : α → Shared → Prop} (lt : Nat → Nat → Bool) (s : Shared) :
    ∀ (t : KasT α), AskOk N P t → (∀ i j C, i < N → j < N → C (lt i j) s → cmp i j C s) → Q (kRun lt t) s → t.kasWp cmp Q s
  | .ret _, _, _, hq => hq
  | .ask i j k, ho, hc, hq => hc i j _ ho.1 ho.2.1 (kas_run_at lt s (k (lt i j)) (ho.2.2 _) hc hq)
end
end Mine
end
section
open PySem PySem.W PyProof.Rows PySem.Calls
open MeetsSeq MeetsSeq2 MeetsSeq3 SeqAt
set_option Elab.async false
set_option maxRecDepth 100000
set_option maxHeartbeats 8000000
namespace Mine
/-- a list of numbers lies there -/
def IntL (h : Heap) (a : Addr) (fs : List Int) : Prop := ∃ vs : List Value, h.IsList a vs.toArray ∧ IntsAre vs fs
theorem IntL.unique {h : Heap} {a : Addr} {fs gs : List Int} (x : IntL h a fs) (y : IntL h a gs) : fs = gs := by
  obtain ⟨vs, ⟨o, h1, _, n, d1⟩, i1⟩ := x
  obtain ⟨ws, ⟨o', h2, _, n', d2⟩, i2⟩ := y
  rw [h1] at h2
  cases h2
  rw [d1] at d2
  have e : vs.toArray = ws.toArray := by injection d2
  have e' : vs = ws := by simpa using e
  subst e'
  rw [← i1.nums, ← i2.nums]
theorem IntL.stays {h h' : Heap} {a : Addr} {fs : List Int} (x : IntL h a fs) (k : ∀ o, h.get? a = some o → h'.get? a = some o) : IntL h' a fs := by
  obtain ⟨vs, ⟨o, h1, r⟩, i1⟩ := x
  exact ⟨vs, ⟨o, k _ h1, r⟩, i1⟩

theorem all_eq : ∀ {fs gs : List Int}, fs.length = gs.length → (List.range fs.length).all (fun j => fs.getD j 0 == gs.getD j 0) = (fs == gs) := by
  intro fs gs hl
  rw [Bool.eq_iff_iff, List.all_eq_true, beq_iff_eq]
  constructor
  · intro h
    apply List.ext_getElem? 
    intro j
    by_cases hj : j < fs.length
    · have := h j (List.mem_range.mpr hj)
      rw [beq_iff_eq, List.getD_eq_getElem?_getD, List.getD_eq_getElem?_getD, List.getElem?_eq_getElem hj, List.getElem?_eq_getElem (hl ▸ hj)] at this
      rw [List.getElem?_eq_getElem hj, List.getElem?_eq_getElem (hl ▸ hj)]
      exact congrArg some this
    · rw [List.getElem?_eq_none (by omega), List.getElem?_eq_none (by omega)]
  · rintro rfl j _
    exact beq_self_eq_true _

theorem eqAt_intL {A : Around} {s : Shared} {a b : Addr} {fs gs : List Int} (x : IntL s.heap a fs) (y : IntL s.heap b gs) (hl : fs.length = gs.length) (hu : A.units < cLine) : EqAt A s (.ref a) (.ref b) (fs == gs) := by
  by_cases hab : a = b
  · subst hab
    rw [x.unique y, beq_self_eq_true]
    exact EqAt.same _
  · obtain ⟨vs, h1, i1⟩ := x
    obtain ⟨ws, h2, i2⟩ := y
    have l1 := i1.length
    have l2 := i2.length
    have := RcAt.lists (A := A) (e := fun j => fs.getD j 0 == gs.getD j 0) h1 h2 (by simp; omega) hu (fun j j1 j2 => by
      obtain ⟨t1, e1⟩ := IntsAre.at' i1 (i := j) (by simpa using j1)
      obtain ⟨t2, e2⟩ := IntsAre.at' i2 (i := j) (by simpa using j2)
      have e1' : vs.toArray[j] = .int (fs.getD j 0) t1 := by
        have := List.getElem?_eq_some_iff.mp e1
        obtain ⟨_, q⟩ := this
        simpa using q
      have e2' : ws.toArray[j] = .int (gs.getD j 0) t2 := by
        have := List.getElem?_eq_some_iff.mp e2
        obtain ⟨_, q⟩ := this
        simpa using q
      rw [e1', e2']
      exact EqAt.int_int _ _ _ _)
    rw [show (vs.toArray.size) = fs.length by simp [l1], all_eq hl] at this
    exact EqAt.of_refs hab this

noncomputable def isKey (h : Heap) (gs : List Int) : Value → Bool
  | .ref a => @decide (IntL h a gs) (Classical.propDecidable _)
  | _ => false
theorem isKey_at {h : Heap} {a : Addr} {fs gs : List Int} (x : IntL h a fs) : isKey h gs (.ref a) = (fs == gs) := by
  unfold isKey
  rw [Bool.eq_iff_iff, beq_iff_eq]
  constructor
  · intro q
    exact x.unique (@of_decide_eq_true _ (Classical.propDecidable _) q)
  · rintro rfl
    exact @decide_eq_true _ (Classical.propDecidable _) x

def KeysAt (h : Heap) (ks : List (Addr × List Int)) : Prop := ∀ k ∈ ks, IntL h k.1 k.2 ∧ k.2.length = 10
def refsOf (ks : List (Addr × List Int)) : List Value := ks.map fun k => Value.ref k.1

section
variable {prog : Program} {w : World} {A : Around} {E : Value → Shared → Prop} {s : Shared}
theorem notIn_keys {l b : Addr} {ks : List (Addr × List Int)} {gs : List Int} {Q : Value → Shared → Prop} (hl : s.heap.IsList l (refsOf ks).toArray) (hk : KeysAt s.heap ks) (hb : IntL s.heap b gs) (hg : gs.length = 10) (hu : A.units + 1 < cLine)
    (h : Q (.bool (!ks.any fun k => k.2 == gs)) s) : wpAny (model prog w) A (compareOp .NotIn (.ref b) (.ref l)) Q E s := by
  refine notIn_listAt (isKey s.heap gs) hl (fun y hy => ?_) ?_
  · obtain ⟨k, hk', rfl⟩ := List.mem_map.mp (by simpa [refsOf] using hy : y ∈ ks.map fun k => Value.ref k.1)
    obtain ⟨x, hx⟩ := hk k hk'
    rw [isKey_at x]
    exact eqAt_intL x hb (by omega) hu
  · have e : (refsOf ks).toArray.any (isKey s.heap gs) = ks.any fun k => k.2 == gs := by
      simp only [refsOf, List.any_toArray, List.any_map]
      rw [Bool.eq_iff_iff, List.any_eq_true, List.any_eq_true]
      constructor
      · rintro ⟨k, m, q⟩; exact ⟨k, m, by rw [← isKey_at (hk k m).1]; exact q⟩
      · rintro ⟨k, m, q⟩; exact ⟨k, m, by show isKey s.heap gs (.ref k.1) = true; rw [isKey_at (hk k m).1]; exact q⟩
    rw [e]; exact h

theorem index_keys {l b : Addr} {os : List (Addr × List Int)} {gs : List Int} {j : Nat} {Q : Value → Shared → Prop} (hl : s.heap.IsList l (refsOf os).toArray) (hk : KeysAt s.heap os) (hb : IntL s.heap b gs) (hg : gs.length = 10) (hlen : os.length ≤ 1000)
    (hj : j < os.length) (hit : (os.getD j (0, [])).2 = gs) (hno : ∀ m, m < j → (os.getD m (0, [])).2 ≠ gs) (hu : A.units + 1 < cLine) (h : ∀ t tk, Q (.int (j : Nat) t) { s with toks := tk }) :
    wpAny (model prog w) A (call (.builtin "list.index") [.ref l, .ref b]) Q E s := by
  obtain ⟨⟨cls, dd, data, sl⟩, ho, hc, n, hd⟩ := id hl
  simp only at hc hd
  subst hc hd
  have sz : (refsOf os).toArray.size = os.length := by simp [refsOf]
  have at' : ∀ m (hm : m < os.length), (refsOf os).toArray[m]'(by rw [sz]; exact hm) = .ref os[m].1 := by intro m hm; simp [refsOf]
  have gd : ∀ m (hm : m < os.length), os.getD m (0, []) = os[m] := by intro m hm; rw [List.getD_eq_getElem?_getD, List.getElem?_eq_getElem hm]; rfl
  refine call_meets PySem.F.slot_list_index ⟨_, ho, rfl⟩ PySem.F.entry_list_index (PySem.F.args_list_index_2 _ _)
    (list_indexAt l (refsOf os).toArray n dd sl (.ref b) (isKey s.heap gs) j (by rw [sz]; exact hj) (by omega) ?_ ?_) ⟨ho, fun y hy => ?_, h _ _⟩
  · rw [at' j hj, isKey_at (hk _ (List.getElem_mem hj)).1, ← hit, gd j hj]; exact beq_self_eq_true _
  · intro m hm hmj
    rw [sz] at hm
    rw [at' m hm, isKey_at (hk _ (List.getElem_mem hm)).1]
    have := hno m hmj
    rw [gd m hm] at this
    simpa using this
  · obtain ⟨k, hk', rfl⟩ := List.mem_map.mp (by simpa [refsOf] using hy : y ∈ os.map fun k => Value.ref k.1)
    obtain ⟨x, hx⟩ := hk k hk'
    rw [isKey_at x]
    exact eqAt_intL x hb (by omega) hu

theorem lexI_irr : ∀ a : List Int, lexI a a = false
  | [] => rfl
  | x :: r => by rw [lexI, if_pos rfl]; exact lexI_irr r
theorem lexI_tr : ∀ {a b c : List Int}, lexI a b = true → lexI b c = true → lexI a c = true
  | [], [], _, h, _ => by simp [lexI] at h
  | [], _ :: _, [], _, h => by simp [lexI] at h
  | [], _ :: _, _ :: _, _, _ => rfl
  | _ :: _, [], _, h, _ => by simp [lexI] at h
  | _ :: _, _ :: _, [], _, h => by simp [lexI] at h
  | x :: a, y :: b, z :: c, h1, h2 => by
    rw [lexI] at h1 h2 ⊢
    by_cases e1 : x = y
    · subst e1
      rw [if_pos rfl] at h1
      by_cases e2 : x = z
      · subst e2
        rw [if_pos rfl] at h2 ⊢
        exact lexI_tr h1 h2
      · rw [if_neg e2] at h2 ⊢
        exact h2
    · rw [if_neg e1] at h1
      by_cases e2 : y = z
      · subst e2
        rw [if_neg e1]; exact h1
      · rw [if_neg e2] at h2
        have a1 := of_decide_eq_true h1
        have a2 := of_decide_eq_true h2
        rw [if_neg (by omega)]
        exact decide_eq_true (by omega)
theorem lexI_tot : ∀ {a b : List Int}, a ≠ b → lexI a b = false → lexI b a = true
  | [], [], h, _ => absurd rfl h
  | [], _ :: _, _, h => by simp [lexI] at h
  | _ :: _, [], _, _ => rfl
  | x :: a, y :: b, h, h1 => by
    rw [lexI] at h1 ⊢
    by_cases e : x = y
    · subst e
      rw [if_pos rfl] at h1 ⊢
      exact lexI_tot (fun q => h (by rw [q])) h1
    · rw [if_neg e] at h1
      rw [if_neg (Ne.symm e)]
      have := of_decide_eq_false h1
      exact decide_eq_true (by omega)

theorem sorted_keys {l : Addr} {ks : List (Addr × List Int)} {h₀ : Heap} {L : Addr} {m : Str → Option Value} {news : List (Addr × Obj)} {Q : Value → Shared → Prop} (F : Fr h₀ L s.heap m) (N : News h₀ L s.heap news) (hl : s.heap.IsList l (refsOf ks).toArray)
    (h2 : 2 ≤ ks.length) (h64 : ks.length < 64) (hk : ∀ h', Fr h₀ L h' m → News h₀ L h' news → KeysAt h' ks) (hnd : (ks.map (·.2)).Nodup) (hu : A.units + 2 < cLine)
    (h : ∀ D os c h', os.Perm ks → os.Pairwise (fun a b => lexI a.2 b.2 = true) → Fr h₀ L h' m → News h₀ L h' ((D, PySem.W.listOf (refsOf os).toArray c) :: news) → (∀ q ∈ news, q.1 < D) → Q (.ref D) { s with heap := h' }) :
    wpAny (model prog w) A (call (.builtin "sorted") [.ref l]) Q E s := by
  have hvl : (refsOf ks).length = ks.length := by simp [refsOf]
  have gd : ∀ i, i < ks.length → (refsOf ks).getD i Value.none = .ref (ks.getD i (0, [])).1 := by
    intro i hi
    rw [List.getD_eq_getElem?_getD, List.getD_eq_getElem?_getD, refsOf, List.getElem?_map, List.getElem?_eq_getElem hi]; rfl
  have gm : ∀ i, i < ks.length → ks.getD i (0, []) ∈ ks := by
    intro i hi
    rw [List.getD_eq_getElem?_getD, List.getElem?_eq_getElem hi]; exact List.getElem_mem hi
  refine kas_sorted (T := .type "list") F N hl (by rw [hvl]; exact h2) (by rw [hvl]; exact h64) ?_ (by decide) ?_
  · intro h' F' N' v hv
    obtain ⟨k, hk', rfl⟩ := List.mem_map.mp hv
    obtain ⟨⟨vs, ⟨o, ho, hc, _⟩, _⟩, _⟩ := hk h' F' N' k hk'
    exact fun A Q E s kk q => wpAny_typeOf ⟨o, kk _ _ ho, hc⟩ q
  · intro D e1 h' F' N' hlt
    rw [hvl]
    have hN1 : 1 ≤ ks.length := by omega
    let lt : Nat → Nat → Bool := fun i j => lexI (ks.getD i (0, [])).2 (ks.getD j (0, [])).2
    have T : TotalLt lt ks.length := by
      refine ⟨fun a b c _ _ _ h1 h2 => lexI_tr h1 h2, fun a b ha hb hne h1 => lexI_tot (fun q => hne ?_) h1⟩
      have e1 : (ks.map (·.2))[a]'(by simpa using ha) = (ks.map (·.2))[b]'(by simpa using hb) := by
        rw [List.getD_eq_getElem?_getD, List.getD_eq_getElem?_getD, List.getElem?_eq_getElem ha, List.getElem?_eq_getElem hb] at q
        simpa using q
      rcases Nat.lt_trichotomy a b with hab | hab | hab
      · exact absurd e1 (List.pairwise_iff_getElem.mp hnd a b (by simpa using ha) (by simpa using hb) hab)
      · exact hab
      · exact absurd e1.symm (List.pairwise_iff_getElem.mp hnd b a (by simpa using hb) (by simpa using ha) hab)
    have hK := hk h' F' fun p hp => N' p (.tail _ hp)
    obtain ⟨p, ep, hp, hup⟩ := sort_run T hN1
    refine kas_run_at lt _ (kas_sort ks.length) (sort_ok hN1) (fun i j C hi hj hC => ?_) ?_
    · show wpAny _ _ (keyLt' oneType' ((refsOf ks).getD i Value.none) ((refsOf ks).getD j Value.none)) _ _ _
      rw [gd i hi, gd j hj]
      obtain ⟨⟨vs, q1, q2⟩, q3⟩ := hK _ (gm i hi)
      obtain ⟨⟨ws, r1, r2⟩, r3⟩ := hK _ (gm j hj)
      exact keyLt_list (by show A.units + 1 + 1 < cLine; omega) q1 r1 q2 r2 (by omega) hC
    · rw [ep]
      have hall : ∀ i ∈ p.toList, i < ks.length := fun i hi => List.mem_range.mp (hp.2.mem_iff.mp hi)
      have eo : (p.toList.map fun i => (refsOf ks).getD i Value.none) = refsOf (p.toList.map fun i => ks.getD i (0, [])) := by
        unfold refsOf
        rw [List.map_map]
        exact List.map_congr_left fun i hi => gd i (hall i hi)
      rw [eo]
      refine KasFin.intro F' N' (.head fun q hq => Nat.ne_of_lt (hlt q hq)) fun h'' c F'' N'' => ?_
      refine h D (p.toList.map fun i => ks.getD i (0, [])) c h'' ?_ ?_ F'' N'' hlt
      · have := hp.2.map fun i => ks.getD i (0, [])
        refine this.trans ?_
        have e : (List.range ks.length).map (fun i => ks.getD i (0, [])) = ks := by
          apply List.ext_getElem?
          intro i
          rw [List.getElem?_map]
          by_cases hi : i < ks.length
          · rw [List.getElem?_range hi, List.getElem?_eq_getElem hi]
            show some (ks.getD i (0, [])) = _
            rw [List.getD_eq_getElem?_getD, List.getElem?_eq_getElem hi]; rfl
          · rw [List.getElem?_eq_none (by simpa using hi), List.getElem?_eq_none (by omega)]; rfl
        rw [e]
      · rw [List.pairwise_map, List.pairwise_iff_getElem]
        intro i j hi hj hij
        have hi' : i < p.size := by simpa using hi
        have hj' : j < p.size := by simpa using hj
        have := hup i j hij (by rw [← hp.1]; exact hj')
        rw [at0_eq, at0_eq, Array.getElem?_eq_getElem hi', Array.getElem?_eq_getElem hj'] at this
        have e1 : p.toList[i] = p[i] := by simp
        have e2 : p.toList[j] = p[j] := by simp
        rw [e1, e2]
        exact this
end
end Mine
end
section
open PySem PySem.W PyProof.Rows PySem.Calls
open MeetsSeq MeetsSeq2 MeetsSeq3 SeqAt
set_option Elab.async false
set_option maxRecDepth 100000
set_option maxHeartbeats 8000000
namespace Mine
/-- a pair of numbers lies there -/
def PairT (h : Heap) (a : Addr) (fs : List Int) : Prop := ∃ o n x y t u, h.get? a = some o ∧ o.cls = .type "tuple" ∧ o.data = .seq #[.int x t, .int y u] n ∧ fs = [x, y]
def PairsAt (h : Heap) (ks : List (Addr × List Int)) : Prop := ∀ k ∈ ks, PairT h k.1 k.2
theorem katTups_of {h : Heap} : ∀ {ks : List (Addr × List Int)}, PairsAt h ks → ∃ fs, KatTups h (refsOf ks) fs ∧ fs.length = ks.length ∧ ∀ v ∈ fs, ∃ n t, v = Value.int n t
  | [], _ => ⟨[], trivial, rfl, fun _ h => nomatch h⟩
  | k :: ks, hk => by
    obtain ⟨fs, a, b, c⟩ := katTups_of (ks := ks) fun q hq => hk q (.tail _ hq)
    obtain ⟨o, n, x, y, t, u, h1, h2, h3, h4⟩ := hk k (.head _)
    refine ⟨.int x t :: fs, KatTups.cons h1 h2 h3 rfl a, by simp [b], fun v hv => ?_⟩
    rcases List.mem_cons.mp hv with rfl | hv
    · exact ⟨_, _, rfl⟩
    · exact c v hv

section
variable {prog : Program} {w : World} {A : Around} {E : Value → Shared → Prop} {s : Shared}
theorem keyLt_pair {Q : Bool → Shared → Prop} {l b : Addr} {fs gs : List Int} (hl : PairT s.heap l fs) (hb : PairT s.heap b gs) (h : Q (lexI fs gs) s) :
    wpAny (model prog w) A (keyLt' (tuples' true) (.ref l) (.ref b)) Q E s := by
  obtain ⟨o, n, x, y, t, u, h1, h2, h3, rfl⟩ := hl
  obtain ⟨o', n', x', y', t', u', h1', h2', h3', rfl⟩ := hb
  refine kat_lt h1 h3 h1' h3' ?_
  show KatLex prog w A true _ Q [(.int x t, .int x' t'), (.int y u, .int y' u')] 0 s
  refine kat_cons (EqAt.int_int _ _ _ _ prog w _ _ ?_)
  cases e : x == x' with
  | true =>
    have ex : x = x' := by simpa using e
    rw [lexI, if_pos ex] at h
    refine kat_yes (kat_cons (EqAt.int_int _ _ _ _ prog w _ _ ?_))
    cases e2 : y == y' with
    | true =>
      have ey : y = y' := by simpa using e2
      rw [lexI, if_pos ey] at h
      exact kat_yes (kat_nil h)
    | false =>
      have ey : ¬ y = y' := by intro q; rw [q] at e2; simp at e2
      rw [lexI, if_neg ey] at h
      refine kat_no ?_
      show wpAny _ _ (oneLt' false _ _) _ _ _
      exact kat_one _ _ (lt_int h)
  | false =>
    have ex : ¬ x = x' := by intro q; rw [q] at e; simp at e
    rw [lexI, if_neg ex] at h
    refine kat_no ?_
    show wpAny _ _ (oneLt' true _ _) _ _ _
    exact oneLt_int h

theorem sorted_pairs {l : Addr} {ks : List (Addr × List Int)} {h₀ : Heap} {L : Addr} {m : Str → Option Value} {news : List (Addr × Obj)} {Q : Value → Shared → Prop} (F : Fr h₀ L s.heap m) (N : News h₀ L s.heap news) (hl : s.heap.IsList l (refsOf ks).toArray)
    (h2 : 2 ≤ ks.length) (h64 : ks.length < 64) (hk : ∀ h', Fr h₀ L h' m → News h₀ L h' news → PairsAt h' ks) (hnd : (ks.map (·.2)).Nodup)
    (h : ∀ D os c h', os.Perm ks → os.Pairwise (fun a b => lexI a.2 b.2 = true) → Fr h₀ L h' m → News h₀ L h' ((D, PySem.W.listOf (refsOf os).toArray c) :: news) → (∀ q ∈ news, q.1 < D) → Q (.ref D) { s with heap := h' }) :
    wpAny (model prog w) A (call (.builtin "sorted") [.ref l]) Q E s := by
  have hvl : (refsOf ks).length = ks.length := by simp [refsOf]
  have gd : ∀ i, i < ks.length → (refsOf ks).getD i Value.none = .ref (ks.getD i (0, [])).1 := by
    intro i hi
    rw [List.getD_eq_getElem?_getD, List.getD_eq_getElem?_getD, refsOf, List.getElem?_map, List.getElem?_eq_getElem hi]; rfl
  have gm : ∀ i, i < ks.length → ks.getD i (0, []) ∈ ks := by
    intro i hi
    rw [List.getD_eq_getElem?_getD, List.getElem?_eq_getElem hi]; exact List.getElem_mem hi
  refine kat_sorted F N hl (by rw [hvl]; exact h2) (by rw [hvl]; exact h64) ?_
  intro D e1 h' F' N' hlt
  rw [hvl]
  have hN1 : 1 ≤ ks.length := by omega
  let lt : Nat → Nat → Bool := fun i j => lexI (ks.getD i (0, [])).2 (ks.getD j (0, [])).2
  have T : TotalLt lt ks.length := by
    refine ⟨fun a b c _ _ _ h1 h2 => lexI_tr h1 h2, fun a b ha hb hne h1 => lexI_tot (fun q => hne ?_) h1⟩
    have e1 : (ks.map (·.2))[a]'(by simpa using ha) = (ks.map (·.2))[b]'(by simpa using hb) := by
      rw [List.getD_eq_getElem?_getD, List.getD_eq_getElem?_getD, List.getElem?_eq_getElem ha, List.getElem?_eq_getElem hb] at q
      simpa using q
    rcases Nat.lt_trichotomy a b with hab | hab | hab
    · exact absurd e1 (List.pairwise_iff_getElem.mp hnd a b (by simpa using ha) (by simpa using hb) hab)
    · exact hab
    · exact absurd e1.symm (List.pairwise_iff_getElem.mp hnd b a (by simpa using hb) (by simpa using ha) hab)
  have hK := hk h' F' fun p hp => N' p (.tail _ hp)
  obtain ⟨fs, t1, t2, t3⟩ := katTups_of hK
  obtain ⟨p, ep, hp, hup⟩ := sort_run T hN1
  refine kat_kind (T := .type "int") (s := { s with heap := h' }) t1 (by omega) (fun v hv => ?_) (by decide) ?_
  · obtain ⟨n, t, rfl⟩ := t3 v hv
    exact fun A Q E s kk q => wpAny_typeOf (typeIs_int s n t) q
  · show KasT.kasWp (kas_ask prog w A.in1.in1 (tuples' true) (refsOf ks)) _ _ _
    refine kas_run_at lt _ (kas_sort ks.length) (sort_ok hN1) (fun i j C hi hj hC => ?_) ?_
    · show wpAny _ _ (keyLt' (tuples' true) ((refsOf ks).getD i Value.none) ((refsOf ks).getD j Value.none)) _ _ _
      rw [gd i hi, gd j hj]
      exact keyLt_pair (hK _ (gm i hi)) (hK _ (gm j hj)) hC
    · rw [ep]
      have hall : ∀ i ∈ p.toList, i < ks.length := fun i hi => List.mem_range.mp (hp.2.mem_iff.mp hi)
      have eo : (p.toList.map fun i => (refsOf ks).getD i Value.none) = refsOf (p.toList.map fun i => ks.getD i (0, [])) := by
        unfold refsOf
        rw [List.map_map]
        exact List.map_congr_left fun i hi => gd i (hall i hi)
      rw [eo]
      refine KasFin.intro F' N' (.head fun q hq => Nat.ne_of_lt (hlt q hq)) fun h'' c F'' N'' => ?_
      refine h D (p.toList.map fun i => ks.getD i (0, [])) c h'' ?_ ?_ F'' N'' hlt
      · have := hp.2.map fun i => ks.getD i (0, [])
        refine this.trans ?_
        have e : (List.range ks.length).map (fun i => ks.getD i (0, [])) = ks := by
          apply List.ext_getElem?
          intro i
          rw [List.getElem?_map]
          by_cases hi : i < ks.length
          · rw [List.getElem?_range hi, List.getElem?_eq_getElem hi]
            show some (ks.getD i (0, [])) = _
            rw [List.getD_eq_getElem?_getD, List.getElem?_eq_getElem hi]; rfl
          · rw [List.getElem?_eq_none (by simpa using hi), List.getElem?_eq_none (by omega)]; rfl
        rw [e]
      · rw [List.pairwise_map, List.pairwise_iff_getElem]
        intro i j hi hj hij
        have hi' : i < p.size := by simpa using hi
        have hj' : j < p.size := by simpa using hj
        have := hup i j hij (by rw [← hp.1]; exact hj')
        rw [at0_eq, at0_eq, Array.getElem?_eq_getElem hi', Array.getElem?_eq_getElem hj'] at this
        have e1 : p.toList[i] = p[i] := by simp
        have e2 : p.toList[j] = p[j] := by simp
        rw [e1, e2]
        exact this
end
end Mine
end
section
open PySem PySem.W PyProof.Rows PySem.Calls
set_option Elab.async false
set_option maxRecDepth 100000
set_option maxHeartbeats 8000000
namespace Mine
structure KEnt where
  at' : Addr
  vs : List Value
  nn : Nat
  fs : List Int
def KEnt.ent (e : KEnt) : Addr × Obj := (e.at', PySem.W.listOf e.vs.toArray e.nn)
def KEnt.key (e : KEnt) : Addr × List Int := (e.at', e.fs)
def kOk (es : List KEnt) : Prop := ∀ e ∈ es, IntsAre e.vs e.fs ∧ e.fs.length = 10
def ddStep (acc : List Int) (x : Int) : List Int := if acc.any (fun y => figs y == figs x) then acc else acc ++ [x]
def dd (xs : List Int) : List Int := xs.foldl ddStep []
theorem dd_snoc (xs : List Int) (x : Int) : dd (xs ++ [x]) = ddStep (dd xs) x := by unfold dd; rw [List.foldl_append]; rfl
theorem dd_take {xs : List Int} {i : Nat} (hi : i < xs.length) : dd (xs.take (i + 1)) = ddStep (dd (xs.take i)) (xs.getD i 0) := by
  rw [List.take_add_one, List.getElem?_eq_getElem hi, Option.toList_some, dd_snoc, List.getD_eq_getElem?_getD, List.getElem?_eq_getElem hi]; rfl
theorem ddStep_len (acc : List Int) (x : Int) : (ddStep acc x).length ≤ acc.length + 1 := by
  unfold ddStep; split
  · omega
  · rw [List.length_append]; exact Nat.le_refl _
theorem dd_len_aux (xs : List Int) : ∀ acc : List Int, (xs.foldl ddStep acc).length ≤ acc.length + xs.length := by
  induction xs with
  | nil => intro acc; exact Nat.le_refl _
  | cons x r ih =>
    intro acc
    have := ih (ddStep acc x)
    have := ddStep_len acc x
    rw [List.foldl_cons, List.length_cons]; omega
theorem dd_len (xs : List Int) : (dd xs).length ≤ xs.length := by unfold dd; have := dd_len_aux xs []; simpa using this
theorem keysAt_of {h₀ h : Heap} {L : Addr} {news : List (Addr × Obj)} {es : List KEnt} (N : News h₀ L h news) (sub : ∀ e ∈ es, e.ent ∈ news) (ok : kOk es) : KeysAt h (es.map KEnt.key) := by
  intro k hk
  obtain ⟨e, he, rfl⟩ := List.mem_map.mp hk
  exact ⟨⟨e.vs, ⟨_, (N _ (sub e he)).1, rfl, _, rfl⟩, (ok e he).1⟩, (ok e he).2⟩
theorem figs_len (x : Int) : (figs x).length = 10 := rfl
theorem any_dd {es : List KEnt} {acc gs : List Int} (h : es.map KEnt.fs = acc.map figs) : ((es.map KEnt.key).any fun k => k.2 == gs) = acc.any fun y => figs y == gs := by
  have e1 : ((es.map KEnt.key).any fun k => k.2 == gs) = (es.map KEnt.fs).any (· == gs) := by rw [List.any_map, List.any_map]; rfl
  rw [e1, h, List.any_map]; rfl
def LawJ (xs : List Int) (root : Str) (tr : Tok) (D : Addr) (oD : Obj) (c1 c2 c3 : Addr × Obj) (i : Nat) (m : Str → Option Value) (news : List (Addr × Obj)) : Prop :=
  ∃ om ok mvs n1 n2 es, news = (om, PySem.W.listOf mvs.toArray n1) :: (ok, PySem.W.listOf (refsOf (es.map KEnt.key)).toArray n2) :: (D, oD) :: c1 :: c2 :: c3 :: es.map KEnt.ent ∧
    IntsAre mvs (dd (xs.take i)) ∧ es.map KEnt.fs = (dd (xs.take i)).map figs ∧ kOk es ∧
    (@Ne Nat om ok ∧ @Ne Nat om D ∧ @Ne Nat om c1.1 ∧ @Ne Nat om c2.1 ∧ @Ne Nat om c3.1 ∧ @Ne Nat ok D ∧ @Ne Nat ok c1.1 ∧ @Ne Nat ok c2.1 ∧ @Ne Nat ok c3.1) ∧
    (∀ p ∈ es.map KEnt.ent, p.1 ≠ om) ∧ (∀ p ∈ es.map KEnt.ent, p.1 ≠ ok) ∧ (∀ p ∈ es.map KEnt.ent, p.1 ≠ c1.1) ∧ (∀ p ∈ es.map KEnt.ent, p.1 ≠ c2.1) ∧ (∀ p ∈ es.map KEnt.ent, p.1 ≠ c3.1) ∧
    m (Str.ofString "modes") = some (.ref om) ∧ m (Str.ofString "keys") = some (.ref ok) ∧ m (Str.ofString "root") = some (.str root tr)

theorem append_led {prog : Program} {w : World} {A : Around} {E : Value → Shared → Prop} {s : Shared} {Q : Value → Shared → Prop} {h₀ : Heap} {L D : Addr} {m : Str → Option Value} {news : List (Addr × Obj)} {its : Array Value} {n : Nat} {v : Value}
    (F : Fr h₀ L s.heap m) (N : News h₀ L s.heap news) (hm : (D, PySem.W.listOf its n) ∈ news) (hsz : its.size ≤ 1000) (rest : List (Addr × Obj)) (sub : ∀ p ∈ rest, p ∈ news) (off : ∀ p ∈ rest, p.1 ≠ D)
    (k : ∀ h', Fr h₀ L h' m → News h₀ L h' ((D, PySem.W.listOf (its.push v) (n + 1)) :: rest) → Q .none { s with heap := h' }) :
    wpAny (model prog w) A (call (.builtin "list.append") [.ref D, v]) Q E s := by
  have z := N _ hm
  refine append_at (hsz := by rw [sizeLine_eq]; omega) z.1 fun h' hs ho => ?_
  have up : ∀ b o, b ≠ D → s.heap.get? b = some o → h'.get? b = some o := fun b o hb e => hs.extBut b o hb e
  refine k h' (Fr.upd F up (Ne.symm z.2.1) z.2.2) fun p hp => ?_
  rcases List.mem_cons.mp hp with rfl | hp
  · exact ⟨ho, z.2⟩
  · exact ⟨up _ _ (off p hp) (N p (sub p hp)).1, (N p (sub p hp)).2⟩

theorem law_no {xs : List Int} {root : Str} {tr : Tok} {D : Addr} {oD : Obj} {c1 c2 c3 : Addr × Obj} {i : Nat} {h₀ h' : Heap} {L I : Addr} {it : Obj} {m' : Str → Option Value} {all : List (Addr × Obj)} {s₁ : Shared} {tk : Nat}
    {om ok : Addr} {mvs : List Value} {n1 n2 : Nat} {es : List KEnt} (F : Fr h₀ L h' m') (N : News h₀ L h' all) (hI : (I, it) ∈ all)
    (sub : ∀ p ∈ (om, PySem.W.listOf mvs.toArray n1) :: (ok, PySem.W.listOf (refsOf (es.map KEnt.key)).toArray n2) :: (D, oD) :: c1 :: c2 :: c3 :: es.map KEnt.ent, p ∈ all)
    (off : ∀ p ∈ (om, PySem.W.listOf mvs.toArray n1) :: (ok, PySem.W.listOf (refsOf (es.map KEnt.key)).toArray n2) :: (D, oD) :: c1 :: c2 :: c3 :: es.map KEnt.ent, p.1 ≠ I)
    (hi : i < xs.length) (hmv : IntsAre mvs (dd (xs.take i))) (hes : es.map KEnt.fs = (dd (xs.take i)).map figs) (hok : kOk es)
    (hd : @Ne Nat om ok ∧ @Ne Nat om D ∧ @Ne Nat om c1.1 ∧ @Ne Nat om c2.1 ∧ @Ne Nat om c3.1 ∧ @Ne Nat ok D ∧ @Ne Nat ok c1.1 ∧ @Ne Nat ok c2.1 ∧ @Ne Nat ok c3.1)
    (ha : ∀ p ∈ es.map KEnt.ent, p.1 ≠ om) (hb : ∀ p ∈ es.map KEnt.ent, p.1 ≠ ok) (k1 : ∀ p ∈ es.map KEnt.ent, p.1 ≠ c1.1) (k2 : ∀ p ∈ es.map KEnt.ent, p.1 ≠ c2.1) (k3 : ∀ p ∈ es.map KEnt.ent, p.1 ≠ c3.1)
    (m1 : m' (Str.ofString "modes") = some (.ref om)) (m2 : m' (Str.ofString "keys") = some (.ref ok)) (m3 : m' (Str.ofString "root") = some (.str root tr))
    (hany : ((es.map KEnt.key).any fun k => k.2 == figs (xs.getD i 0)) = true) :
    TnEnd h₀ L I it (LawJ xs root tr D oD c1 c2 c3 (i + 1)) s₁ { s₁ with heap := h', toks := tk } := by
  rw [any_dd hes] at hany
  have e : dd (xs.take (i + 1)) = dd (xs.take i) := by rw [dd_take hi, ddStep, if_pos hany]
  exact TnEnd.intro F N _ hI sub off ⟨om, ok, mvs, n1, n2, es, rfl, e ▸ hmv, e ▸ hes, hok, hd, ha, hb, k1, k2, k3, m1, m2, m3⟩

theorem law_yes {xs : List Int} {root : Str} {tr : Tok} {D : Addr} {oD : Obj} {c1 c2 c3 : Addr × Obj} {i : Nat} {h₀ h' : Heap} {L I : Addr} {it : Obj} {m' : Str → Option Value} {s₁ : Shared} {tk : Nat}
    {om ok : Addr} {mvs : List Value} {n1 n2 : Nat} {es : List KEnt} {e : KEnt} {t : Tok} (F : Fr h₀ L h' m')
    (N : News h₀ L h' ((ok, PySem.W.listOf ((refsOf (es.map KEnt.key)).toArray.push (.ref e.at')) n2) :: e.ent :: (I, it) :: (om, PySem.W.listOf (mvs.toArray.push (.int (xs.getD i 0) t)) n1) :: (D, oD) :: c1 :: c2 :: c3 :: es.map KEnt.ent))
    (off : @Ne Nat om I ∧ @Ne Nat ok I ∧ @Ne Nat D I ∧ @Ne Nat c1.1 I ∧ @Ne Nat c2.1 I ∧ @Ne Nat c3.1 I) (offs : ∀ p ∈ es.map KEnt.ent, p.1 ≠ I)
    (ne : @Ne Nat e.at' I ∧ @Ne Nat e.at' om ∧ @Ne Nat e.at' ok ∧ @Ne Nat e.at' c1.1 ∧ @Ne Nat e.at' c2.1 ∧ @Ne Nat e.at' c3.1)
    (hi : i < xs.length) (hmv : IntsAre mvs (dd (xs.take i))) (hes : es.map KEnt.fs = (dd (xs.take i)).map figs) (hok : kOk es) (he : IntsAre e.vs (figs (xs.getD i 0))) (hef : e.fs = figs (xs.getD i 0))
    (hd : @Ne Nat om ok ∧ @Ne Nat om D ∧ @Ne Nat om c1.1 ∧ @Ne Nat om c2.1 ∧ @Ne Nat om c3.1 ∧ @Ne Nat ok D ∧ @Ne Nat ok c1.1 ∧ @Ne Nat ok c2.1 ∧ @Ne Nat ok c3.1)
    (ha : ∀ p ∈ es.map KEnt.ent, p.1 ≠ om) (hb : ∀ p ∈ es.map KEnt.ent, p.1 ≠ ok) (k1 : ∀ p ∈ es.map KEnt.ent, p.1 ≠ c1.1) (k2 : ∀ p ∈ es.map KEnt.ent, p.1 ≠ c2.1) (k3 : ∀ p ∈ es.map KEnt.ent, p.1 ≠ c3.1)
    (m1 : m' (Str.ofString "modes") = some (.ref om)) (m2 : m' (Str.ofString "keys") = some (.ref ok)) (m3 : m' (Str.ofString "root") = some (.str root tr))
    (hany : ((es.map KEnt.key).any fun k => k.2 == figs (xs.getD i 0)) = false) :
    TnEnd h₀ L I it (LawJ xs root tr D oD c1 c2 c3 (i + 1)) s₁ { s₁ with heap := h', toks := tk } := by
  rw [any_dd hes] at hany
  have e1 : dd (xs.take (i + 1)) = dd (xs.take i) ++ [xs.getD i 0] := by rw [dd_take hi, ddStep, if_neg (by rw [hany]; exact Bool.false_ne_true)]
  have p1 : (refsOf (es.map KEnt.key)).toArray.push (.ref e.at') = (refsOf ((es ++ [e]).map KEnt.key)).toArray := by simp [refsOf, KEnt.key]
  have p2 : mvs.toArray.push (Value.int (xs.getD i 0) t) = (mvs ++ [Value.int (xs.getD i 0) t]).toArray := by simp
  rw [p1, p2] at N
  have hmem : ∀ {p : Addr × Obj}, p ∈ (es ++ [e]).map KEnt.ent → p ∈ es.map KEnt.ent ∨ p = e.ent := fun {p} hp => by
    rw [List.map_append, List.mem_append] at hp
    exact hp.imp id fun h => by simpa using h
  have both : ∀ a : Addr, (∀ p ∈ es.map KEnt.ent, p.1 ≠ a) → @Ne Nat e.at' a → ∀ p ∈ (es ++ [e]).map KEnt.ent, p.1 ≠ a := fun a h1 h2 p hp => (hmem hp).elim (h1 p) fun q => q ▸ h2
  refine TnEnd.intro F N ((om, PySem.W.listOf (mvs ++ [Value.int (xs.getD i 0) t]).toArray n1) :: (ok, PySem.W.listOf (refsOf ((es ++ [e]).map KEnt.key)).toArray n2) :: (D, oD) :: c1 :: c2 :: c3 :: (es ++ [e]).map KEnt.ent) (.tail _ (.tail _ (.head _))) ?_ ?_
    ⟨om, ok, _, n1, n2, es ++ [e], rfl, ?_, ?_, ?_, hd, both _ ha ne.2.1, both _ hb ne.2.2.1, both _ k1 ne.2.2.2.1, both _ k2 ne.2.2.2.2.1, both _ k3 ne.2.2.2.2.2, m1, m2, m3⟩
  · intro p hp
    simp only [List.mem_cons] at hp ⊢
    rcases hp with h | h | h | h | h | h | h
    · simp [h]
    · simp [h]
    · simp [h]
    · simp [h]
    · simp [h]
    · simp [h]
    · rcases hmem h with h | h
      · simp [h]
      · simp [h]
  · intro p hp
    simp only [List.mem_cons] at hp
    rcases hp with h | h | h | h | h | h | h
    · rw [h]; exact off.1
    · rw [h]; exact off.2.1
    · rw [h]; exact off.2.2.1
    · rw [h]; exact off.2.2.2.1
    · rw [h]; exact off.2.2.2.2.1
    · rw [h]; exact off.2.2.2.2.2
    · exact both I offs ne.1 p h
  · rw [e1]; exact hmv.append (.cons _ _ .nil)
  · rw [e1, List.map_append, List.map_append, hes, List.map_singleton, List.map_singleton, hef]
  · intro z hz
    rcases List.mem_append.mp hz with hz | hz
    · exact hok z hz
    · rw [List.mem_singleton.mp hz, hef]; exact ⟨he, rfl⟩
end Mine
end
section
open PySem PySem.W PyProof.Rows PySem.Calls
set_option Elab.async false
set_option maxRecDepth 100000
set_option maxHeartbeats 8000000
namespace Mine
section
variable {prog : Program} {w : World} {A : Around} {E : Value → Shared → Prop} {env : Env} {s : Shared}
variable {elt target : Expr} {ifs : List Expr} {scope : Scope} {cl : List (Str × Addr)} {J : Nat → List Value → List (Addr × Obj) → Prop}
  {h₀ : Heap} {L : Addr} {m : Str → Option Value} {news : List (Addr × Obj)}
theorem ne31 (n : Nat) : n + 1 + 1 + 1 ≠ n + 1 := by omega
theorem ne32 (n : Nat) : n + 1 + 1 + 1 ≠ n + 1 + 1 := by omega
theorem ne21 (n : Nat) : n + 1 + 1 ≠ n + 1 := by omega
theorem storeC_led {Q : Unit → Shared → Prop} {x : Str} {v : Value} {c : Addr} {o : Obj} {v₀ : Option Value} (F : Fr h₀ L s.heap m) (N : News h₀ L s.heap news) (hm : (c, o) ∈ news) (hd : o.data = .cell v₀) (rest : List (Addr × Obj)) (sub : ∀ p ∈ rest, p ∈ news) (noc : ∀ p ∈ rest, p.1 ≠ c)
    (hk : env.scope.kind = .function) (hy : env.kindOf x = some .cell) (hc : env.cells.lookup x = some c)
    (k : ∀ h' o', Fr h₀ L h' m → News h₀ L h' ((c, o') :: rest) → o'.data = .cell (some v) → Q () { s with heap := h' }) :
    wpAny (model prog w) A (storeName env x v) Q E s := by
  have z := N _ hm
  refine wpAny_storeName_cell hk hy hc ⟨o, z.1, hd⟩ fun h' hv hs => ?_
  obtain ⟨o', ho', hd'⟩ := hv
  have up : ∀ b o, b ≠ c → s.heap.get? b = some o → h'.get? b = some o := fun b o hb e => hs.extBut b o hb e
  refine k h' o' (Fr.upd F up (Ne.symm z.2.1) z.2.2) (fun p hp => ?_) hd'
  rcases List.mem_cons.mp hp with rfl | hp
  · exact ⟨ho', z.2⟩
  · exact ⟨up _ _ (noc p hp) (N p (sub p hp)).1, (N p (sub p hp)).2⟩
theorem store_comp {Q : Unit → Shared → Prop} {x : Str} {v : Value} {C : Addr} {hb : Heap} (F : Fr hb C s.heap m) (N : News hb C s.heap news) (hx : scope.names.lookup x = some .local) (hkind : scope.kind = .function)
    (k : ∀ h', Fr hb C h' (fun y => if y = x then some v else m y) → News hb C h' news → Q () { s with heap := h', toks := s.toks + 1 }) :
    wpAny (model prog w) A (storeName (compEnvC scope cl C env) x v) Q E s :=
  wpAny_storeName_local (lookup_relabel_local hx) F.ns (fun h₂ hn₂ hs₂ => k h₂ (F.set hn₂ hs₂) (PyProof.Rows.News.set N hs₂)) (by simp [compEnvC, relabel, hkind])
end
end Mine
end
section
open PySem PySem.W PyProof.Rows PySem.Calls
open MeetsSeq MeetsSeq2 MeetsSeq3 SeqAt
set_option Elab.async false
set_option maxRecDepth 100000
set_option maxHeartbeats 4000000
namespace Mine
theorem ddStep_nodup {acc : List Int} (h : (acc.map figs).Nodup) (x : Int) : ((ddStep acc x).map figs).Nodup := by
  unfold ddStep
  split
  · exact h
  · rename_i hn
    rw [List.map_append, List.nodup_append]
    refine ⟨h, by simp, fun a ha b hb e => hn ?_⟩
    rw [List.map_singleton, List.mem_singleton] at hb
    subst hb
    obtain ⟨y, hy, rfl⟩ := List.mem_map.mp ha
    exact List.any_eq_true.mpr ⟨y, hy, by rw [e]; exact beq_self_eq_true _⟩
theorem dd_nodup (xs : List Int) : ((dd xs).map figs).Nodup := by
  have key : ∀ xs acc : List Int, (acc.map figs).Nodup → ((xs.foldl ddStep acc).map figs).Nodup := by
    intro xs
    induction xs with
    | nil => intro acc h; exact h
    | cons x r ih => intro acc h; exact ih _ (ddStep_nodup h x)
  exact key xs [] .nil
theorem ddStep_sub {acc : List Int} {x y : Int} (h : y ∈ acc) : y ∈ ddStep acc x := by
  unfold ddStep; split
  · exact h
  · exact List.mem_append_left _ h
theorem ddStep_self (acc : List Int) (x : Int) : figs x ∈ (ddStep acc x).map figs := by
  unfold ddStep; split
  · rename_i h
    obtain ⟨y, hy, e⟩ := List.any_eq_true.mp h
    exact List.mem_map.mpr ⟨y, hy, by simpa using e⟩
  · exact List.mem_map_of_mem (List.mem_append_right _ (.head _))
theorem dd_mem (xs : List Int) : ∀ x ∈ xs, figs x ∈ (dd xs).map figs := by
  have key : ∀ xs acc : List Int, (∀ x ∈ xs, figs x ∈ (xs.foldl ddStep acc).map figs) ∧ ∀ y ∈ acc, y ∈ xs.foldl ddStep acc := by
    intro xs
    induction xs with
    | nil => intro acc; exact ⟨(fun _ h => nomatch h), fun _ h => h⟩
    | cons x r ih =>
      intro acc
      obtain ⟨i1, i2⟩ := ih (ddStep acc x)
      refine ⟨fun z hz => ?_, fun y hy => i2 y (ddStep_sub hy)⟩
      rcases List.mem_cons.mp hz with rfl | hz
      · obtain ⟨y, hy, e⟩ := List.mem_map.mp (ddStep_self acc z)
        exact List.mem_map.mpr ⟨y, i2 y hy, e⟩
      · exact i1 z hz
  exact (key xs []).1
theorem two_figs : figs 35300 ≠ figs 17389 := by decide +kernel
theorem dd_two {xs : List Int} (h1 : 35300 ∈ xs) (h2 : 17389 ∈ xs) : 2 ≤ (dd xs).length := by
  have a := dd_mem xs _ h1
  have b := dd_mem xs _ h2
  rw [← List.length_map (f := figs)]
  generalize (dd xs).map figs = l at *
  match l, a, b with
  | [], a, _ => cases a
  | [z], a, b =>
    rw [List.mem_singleton] at a b
    exact absurd (a.trans b.symm) two_figs
  | _ :: _ :: _, _, _ => simp
theorem keys_fs (es : List KEnt) : (es.map KEnt.key).map (·.2) = es.map KEnt.fs := by rw [List.map_map]; rfl
/-- the place of a key among the sorted ones -/
def rk (os : List (Addr × List Int)) (f : List Int) : Nat := (os.map (·.2)).idxOf f
theorem rk_lt {os : List (Addr × List Int)} {f : List Int} (h : f ∈ os.map (·.2)) : rk os f < os.length := by
  have := List.idxOf_lt_length_of_mem h
  rwa [List.length_map] at this
theorem rk_at {os : List (Addr × List Int)} {f : List Int} (h : f ∈ os.map (·.2)) : (os.getD (rk os f) (0, [])).2 = f := by
  have hl := rk_lt h
  rw [List.getD_eq_getElem?_getD, List.getElem?_eq_getElem hl, Option.getD_some]
  have := List.getElem_idxOf (xs := os.map (·.2)) (x := f) (List.idxOf_lt_length_of_mem h)
  rw [List.getElem_map] at this
  exact this
theorem rk_no {os : List (Addr × List Int)} {f : List Int} {m : Nat} (hm : m < rk os f) : (os.getD m (0, [])).2 ≠ f := by
  intro e
  by_cases hl : m < os.length
  · rw [List.getD_eq_getElem?_getD, List.getElem?_eq_getElem hl, Option.getD_some] at e
    have h2 : (os.map (·.2))[m]'(by simpa using hl) = f := by rw [List.getElem_map]; exact e
    have := List.not_of_lt_findIdx (p := fun x => x == f) (xs := os.map (·.2)) (i := m) (by simpa [rk, List.idxOf] using hm)
    simp [h2] at this
  · have : rk os f ≤ os.length := by
      have := List.idxOf_le_length (a := f) (l := os.map (·.2))
      rwa [List.length_map] at this
    omega
theorem keysAt_keep {h h' : Heap} {ks : List (Addr × List Int)} (x : KeysAt h ks) (k : ∀ b o, h.get? b = some o → h'.get? b = some o) : KeysAt h' ks := fun q hq => ⟨(x q hq).1.stays (k _), (x q hq).2⟩
structure TEnt where
  at' : Addr
  p : Int
  tp : Tok
  r : Int
  tr : Tok
def TEnt.ent (e : TEnt) : Addr × Obj := (e.at', { cls := .type "tuple", data := .seq #[.int e.p e.tp, .int e.r e.tr] })
def TEnt.fs (e : TEnt) : List Int := [e.p, e.r]
def TEnt.key (e : TEnt) : Addr × List Int := (e.at', e.fs)
def DueJ (rs : List Int) (i : Nat) (ys : List Value) (fz : List (Addr × Obj)) : Prop :=
  ∃ ts : List TEnt, ys = refsOf (ts.map TEnt.key) ∧ fz = ts.reverse.map TEnt.ent ∧ ts.map TEnt.fs = (List.range i).map fun j => [((placeF rs j : Nat) : Int), rs.getD j 0]
theorem pairsAt_of {h₀ h : Heap} {L : Addr} {news : List (Addr × Obj)} {ts : List TEnt} (N : News h₀ L h news) (sub : ∀ e ∈ ts, e.ent ∈ news) : PairsAt h (ts.map TEnt.key) := by
  intro k hk
  obtain ⟨e, he, rfl⟩ := List.mem_map.mp hk
  exact ⟨_, 0, e.p, e.r, e.tp, e.tr, (N _ (sub e he)).1, rfl, rfl, rfl⟩
theorem due_end {rs : List Int} {i : Nat} {ts : List TEnt} {T : Addr} {p r : Int} {tp tr : Tok} {hb h' : Heap} {C I D : Addr} {it acc : Obj} {m' : Str → Option Value} {s₁ : Shared} {tk : Nat} {P : Prop}
    (F : Fr hb C h' m') (N : News hb C h' ((T, { cls := .type "tuple", data := .seq #[.int p tp, .int r tr] }) :: (I, it) :: (D, acc) :: ts.reverse.map TEnt.ent)) (l : @LT.lt Nat _ I T ∧ @LT.lt Nat _ D T ∧ P)
    (off : ∀ q ∈ ts.reverse.map TEnt.ent, q.1 ≠ I ∧ q.1 ≠ D) (hts : ts.map TEnt.fs = (List.range i).map fun j => [((placeF rs j : Nat) : Int), rs.getD j 0]) (ep : p = (placeF rs i : Nat)) (er : r = rs.getD i 0) :
    CpEnd hb C I it D acc (DueJ rs (i + 1) (refsOf (ts.map TEnt.key) ++ [.ref T])) s₁ { s₁ with heap := h', toks := tk } := by
  refine CpEnd.intro F N ((ts ++ [TEnt.mk T p tp r tr]).reverse.map TEnt.ent) (.tail _ (.head _)) (.tail _ (.tail _ (.head _))) ?_ ?_ ⟨ts ++ [TEnt.mk T p tp r tr], ?_, rfl, ?_⟩
  · intro q hq
    simp only [List.reverse_append, List.reverse_cons, List.reverse_nil, List.nil_append, List.map_append, List.map_cons, List.map_nil, List.mem_append, List.mem_cons, List.not_mem_nil, or_false] at hq ⊢
    rcases hq with hq | hq
    · left; exact hq
    · right; right; right; exact hq
  · intro q hq
    simp only [List.reverse_append, List.reverse_cons, List.reverse_nil, List.nil_append, List.map_append, List.map_cons, List.map_nil, List.mem_append, List.mem_cons, List.not_mem_nil, or_false] at hq
    rcases hq with hq | hq
    · rw [hq]; exact ⟨Nat.ne_of_gt l.1, Nat.ne_of_gt l.2.1⟩
    · exact off q hq
  · simp [refsOf, TEnt.key]
  · rw [List.map_append, hts, List.range_succ, List.map_append, List.map_singleton, List.map_singleton, TEnt.fs, ep, er]
theorem rk_inj {os : List (Addr × List Int)} {f g : List Int} (hf : f ∈ os.map (·.2)) (hg : g ∈ os.map (·.2)) (h : rk os f = rk os g) : f = g := by
  rw [← rk_at hf, ← rk_at hg, h]
theorem rs_nodup {os : List (Addr × List Int)} {es : List KEnt} (hmem : ∀ e ∈ es, e.fs ∈ os.map (·.2)) (hnd : (es.map KEnt.fs).Nodup) : (es.map fun e => ((rk os e.fs : Nat) : Int)).Nodup := by
  unfold List.Nodup at hnd ⊢
  rw [List.pairwise_map] at hnd ⊢
  refine hnd.imp_of_mem fun {a b} ha hb hne e => hne ?_
  exact rk_inj (hmem a ha) (hmem b hb) (by exact_mod_cast e)
theorem due_nodup {rs : List Int} {ts : List TEnt} (hts : ts.map TEnt.fs = (List.range rs.length).map fun j => [((placeF rs j : Nat) : Int), rs.getD j 0]) (hn : rs.Nodup) : ((ts.map TEnt.key).map (·.2)).Nodup := by
  have e : (ts.map TEnt.key).map (·.2) = ts.map TEnt.fs := by rw [List.map_map]; rfl
  rw [e, hts]
  unfold List.Nodup
  rw [List.pairwise_map]
  have hr : (List.range rs.length).Nodup := List.nodup_range
  refine hr.imp_of_mem fun {a b} ha hb hne e => hne ?_
  rw [List.mem_range] at ha hb
  have e2 : rs.getD a 0 = rs.getD b 0 := by injection e with _ e; injection e
  rw [List.getD_eq_getElem?_getD, List.getD_eq_getElem?_getD, List.getElem?_eq_getElem ha, List.getElem?_eq_getElem hb] at e2
  have e3 : rs[a] = rs[b] := e2
  rcases Nat.lt_trichotomy a b with h | h | h
  · exact absurd e3 (List.pairwise_iff_getElem.mp hn a b ha hb h)
  · exact h
  · exact absurd e3.symm (List.pairwise_iff_getElem.mp hn b a hb ha h)
theorem all_eqD {α : Type} [BEq α] [LawfulBEq α] [DecidableEq α] (d : α) {fs gs : List α} (hl : fs.length = gs.length) : (List.range fs.length).all (fun j => fs.getD j d == gs.getD j d) = decide (fs = gs) := by
  rw [Bool.eq_iff_iff, List.all_eq_true, decide_eq_true_eq]
  constructor
  · intro h
    apply List.ext_getElem?
    intro j
    by_cases hj : j < fs.length
    · have := h j (List.mem_range.mpr hj)
      rw [beq_iff_eq, List.getD_eq_getElem?_getD, List.getD_eq_getElem?_getD, List.getElem?_eq_getElem hj, List.getElem?_eq_getElem (hl ▸ hj)] at this
      rw [List.getElem?_eq_getElem hj, List.getElem?_eq_getElem (hl ▸ hj)]
      exact congrArg some this
    · rw [List.getElem?_eq_none (by omega), List.getElem?_eq_none (by omega)]
  · rintro rfl j _
    exact beq_self_eq_true _
theorem strValues_at {cs : List (Str × Tok)} {j : Nat} (h : j < (strValues cs).toArray.size) : ∃ t, (strValues cs).toArray[j] = .str ((cs.map (·.1)).getD j Str.empty) t := by
  have h' : j < cs.length := by simpa [strValues] using h
  refine ⟨cs[j].2, ?_⟩
  simp [strValues, List.getD_eq_getElem?_getD, h']
section
variable {prog : Program} {w : World} {A : Around} {E : Value → Shared → Prop} {s : Shared}
theorem eq_texts {a b : Addr} {cs ds : List (Str × Tok)} {Q : Value → Shared → Prop} (ha : s.heap.IsList a (strValues cs).toArray) (hb : s.heap.IsList b (strValues ds).toArray) (hl : cs.length = ds.length) (hu : A.units < cLine)
    (h : Q (.bool (decide (cs.map (·.1) = ds.map (·.1)))) s) : wpAny (model prog w) A (compareOp .Eq (.ref a) (.ref b)) Q E s := by
  refine eq_listAt (e := fun j => (cs.map (·.1)).getD j Str.empty == (ds.map (·.1)).getD j Str.empty) ha hb (by simpa [strValues] using hl) hu (fun j h1 h2 => ?_) ?_
  · obtain ⟨t1, e1⟩ := strValues_at h1
    obtain ⟨t2, e2⟩ := strValues_at h2
    rw [e1, e2]
    exact EqAt.str_str _ _ _ _
  · rw [show (strValues cs).toArray.size = (cs.map (·.1)).length by simp [strValues], all_eqD Str.empty (by simpa using hl)]
    exact h
theorem ne_texts {a b : Addr} {cs ds : List (Str × Tok)} {Q : Value → Shared → Prop} (ha : s.heap.IsList a (strValues cs).toArray) (hb : s.heap.IsList b (strValues ds).toArray) (hl : cs.length = ds.length) (hu : A.units < cLine)
    (h : Q (.bool (!decide (cs.map (·.1) = ds.map (·.1)))) s) : wpAny (model prog w) A (compareOp .NotEq (.ref a) (.ref b)) Q E s := by
  refine RcNeAt.lists (e := fun j => (cs.map (·.1)).getD j Str.empty == (ds.map (·.1)).getD j Str.empty) ha hb (by simpa [strValues] using hl) hu (fun j h1 h2 => ?_) prog w E Q ?_
  · obtain ⟨t1, e1⟩ := strValues_at h1
    obtain ⟨t2, e2⟩ := strValues_at h2
    rw [e1, e2]
    exact EqAt.str_str _ _ _ _
  · rw [show (strValues cs).toArray.size = (cs.map (·.1)).length by simp [strValues], all_eqD Str.empty (by simpa using hl)]
    exact h
end
theorem rs_bound {os : List (Addr × List Int)} {es : List KEnt} (hmem : ∀ e ∈ es, e.fs ∈ os.map (·.2)) {rs : List Int} (hrs : rs = es.map fun e => ((rk os e.fs : Nat) : Int)) : ∀ r ∈ rs, 0 ≤ r ∧ r < (os.length : Int) := by
  intro r hr
  rw [hrs] at hr
  obtain ⟨e, he, rfl⟩ := List.mem_map.mp hr
  have := rk_lt (hmem e he)
  omega
theorem ts_r {rs : List Int} {ts : List TEnt} (hts : ts.map TEnt.fs = (List.range rs.length).map fun j => [((placeF rs j : Nat) : Int), rs.getD j 0]) {e : TEnt} (he : e ∈ ts) : e.r ∈ rs := by
  have h1 : e.fs ∈ ts.map TEnt.fs := List.mem_map_of_mem he
  rw [hts] at h1
  obtain ⟨j, hj, e1⟩ := List.mem_map.mp h1
  rw [List.mem_range] at hj
  have e2 : rs.getD j 0 = e.r := by unfold TEnt.fs at e1; injection e1 with _ e1; injection e1
  rw [← e2, List.getD_eq_getElem?_getD, List.getElem?_eq_getElem hj]
  exact List.getElem_mem hj
theorem ssOut_len {α : Type} (lt : α → α → Bool) (xs : List α) : (ssOut lt xs).length = xs.length := by
  have := ssRun_len lt xs
  unfold ssOut
  rw [List.length_append]; omega
theorem ssOut_mem {α : Type} (lt : α → α → Bool) (xs : List α) : ∀ y ∈ ssOut lt xs, y ∈ xs := fun y hy => by
  unfold ssOut at hy
  rcases List.mem_append.mp hy with h | h
  · exact ssRun_mem lt xs y (.inr h)
  · exact ssRun_mem lt xs y (.inl h)
theorem take_snoc {α : Type} {l : List α} {i : Nat} {a : α} (h : l[i]? = some a) : l.take (i + 1) = l.take i ++ [a] := by rw [List.take_add_one, h]; rfl
end Mine
end
section
set_option Elab.async false
set_option maxRecDepth 100000
set_option maxHeartbeats 4000000
open PySem PySem.W PyProof.Rows PySem.Calls
namespace Mine
theorem and_shift (x y : Int) : ∀ k : Nat, Builtin.bitAnd x (2 ^ k * y) = 2 ^ k * Builtin.bitAnd (x / 2 ^ k) y
  | 0 => by simp
  | k + 1 => by
    have h := kbt_halves x (2 ^ (k + 1) * y)
    have e1 : (2 ^ (k + 1) * y : Int) / 2 = 2 ^ k * y := by
      rw [Int.pow_succ, Int.mul_comm (2 ^ k) 2, Int.mul_assoc]; exact Int.mul_ediv_cancel_left _ (by decide)
    have e2 : (2 ^ (k + 1) * y : Int) % 2 = 0 := by
      rw [Int.pow_succ, Int.mul_comm (2 ^ k) 2, Int.mul_assoc]; exact Int.mul_emod_right _ _
    rw [e1, e2, and_shift (x / 2) y k] at h
    rw [h, if_neg (by omega), Int.ediv_ediv_of_nonneg (by decide), Int.pow_succ, Int.mul_comm 2 (2 ^ k), Int.add_zero, ← Int.mul_assoc, Int.mul_comm 2 (2 ^ k)]
theorem and_odd (x q : Int) : Builtin.bitAnd x (2 * q + 1) = 2 * Builtin.bitAnd (x / 2) q + x % 2 := by
  rw [kbt_halves x (2 * q + 1), show (2 * q + 1) / 2 = q by omega, show (2 * q + 1) % 2 = 1 by omega]
  by_cases h : x % 2 = 1
  · rw [if_pos ⟨h, rfl⟩, h]
  · rw [if_neg (fun z => h z.1)]; omega
theorem and_kind (x : Int) : Builtin.bitAnd x 61440 = 4096 * (x / 4096 % 16) := by
  have := and_shift x 15 12
  rw [bitAnd_m4] at this
  exact this
theorem and_bit (x : Int) (k : Nat) (p : Int) (hp : p = 2 ^ k) : Builtin.bitAnd x p = (x / p % 2) * p := by subst hp; exact kbt_bit x k
theorem and_2112 (x : Int) : Builtin.bitAnd x 2112 = 2048 * (x / 2048 % 2) + 64 * (x / 64 % 2) := by
  have h := and_shift x (2 * 16 + 1) 6
  rw [and_odd, and_bit _ 4 16 (by decide)] at h
  have h' : Builtin.bitAnd x 2112 = 64 * (2 * (x / 64 / 2 / 16 % 2 * 16) + x / 64 % 2) := h
  rw [h']; omega
theorem and_1032 (x : Int) : Builtin.bitAnd x 1032 = 1024 * (x / 1024 % 2) + 8 * (x / 8 % 2) := by
  have h := and_shift x (2 * 64 + 1) 3
  rw [and_odd, and_bit _ 6 64 (by decide)] at h
  have h' : Builtin.bitAnd x 1032 = 8 * (2 * (x / 8 / 2 / 64 % 2 * 64) + x / 8 % 2) := h
  rw [h']; omega
theorem and_513 (x : Int) : Builtin.bitAnd x 513 = 512 * (x / 512 % 2) + (x % 2) := by
  have h := and_odd x 256
  rw [and_bit _ 8 256 (by decide)] at h
  have h' : Builtin.bitAnd x 513 = 2 * (x / 2 / 256 % 2 * 256) + x % 2 := h
  rw [h']; omega
def rowAt (i : Nat) (t : Int → Bool) : Str := match (permTab.getD i (0, [])).2.find? (fun q => t q.bit) with | some q => q.ch | none => fDef i
theorem fChar_row (x : Int) (i : Nat) : fChar x i = rowAt i (fTest i x) := rfl
theorem kind_row : ∀ d : Fin 16, rowAt 0 (fun b => 4096 * ((d.val : Nat) : Int) == b) = Txt.item (signRows.getD 0 Str.empty) (kindTab.getD d.val 0) := by decide +kernel
theorem find_congr {α : Type} {p q : α → Bool} : ∀ {l : List α}, (∀ a ∈ l, p a = q a) → l.find? p = l.find? q
  | [], _ => rfl
  | a :: l, h => by
    rw [List.find?_cons, List.find?_cons, h a (.head _), find_congr fun b hb => h b (.tail _ hb)]
theorem rowAt_congr {i : Nat} {t u : Int → Bool} (h : ∀ q ∈ (permTab.getD i (0, [])).2, t q.bit = u q.bit) : rowAt i t = rowAt i u := by
  unfold rowAt
  rw [find_congr h]
def bit1 (p : Int) (a : Bool) (b : Int) : Bool := if b = p then a else false
def bit3 (p q : Int) (a c : Bool) (b : Int) : Bool := if b = p + q then a && c else if b = p then a else if b = q then c else false
theorem row1 : ∀ i : Fin 10, ∀ a : Bool, (i.val = 1 ∨ i.val = 2 ∨ i.val = 4 ∨ i.val = 5 ∨ i.val = 7 ∨ i.val = 8) → rowAt i.val (fun _ => a) = Txt.item (signRows.getD i.val Str.empty) (if a then 1 else 0) := by decide +kernel
theorem row3 : ∀ i : Fin 10, ∀ a c : Bool, ∀ P : Int × Int, (i.val, P) ∈ [(3, ((2048, 64) : Int × Int)), (6, (1024, 8)), (9, (512, 1))] →
    rowAt i.val (bit3 P.1 P.2 a c) = Txt.item (signRows.getD i.val Str.empty) (menu4.getD ((if c then 1 else 0) + 2 * (if a then 1 else 0)) 0) := by
  intro i a c P h
  have key : ∀ a c : Bool, ∀ z ∈ [(3, ((2048, 64) : Int × Int)), (6, (1024, 8)), (9, (512, 1))], rowAt z.1 (bit3 z.2.1 z.2.2 a c) = Txt.item (signRows.getD z.1 Str.empty) (menu4.getD ((if c then 1 else 0) + 2 * (if a then 1 else 0)) 0) := by decide +kernel
  exact key a c _ h
theorem emod_two {a : Int} (b : Int) (h : a = b % 2) : a = 0 ∨ a = 1 := by omega
theorem bit_test {x p c : Int} (hp : p ≠ 0) (h : Builtin.bitAnd x p = c * p) (hc : c = 0 ∨ c = 1) : (Builtin.bitAnd x p == p) = decide (c = 1) := by
  rw [h]
  rcases hc with rfl | rfl
  · rw [Int.zero_mul, decide_eq_false (by decide)]; simpa using Ne.symm hp
  · rw [Int.one_mul]; simp
theorem sum_test {x p q a c : Int} (hp : 0 < p) (hq : 0 < q) (h : Builtin.bitAnd x (p + q) = p * a + q * c) (ha : a = 0 ∨ a = 1) (hc : c = 0 ∨ c = 1) : (Builtin.bitAnd x (p + q) == p + q) = (decide (a = 1) && decide (c = 1)) := by
  rw [h]
  rcases ha with rfl | rfl <;> rcases hc with rfl | rfl <;> simp <;> omega
theorem fm_row1 {x : Int} {i : Nat} {k : Nat} {p : Int} (hi : i = 1 ∨ i = 2 ∨ i = 4 ∨ i = 5 ∨ i = 7 ∨ i = 8) (hp : p = 2 ^ k) (hrow : ∀ q ∈ (permTab.getD i (0, [])).2, q.bit = p) (hfig : (figs x).getD i 0 = x / p % 2) : fChar x i = signAt (figs x) i := by
  have hp0 : p ≠ 0 := by rw [hp]; exact Int.ne_of_gt (Int.pow_pos (by decide))
  have hi0 : i ≠ 0 := by omega
  have hc := emod_two (x / p) rfl
  rw [fChar_row, rowAt_congr (u := fun _ => decide (x / p % 2 = 1)) (fun q hq => by
    rw [hrow q hq]; unfold fTest; rw [if_neg hi0]; exact bit_test hp0 (and_bit x k p hp) hc)]
  have := row1 ⟨i, by omega⟩ (decide (x / p % 2 = 1)) hi
  dsimp only at this
  rw [this, signAt, hfig]
  rcases hc with h | h <;> rw [h] <;> rfl
theorem fm_row3 {x : Int} {i : Nat} {a c p q : Int} (hi : (i, ((p, q) : Int × Int)) ∈ [(3, ((2048, 64) : Int × Int)), (6, (1024, 8)), (9, (512, 1))]) (ha : a = x / p % 2) (hc : c = x / q % 2)
    (hs : Builtin.bitAnd x (p + q) = p * a + q * c) (hrow : ∀ z ∈ (permTab.getD i (0, [])).2, z.bit = p + q ∨ z.bit = p ∨ z.bit = q) (hfig : (figs x).getD i 0 = menu4.getD (c + 2 * a).toNat 0) : fChar x i = signAt (figs x) i := by
  have hi10 : i < 10 ∧ i ≠ 0 ∧ 0 < p ∧ 0 < q ∧ p ≠ q ∧ (∃ k, p = 2 ^ k) ∧ ∃ k, q = 2 ^ k := by
    simp only [List.mem_cons, List.not_mem_nil, or_false, Prod.mk.injEq] at hi
    rcases hi with ⟨rfl, rfl, rfl⟩ | ⟨rfl, rfl, rfl⟩ | ⟨rfl, rfl, rfl⟩
    · exact ⟨by omega, by omega, by omega, by omega, by omega, ⟨11, by decide⟩, ⟨6, by decide⟩⟩
    · exact ⟨by omega, by omega, by omega, by omega, by omega, ⟨10, by decide⟩, ⟨3, by decide⟩⟩
    · exact ⟨by omega, by omega, by omega, by omega, by omega, ⟨9, by decide⟩, ⟨0, by decide⟩⟩
  obtain ⟨hi1, hi0, hp, hq, hpq, ⟨k, hk⟩, k', hk'⟩ := hi10
  have ha' := emod_two (x / p) ha
  have hc' := emod_two (x / q) hc
  rw [fChar_row, rowAt_congr (u := bit3 p q (decide (a = 1)) (decide (c = 1))) (fun z hz => by
    unfold fTest bit3; rw [if_neg hi0]
    rcases hrow z hz with h | h | h
    · rw [h, if_pos rfl]; exact sum_test hp hq hs ha' hc'
    · rw [h, if_neg (by omega), if_pos rfl]; exact bit_test (by omega) (by rw [and_bit x k p hk, ha]) ha'
    · rw [h, if_neg (by omega), if_neg (by omega), if_pos rfl]; exact bit_test (by omega) (by rw [and_bit x k' q hk', hc]) hc')]
  have := row3 ⟨i, hi1⟩ (decide (a = 1)) (decide (c = 1)) (p, q) hi
  dsimp only at this
  rw [this, signAt, hfig]
  rcases ha' with h1 | h1 <;> rcases hc' with h2 | h2 <;> rw [h1, h2] <;> rfl
theorem fdiv_pos (a : Int) {b : Int} (h : 0 ≤ b) : Int.fdiv a b = a / b := Int.fdiv_eq_ediv_of_nonneg a h
theorem fmod_pos (a : Int) {b : Int} (h : 0 ≤ b) : Int.fmod a b = a % b := Int.fmod_eq_emod_of_nonneg a h
theorem fig_list (x : Int) : figs x = [figs0 x, Int.fdiv (Int.fmod (Int.fdiv x 64) 8) 4, Int.fmod (Int.fdiv (Int.fmod (Int.fdiv x 64) 8) 2) 2, menu4.getD (Int.fmod (Int.fmod (Int.fdiv x 64) 8) 2 + 2 * Int.fmod (Int.fdiv x 2048) 2).toNat 0,
    Int.fdiv (Int.fmod (Int.fdiv x 8) 8) 4, Int.fmod (Int.fdiv (Int.fmod (Int.fdiv x 8) 8) 2) 2, menu4.getD (Int.fmod (Int.fmod (Int.fdiv x 8) 8) 2 + 2 * Int.fmod (Int.fdiv x 1024) 2).toNat 0,
    Int.fdiv (Int.fmod (Int.fdiv x 1) 8) 4, Int.fmod (Int.fdiv (Int.fmod (Int.fdiv x 1) 8) 2) 2, menu4.getD (Int.fmod (Int.fmod (Int.fdiv x 1) 8) 2 + 2 * Int.fmod (Int.fdiv x 512) 2).toNat 0] := rfl
theorem fig_k (x : Int) : (figs x).getD 0 0 = kindTab.getD (x / 4096 % 16).toNat 0 := by rw [fig_list]; show figs0 x = _; rw [figs0, fdiv_pos _ (by decide), fmod_pos _ (by decide)]
theorem f1 (x : Int) : (figs x).getD 1 0 = x / 256 % 2 := by rw [fig_list]; show Int.fdiv (Int.fmod (Int.fdiv x 64) 8) 4 = _; rw [fdiv_pos x (by decide), fmod_pos _ (by decide), fdiv_pos _ (by decide)]; omega
theorem f2 (x : Int) : (figs x).getD 2 0 = x / 128 % 2 := by rw [fig_list]; show Int.fmod (Int.fdiv (Int.fmod (Int.fdiv x 64) 8) 2) 2 = _; rw [fdiv_pos x (by decide), fmod_pos _ (by decide), fdiv_pos _ (by decide), fmod_pos _ (by decide)]; omega
theorem f4 (x : Int) : (figs x).getD 4 0 = x / 32 % 2 := by rw [fig_list]; show Int.fdiv (Int.fmod (Int.fdiv x 8) 8) 4 = _; rw [fdiv_pos x (by decide), fmod_pos _ (by decide), fdiv_pos _ (by decide)]; omega
theorem f5 (x : Int) : (figs x).getD 5 0 = x / 16 % 2 := by rw [fig_list]; show Int.fmod (Int.fdiv (Int.fmod (Int.fdiv x 8) 8) 2) 2 = _; rw [fdiv_pos x (by decide), fmod_pos _ (by decide), fdiv_pos _ (by decide), fmod_pos _ (by decide)]; omega
theorem f7 (x : Int) : (figs x).getD 7 0 = x / 4 % 2 := by rw [fig_list]; show Int.fdiv (Int.fmod (Int.fdiv x 1) 8) 4 = _; rw [fdiv_pos x (by decide), fmod_pos _ (by decide), fdiv_pos _ (by decide)]; omega
theorem f8 (x : Int) : (figs x).getD 8 0 = x / 2 % 2 := by rw [fig_list]; show Int.fmod (Int.fdiv (Int.fmod (Int.fdiv x 1) 8) 2) 2 = _; rw [fdiv_pos x (by decide), fmod_pos _ (by decide), fdiv_pos _ (by decide), fmod_pos _ (by decide)]; omega
theorem f3 (x : Int) : (figs x).getD 3 0 = menu4.getD (x / 64 % 2 + 2 * (x / 2048 % 2)).toNat 0 := by
  rw [fig_list]; show menu4.getD (Int.fmod (Int.fmod (Int.fdiv x 64) 8) 2 + 2 * Int.fmod (Int.fdiv x 2048) 2).toNat 0 = _
  rw [fdiv_pos x (by decide), fdiv_pos x (by decide), fmod_pos _ (by decide), fmod_pos _ (by decide), fmod_pos _ (by decide), show x / 64 % 8 % 2 = x / 64 % 2 by omega]
theorem f6 (x : Int) : (figs x).getD 6 0 = menu4.getD (x / 8 % 2 + 2 * (x / 1024 % 2)).toNat 0 := by
  rw [fig_list]; show menu4.getD (Int.fmod (Int.fmod (Int.fdiv x 8) 8) 2 + 2 * Int.fmod (Int.fdiv x 1024) 2).toNat 0 = _
  rw [fdiv_pos x (by decide), fdiv_pos x (by decide), fmod_pos _ (by decide), fmod_pos _ (by decide), fmod_pos _ (by decide), show x / 8 % 8 % 2 = x / 8 % 2 by omega]
theorem f9 (x : Int) : (figs x).getD 9 0 = menu4.getD (x / 1 % 2 + 2 * (x / 512 % 2)).toNat 0 := by
  rw [fig_list]; show menu4.getD (Int.fmod (Int.fmod (Int.fdiv x 1) 8) 2 + 2 * Int.fmod (Int.fdiv x 512) 2).toNat 0 = _
  rw [fdiv_pos x (by decide), fdiv_pos x (by decide), fmod_pos _ (by decide), fmod_pos _ (by decide), fmod_pos _ (by decide), show x / 1 % 8 % 2 = x / 1 % 2 by omega]
theorem kind_lt (x : Int) : ∃ d : Fin 16, x / 4096 % 16 = ((d.val : Nat) : Int) := ⟨⟨(x / 4096 % 16).toNat, by omega⟩, by show x / 4096 % 16 = ((x / 4096 % 16).toNat : Int); omega⟩
theorem fm_0 (x : Int) : fChar x 0 = signAt (figs x) 0 := by
  obtain ⟨d, hd⟩ := kind_lt x
  rw [fChar_row, rowAt_congr (u := fun b => 4096 * ((d.val : Nat) : Int) == b) (fun q _ => by unfold fTest; rw [if_pos rfl, and_kind, hd]), kind_row, signAt, fig_k, hd]; rfl
theorem fm_char (x : Int) (i : Nat) (hi : i < 10) : fChar x i = signAt (figs x) i := by
  have : i = 0 ∨ i = 1 ∨ i = 2 ∨ i = 3 ∨ i = 4 ∨ i = 5 ∨ i = 6 ∨ i = 7 ∨ i = 8 ∨ i = 9 := by omega
  rcases this with rfl | rfl | rfl | rfl | rfl | rfl | rfl | rfl | rfl | rfl
  · exact fm_0 x
  · exact fm_row1 (k := 8) (by decide) (by decide) (by decide +kernel) (f1 x)
  · exact fm_row1 (k := 7) (by decide) (by decide) (by decide +kernel) (f2 x)
  · exact fm_row3 (p := 2048) (q := 64) (by decide) rfl rfl (and_2112 x) (by decide +kernel) (f3 x)
  · exact fm_row1 (k := 5) (by decide) (by decide) (by decide +kernel) (f4 x)
  · exact fm_row1 (k := 4) (by decide) (by decide) (by decide +kernel) (f5 x)
  · exact fm_row3 (p := 1024) (q := 8) (by decide) rfl rfl (and_1032 x) (by decide +kernel) (f6 x)
  · exact fm_row1 (k := 2) (by decide) (by decide) (by decide +kernel) (f7 x)
  · exact fm_row1 (k := 1) (by decide) (by decide) (by decide +kernel) (f8 x)
  · exact fm_row3 (p := 512) (q := 1) (by decide) rfl rfl (by have := and_513 x; rw [Int.ediv_one, Int.one_mul]; exact this) (by decide +kernel) (f9 x)
theorem fmode_signs (x : Int) : fmode x = signsF (figs x) := by
  unfold fmode signsF
  rw [List.map_congr_left fun i hi => fm_char x i (List.mem_range.mp hi)]
theorem figOk_figs (x : Int) : figOk (figs x) := by
  refine ⟨rfl, fun k hk => ?_⟩
  have m4 : ∀ a c : Int, (a = 0 ∨ a = 1) → (c = 0 ∨ c = 1) → 0 ≤ menu4.getD (c + 2 * a).toNat 0 ∧ menu4.getD (c + 2 * a).toNat 0 < 4 := by
    intro a c ha hc
    rcases ha with rfl | rfl <;> rcases hc with rfl | rfl <;> decide
  have hlen : ∀ k : Fin 10, (signRows.getD k.val Str.empty).length = ([8, 2, 2, 4, 2, 2, 4, 2, 2, 4] : List Nat).getD k.val 0 := by decide +kernel
  have := hlen ⟨k, hk⟩
  dsimp only at this
  rw [this]
  have : k = 0 ∨ k = 1 ∨ k = 2 ∨ k = 3 ∨ k = 4 ∨ k = 5 ∨ k = 6 ∨ k = 7 ∨ k = 8 ∨ k = 9 := by omega
  rcases this with rfl | rfl | rfl | rfl | rfl | rfl | rfl | rfl | rfl | rfl
  · rw [fig_k]
    obtain ⟨d, hd⟩ := kind_lt x
    rw [hd]
    have : ∀ d : Fin 16, 0 ≤ kindTab.getD d.val 0 ∧ kindTab.getD d.val 0 < 8 := by decide +kernel
    exact this d
  · rw [f1]; exact ⟨by omega, by show _ < (2 : Int); omega⟩
  · rw [f2]; exact ⟨by omega, by show _ < (2 : Int); omega⟩
  · rw [f3]; exact m4 _ _ (emod_two (x / 2048) rfl) (emod_two (x / 64) rfl)
  · rw [f4]; exact ⟨by omega, by show _ < (2 : Int); omega⟩
  · rw [f5]; exact ⟨by omega, by show _ < (2 : Int); omega⟩
  · rw [f6]; exact m4 _ _ (emod_two (x / 1024) rfl) (emod_two (x / 8) rfl)
  · rw [f7]; exact ⟨by omega, by show _ < (2 : Int); omega⟩
  · rw [f8]; exact ⟨by omega, by show _ < (2 : Int); omega⟩
  · rw [f9]; exact m4 _ _ (emod_two (x / 512) rfl) (emod_two (x / 1) rfl)
end Mine
end
section
set_option Elab.async false
set_option maxHeartbeats 400000
namespace Mine
/-- the order in which a pass lets go -/
def bef (g : Nat → Int) (i j : Nat) : Prop := (i < j ∧ ∃ m, i < m ∧ m ≤ j ∧ g i < g m) ∨ (j < i ∧ ∀ m, j < m → m ≤ i → g m ≤ g j)
theorem bef_asymm {g : Nat → Int} {i j : Nat} (h : bef g i j) : ¬ bef g j i := by
  rintro (⟨h1, m, h2, h3, h4⟩ | ⟨h1, h2⟩)
  · rcases h with ⟨h5, _⟩ | ⟨h5, h6⟩
    · omega
    · have := h6 m h2 h3; omega
  · rcases h with ⟨h5, m, h6, h7, h8⟩ | ⟨h5, h6⟩
    · have := h2 m h6 h7; omega
    · omega
theorem mem_take_while {α : Type} {p : α → Bool} : ∀ {l : List α} {y : α}, y ∈ l.takeWhile p → p y = true
  | [], _, h => by simp at h
  | x :: r, y, h => by
    rw [List.takeWhile_cons] at h
    cases e : p x with
    | false => rw [e] at h; simp at h
    | true =>
      rw [e] at h
      rcases List.mem_cons.mp h with rfl | h
      · exact e
      · exact mem_take_while h
theorem mem_drop_while {g : Nat → Int} {c : Int} : ∀ {l : List Nat}, l.Pairwise (fun a b => g a ≤ g b) → ∀ y ∈ l.dropWhile (fun i => decide (g i < c)), c ≤ g y
  | [], _, y, h => by simp at h
  | x :: r, hp, y, h => by
    rw [List.dropWhile_cons] at h
    rw [List.pairwise_cons] at hp
    by_cases e : g x < c
    · rw [decide_eq_true e, if_pos rfl] at h
      exact mem_drop_while hp.2 y h
    · rw [decide_eq_false e] at h
      rcases List.mem_cons.mp h with rfl | h
      · omega
      · have := hp.1 y h; omega
structure SsInv (g : Nat → Int) (k : Nat) (st out : List Nat) : Prop where
  o : ∀ i ∈ out, i < k ∧ ∃ m, i < m ∧ m < k ∧ g i < g m
  s : ∀ i ∈ st, i < k ∧ ∀ m, i < m → m < k → g m ≤ g i
  up : st.Pairwise (fun a b => g a ≤ g b)
  pw : (out ++ st).Pairwise (bef g)
  pm : (out ++ st).Perm (List.range k)
theorem ss_inv (g : Nat → Int) : ∀ k, SsInv g k (ssRun (fun i j => decide (g i < g j)) (List.range k)).1 (ssRun (fun i j => decide (g i < g j)) (List.range k)).2
  | 0 => ⟨(fun _ h => nomatch h), (fun _ h => nomatch h), .nil, .nil, .nil⟩
  | k + 1 => by
    have ih := ss_inv g k
    rw [List.range_succ, ssRun_snoc]
    generalize ssRun (fun i j => decide (g i < g j)) (List.range k) = r at ih
    obtain ⟨st, out⟩ := r
    simp only [ssStep]
    dsimp only at ih
    have htd := List.takeWhile_append_dropWhile (p := fun i => decide (g i < g k)) (l := st)
    have ht : ∀ y ∈ st.takeWhile (fun i => decide (g i < g k)), g y < g k := fun y hy => of_decide_eq_true (mem_take_while (p := fun i => decide (g i < g k)) hy)
    have hd := mem_drop_while (c := g k) ih.up
    have hts : ∀ y ∈ st.takeWhile (fun i => decide (g i < g k)), y ∈ st := fun y hy => (List.takeWhile_sublist _).subset hy
    have hds : ∀ y ∈ st.dropWhile (fun i => decide (g i < g k)), y ∈ st := fun y hy => (List.dropWhile_sublist _).subset hy
    have hup := ih.up.sublist (List.dropWhile_sublist (fun i => decide (g i < g k)))
    have hpw := ih.pw
    have hpm := ih.pm
    rw [← htd] at hpw hpm
    generalize st.takeWhile (fun i => decide (g i < g k)) = T at *
    generalize st.dropWhile (fun i => decide (g i < g k)) = D at *
    refine ⟨?_, ?_, ?_, ?_, ?_⟩
    · intro i hi
      rcases List.mem_append.mp hi with hi | hi
      · obtain ⟨h1, m, h2, h3, h4⟩ := ih.o i hi
        exact ⟨by omega, m, h2, by omega, h4⟩
      · have h1 := (ih.s i (hts i hi)).1
        exact ⟨by omega, k, h1, by omega, ht i hi⟩
    · intro i hi
      rcases List.mem_cons.mp hi with hi | hi
      · subst hi; exact ⟨by omega, fun m h1 h2 => by omega⟩
      · obtain ⟨h1, h2⟩ := ih.s i (hds i hi)
        refine ⟨by omega, fun m h3 h4 => ?_⟩
        by_cases e : m = k
        · rw [e]; exact hd i ‹i ∈ D›
        · exact h2 m h3 (by omega)
    · exact List.pairwise_cons.mpr ⟨hd, hup⟩
    · rw [← List.append_assoc] at hpw
      rw [List.pairwise_append] at hpw ⊢
      refine ⟨hpw.1, List.pairwise_cons.mpr ⟨fun i hi => .inr ?_, hpw.2.1⟩, fun a ha b hb => ?_⟩
      · obtain ⟨h1, h2⟩ := ih.s i (hds i hi)
        refine ⟨h1, fun m h3 h4 => ?_⟩
        by_cases e : m = k
        · subst e; exact hd i hi
        · exact h2 m h3 (by omega)
      · rcases List.mem_cons.mp hb with rfl | hb
        · refine .inl ?_
          rcases List.mem_append.mp ha with ha | ha
          · obtain ⟨h1, m, h2, h3, h4⟩ := ih.o a ha
            exact ⟨h1, m, h2, by omega, h4⟩
          · have h1 := (ih.s a (hts a ha)).1
            exact ⟨h1, b, h1, by omega, ht a ha⟩
        · exact hpw.2.2 a ha b hb
    · rw [← List.append_assoc] at hpm
      refine List.perm_middle.trans ?_
      refine (List.Perm.cons k hpm).trans ?_
      rw [List.range_succ]
      exact (List.perm_append_singleton k (List.range k)).symm
theorem ssRun_map {α β : Type} (f : α → β) (lt : β → β → Bool) (lt' : α → α → Bool) (xs : List α) (h : ∀ a ∈ xs, ∀ b ∈ xs, lt (f a) (f b) = lt' a b) : ssRun lt (xs.map f) = ((ssRun lt' xs).1.map f, (ssRun lt' xs).2.map f) := by
  have key : ∀ ys : List α, (∀ a ∈ ys.reverse, ∀ b ∈ ys.reverse, lt (f a) (f b) = lt' a b) → ssRun lt (ys.reverse.map f) = ((ssRun lt' ys.reverse).1.map f, (ssRun lt' ys.reverse).2.map f) := by
    intro ys
    induction ys with
    | nil => intro _; rfl
    | cons x r ih =>
      intro hx
      rw [List.reverse_cons] at hx ⊢
      rw [List.map_append, List.map_singleton, ssRun_snoc, ssRun_snoc, ih fun a ha b hb => hx a (List.mem_append_left _ ha) b (List.mem_append_left _ hb)]
      have hm := ssRun_mem lt' r.reverse
      have hc : ∀ l : List α, (∀ y ∈ l, y ∈ r.reverse) → (l.map f).takeWhile (fun z => lt z (f x)) = (l.takeWhile (fun z => lt' z x)).map f ∧ (l.map f).dropWhile (fun z => lt z (f x)) = (l.dropWhile (fun z => lt' z x)).map f := by
        intro l hl
        induction l with
        | nil => exact ⟨rfl, rfl⟩
        | cons y l ih2 =>
          have e := hx y (List.mem_append_left _ (hl y (.head _))) x (List.mem_append_right _ (.head _))
          obtain ⟨i1, i2⟩ := ih2 fun z hz => hl z (.tail _ hz)
          rw [List.map_cons, List.takeWhile_cons, List.dropWhile_cons, List.takeWhile_cons, List.dropWhile_cons, e]
          cases lt' y x with
          | true => exact ⟨by simp only [if_true, List.map_cons, i1], by simp only [if_true, i2]⟩
          | false => exact ⟨rfl, rfl⟩
      obtain ⟨c1, c2⟩ := hc (ssRun lt' r.reverse).1 fun y hy => hm y (.inl hy)
      simp only [ssStep]
      rw [c1, c2, List.map_cons, List.map_append]
  have := key xs.reverse
  rw [List.reverse_reverse] at this
  exact this h
theorem ssOut_map {α β : Type} (f : α → β) (lt : β → β → Bool) (lt' : α → α → Bool) (xs : List α) (h : ∀ a ∈ xs, ∀ b ∈ xs, lt (f a) (f b) = lt' a b) : ssOut lt (xs.map f) = (ssOut lt' xs).map f := by
  unfold ssOut
  rw [ssRun_map f lt lt' xs h, List.map_append]
def ltI (a b : Int) : Bool := decide (a < b)
def gt (ns : List Int) (i : Nat) : Int := ns.getD i 0
theorem map_gt (ns : List Int) : (List.range ns.length).map (gt ns) = ns := by
  apply List.ext_getElem?
  intro i
  rw [List.getElem?_map]
  by_cases hi : i < ns.length
  · rw [List.getElem?_range hi, List.getElem?_eq_getElem hi]
    show some (ns.getD i 0) = _
    rw [List.getD_eq_getElem?_getD, List.getElem?_eq_getElem hi]; rfl
  · rw [List.getElem?_eq_none (by simpa using hi), List.getElem?_eq_none (by omega)]; rfl
theorem ss_spec (ns : List Int) : ∃ idx : List Nat, ssOut ltI ns = idx.map (gt ns) ∧ idx.Perm (List.range ns.length) ∧ idx.Pairwise (bef (gt ns)) := by
  have hv := ss_inv (gt ns) ns.length
  refine ⟨ssOut (fun i j => decide (gt ns i < gt ns j)) (List.range ns.length), ?_, hv.pm, hv.pw⟩
  have := ssOut_map (gt ns) ltI (fun i j => decide (gt ns i < gt ns j)) (List.range ns.length) fun _ _ _ _ => rfl
  rw [map_gt] at this
  exact this
theorem pos_of {idx : List Nat} {n i : Nat} (hp : idx.Perm (List.range n)) (hi : i < n) : ∃ a, ∃ h : a < idx.length, idx[a] = i := by
  have : i ∈ idx := hp.mem_iff.mpr (List.mem_range.mpr hi)
  obtain ⟨a, h, e⟩ := List.getElem_of_mem this
  exact ⟨a, h, e⟩
theorem pos_lt {g : Nat → Int} {idx : List Nat} (hw : idx.Pairwise (bef g)) {a b : Nat} (ha : a < idx.length) (hb : b < idx.length) (h : bef g idx[a] idx[b]) : a < b := by
  rcases Nat.lt_trichotomy a b with hab | hab | hab
  · exact hab
  · subst hab; exact absurd h (bef_asymm h)
  · exact absurd (List.pairwise_iff_getElem.mp hw b a hb ha hab) (bef_asymm h)
theorem gt_lt {ns : List Int} {i : Nat} (h : i < ns.length) : gt ns i = ns[i] := by
  unfold gt; rw [List.getD_eq_getElem?_getD, List.getElem?_eq_getElem h]; rfl
theorem gt_ne {ns : List Int} (hn : ns.Nodup) {i j : Nat} (hi : i < ns.length) (hj : j < ns.length) (hij : i ≠ j) : gt ns i ≠ gt ns j := by
  rw [gt_lt hi, gt_lt hj]
  intro e
  rcases Nat.lt_or_gt_of_ne hij with h | h
  · exact List.pairwise_iff_getElem.mp hn i j hi hj h e
  · exact List.pairwise_iff_getElem.mp hn j i hj hi h e.symm
theorem knuth {l : List Int} (hn : l.Nodup) : (ssOut ltI l).Pairwise (· < ·) ↔ ¬ ∃ i k j, i < k ∧ k < j ∧ j < l.length ∧ gt l j < gt l i ∧ gt l i < gt l k := by
  obtain ⟨idx, e, hp, hw⟩ := ss_spec l
  rw [e, List.pairwise_map, List.pairwise_iff_getElem]
  have hlen : idx.length = l.length := by rw [hp.length_eq, List.length_range]
  have hmem : ∀ a (h : a < idx.length), idx[a] < l.length := fun a h => List.mem_range.mp (hp.mem_iff.mp (List.getElem_mem h))
  constructor
  · rintro h ⟨i, k, j, h1, h2, h3, h4, h5⟩
    obtain ⟨a, ha, ea⟩ := pos_of hp (show i < l.length by omega)
    obtain ⟨b, hb, eb⟩ := pos_of hp h3
    have hbf : bef (gt l) idx[a] idx[b] := by rw [ea, eb]; exact .inl ⟨by omega, k, h1, by omega, h5⟩
    have := h a b ha hb (pos_lt hw ha hb hbf)
    rw [ea, eb] at this
    omega
  · intro h a b ha hb hab
    have hbf := List.pairwise_iff_getElem.mp hw a b ha hb hab
    have la := hmem a ha
    have lb := hmem b hb
    have hne : idx[a] ≠ idx[b] := fun q => absurd (q ▸ hbf) (fun z => bef_asymm z z)
    have hg := gt_ne hn la lb hne
    rcases Int.lt_or_gt_of_ne hg with hg | hg
    · exact hg
    · exfalso
      refine h ?_
      rcases hbf with ⟨h1, m, h2, h3, h4⟩ | ⟨h1, h2⟩
      · refine ⟨idx[a], m, idx[b], h2, ?_, lb, hg, h4⟩
        rcases Nat.lt_or_eq_of_le h3 with h3 | h3
        · exact h3
        · rw [h3] at h4; omega
      · have := h2 _ h1 (Nat.le_refl _); omega
theorem mem_seg {ns : List Int} {a b m : Nat} (h1 : a ≤ m) (h2 : m < b) (h3 : m < ns.length) : gt ns m ∈ seg ns a b := by
  unfold seg
  rw [gt_lt h3]
  refine List.mem_iff_getElem.mpr ⟨m - a, ?_, ?_⟩
  · rw [List.length_take, List.length_drop]; omega
  · rw [List.getElem_take, List.getElem_drop]
    congr 1; omega
theorem of_mem_seg {ns : List Int} {a b : Nat} {y : Int} (h : y ∈ seg ns a b) : ∃ m, a ≤ m ∧ m < b ∧ m < ns.length ∧ gt ns m = y := by
  unfold seg at h
  obtain ⟨m, hm, e⟩ := List.mem_iff_getElem.mp h
  rw [List.length_take, List.length_drop] at hm
  rw [List.getElem_take, List.getElem_drop] at e
  exact ⟨a + m, by omega, by omega, by omega, by rw [gt_lt (by omega)]; exact e⟩
theorem seg_max (g : Nat → Int) : ∀ {i j : Nat}, i < j → ∃ q, i ≤ q ∧ q < j ∧ ∀ m, i ≤ m → m < j → g m ≤ g q := by
  intro i j h
  induction j with
  | zero => omega
  | succ j ih =>
    by_cases e : i < j
    · obtain ⟨q, h1, h2, h3⟩ := ih e
      by_cases hq : g q ≤ g j
      · refine ⟨j, by omega, by omega, fun m h4 h5 => ?_⟩
        by_cases em : m = j
        · subst em; omega
        · have := h3 m h4 (by omega); omega
      · refine ⟨q, h1, by omega, fun m h4 h5 => ?_⟩
        by_cases em : m = j
        · subst em; omega
        · exact h3 m h4 (by omega)
    · have : i = j := by omega
      subst this
      exact ⟨i, by omega, by omega, fun m h4 h5 => by have : m = i := by omega
                                                      subst this; omega⟩
theorem hind_iff {ns : List Int} : hindF ns = true ↔ ∃ i j k r, i < j ∧ j < k ∧ k < r ∧ r < ns.length ∧ gt ns r < gt ns i ∧ gt ns r < gt ns j ∧ gt ns i < gt ns k ∧ gt ns j < gt ns k ∧ (gt ns i < gt ns j ∨ ∀ m, i ≤ m → m < j → gt ns m < gt ns k) := by
  unfold hindF
  rw [List.any_eq_true]
  constructor
  · rintro ⟨k, hk, h⟩
    rw [List.any_eq_true] at h
    obtain ⟨j, hj, h⟩ := h
    rw [List.any_eq_true] at h
    obtain ⟨i, hi, h⟩ := h
    rw [List.mem_range] at hk hj hi
    unfold hitB at h
    simp only [Bool.and_eq_true, Bool.or_eq_true, decide_eq_true_eq, List.any_eq_true, List.all_eq_true] at h
    obtain ⟨⟨⟨⟨x, hx, h1, h2⟩, h3⟩, h4⟩, h5⟩ := h
    obtain ⟨r, hr, er⟩ := List.mem_iff_getElem.mp hx
    rw [List.length_drop] at hr
    rw [List.getElem_drop] at er
    have er' : gt ns (k + 1 + r) = x := by rw [gt_lt (by omega)]; exact er
    refine ⟨i, j, k, k + 1 + r, hi, hj, by omega, by omega, by rw [er']; exact h1, by rw [er']; exact h2, h3, h4, ?_⟩
    rcases h5 with h5 | h5
    · exact .inl h5
    · exact .inr fun m h6 h7 => h5 _ (mem_seg h6 h7 (by omega))
  · rintro ⟨i, j, k, r, h1, h2, h3, h4, h5, h6, h7, h8, h9⟩
    refine ⟨k, List.mem_range.mpr (by omega), ?_⟩
    rw [List.any_eq_true]
    refine ⟨j, List.mem_range.mpr h2, ?_⟩
    rw [List.any_eq_true]
    refine ⟨i, List.mem_range.mpr h1, ?_⟩
    unfold hitB
    simp only [Bool.and_eq_true, Bool.or_eq_true, decide_eq_true_eq, List.any_eq_true, List.all_eq_true]
    refine ⟨⟨⟨⟨gt ns r, ?_, h5, h6⟩, h7⟩, h8⟩, ?_⟩
    · rw [gt_lt h4]
      refine List.mem_iff_getElem.mpr ⟨r - (k + 1), by rw [List.length_drop]; omega, ?_⟩
      rw [List.getElem_drop]
      congr 1; omega
    · rcases h9 with h9 | h9
      · exact .inl h9
      · refine .inr fun y hy => ?_
        obtain ⟨m, m1, m2, m3, rfl⟩ := of_mem_seg hy
        exact h9 m m1 m2
theorem nodup_out {ns : List Int} (hn : ns.Nodup) : (ssOut ltI ns).Nodup ∧ (ssOut ltI ns).Perm ns := by
  obtain ⟨idx, e, hp, _⟩ := ss_spec ns
  have hpp : (ssOut ltI ns).Perm ns := by
    rw [e]
    have := hp.map (gt ns)
    rw [map_gt] at this
    exact this
  exact ⟨hpp.nodup_iff.mpr hn, hpp⟩
/-- West: two passes sort just if nothing hinders -/
theorem west {ns : List Int} (hn : ns.Nodup) : (ssOut ltI (ssOut ltI ns)).Pairwise (· < ·) ↔ hindF ns = false := by
  rw [knuth (nodup_out hn).1, ← Bool.not_eq_true, hind_iff]
  refine not_congr ?_
  obtain ⟨idx, e, hp, hw⟩ := ss_spec ns
  have hlen : idx.length = ns.length := by rw [hp.length_eq, List.length_range]
  have hmem : ∀ a (h : a < idx.length), idx[a] < ns.length := fun a h => List.mem_range.mp (hp.mem_iff.mp (List.getElem_mem h))
  have hat : ∀ a (h : a < idx.length), gt (ssOut ltI ns) a = gt ns idx[a] := fun a h => by
    rw [e, gt_lt (by rw [List.length_map]; exact h), List.getElem_map]
  have hll : (ssOut ltI ns).length = idx.length := by rw [e, List.length_map]
  constructor
  · rintro ⟨a, b, c, hab, hbc, hc, h1, h2⟩
    rw [hll] at hc
    have ha : a < idx.length := by omega
    have hb : b < idx.length := by omega
    rw [hat a ha, hat c hc] at h1
    rw [hat a ha, hat b hb] at h2
    have b1 := List.pairwise_iff_getElem.mp hw a b ha hb hab
    have b2 := List.pairwise_iff_getElem.mp hw b c hb hc hbc
    have lc := hmem c hc
    rcases b2 with ⟨g1, k, g2, g3, g4⟩ | ⟨g1, g2⟩
    · have hkc : k < idx[c] := by
        rcases Nat.lt_or_eq_of_le g3 with g3 | g3
        · exact g3
        · rw [g3] at g4; omega
      rcases b1 with ⟨f1, m, f2, f3, f4⟩ | ⟨f1, f2⟩
      · exact ⟨idx[a], idx[b], k, idx[c], f1, g2, hkc, lc, h1, by omega, by omega, g4, .inl h2⟩
      · have hk : idx[a] < k := by
          rcases Nat.lt_or_ge idx[a] k with h | h
          · exact h
          · have := f2 k g2 h; omega
        refine ⟨idx[b], idx[a], k, idx[c], f1, hk, hkc, lc, by omega, h1, g4, by omega, .inr fun m m1 m2 => ?_⟩
        rcases Nat.lt_or_eq_of_le m1 with m1 | m1
        · have := f2 m m1 (by omega); omega
        · rw [← m1]; exact g4
    · have := g2 _ g1 (Nat.le_refl _); omega
  · rintro ⟨i, j, k, r, h1, h2, h3, h4, h5, h6, h7, h8, h9⟩
    have main : ∀ p q, p < ns.length → q < k → gt ns r < gt ns p → gt ns p < gt ns q → gt ns q < gt ns k → bef (gt ns) p q → ∃ i k j, i < k ∧ k < j ∧ j < (ssOut ltI ns).length ∧ gt (ssOut ltI ns) j < gt (ssOut ltI ns) i ∧ gt (ssOut ltI ns) i < gt (ssOut ltI ns) k := by
      intro p q hp1 hq1 e1 e2 e3 hb
      obtain ⟨a, ha, ea⟩ := pos_of hp hp1
      obtain ⟨b, hb', eb⟩ := pos_of hp (show q < ns.length by omega)
      obtain ⟨c, hc, ec⟩ := pos_of hp h4
      have l1 : a < b := pos_lt hw ha hb' (by rw [ea, eb]; exact hb)
      have l2 : b < c := pos_lt hw hb' hc (by rw [eb, ec]; exact .inl ⟨by omega, k, hq1, by omega, e3⟩)
      refine ⟨a, b, c, l1, l2, by rw [hll]; exact hc, ?_, ?_⟩
      · rw [hat a ha, hat c hc, ea, ec]; exact e1
      · rw [hat a ha, hat b hb', ea, eb]; exact e2
    rcases h9 with h9 | h9
    · exact main i j (by omega) h2 h5 h9 h8 (.inl ⟨h1, j, h1, Nat.le_refl _, h9⟩)
    · by_cases hij : gt ns i < gt ns j
      · exact main i j (by omega) h2 h5 hij h8 (.inl ⟨h1, j, h1, Nat.le_refl _, hij⟩)
      · obtain ⟨q, q1, q2, q3⟩ := seg_max (gt ns) h1
        have hne := gt_ne hn (show i < ns.length by omega) (show j < ns.length by omega) (by omega)
        have hq := q3 i (Nat.le_refl _) h1
        refine main j q (by omega) (by omega) h6 (by omega) (h9 q q1 q2) (.inr ⟨q2, fun m m1 m2 => ?_⟩)
        rcases Nat.lt_or_eq_of_le m2 with m2 | m2
        · exact q3 m (by omega) m2
        · subst m2; omega
/-- places -/
def befB (ns : List Int) (j i : Nat) : Bool := if i < j then pAhead ns j i else if j < i then pBehind ns j i else false
theorem befB_iff {ns : List Int} {i j : Nat} (hi : i < ns.length) (hj : j < ns.length) : befB ns j i = true ↔ bef (gt ns) i j := by
  unfold befB
  by_cases h1 : i < j
  · rw [if_pos h1]
    unfold pAhead
    rw [List.any_eq_true]
    constructor
    · rintro ⟨x, hx, hl⟩
      obtain ⟨m, m1, m2, m3, rfl⟩ := of_mem_seg hx
      rw [decide_eq_true_eq] at hl
      have hl' : gt ns i < gt ns m := hl
      refine .inl ⟨h1, m, ?_, by omega, hl'⟩
      rcases Nat.lt_or_eq_of_le m1 with m1 | m1
      · exact m1
      · rw [m1] at hl'; omega
    · rintro (⟨_, m, m1, m2, m3⟩ | ⟨h2, _⟩)
      · exact ⟨gt ns m, mem_seg (by omega) (by omega) (by omega), by rw [decide_eq_true_eq]; exact m3⟩
      · omega
  · rw [if_neg h1]
    by_cases h2 : j < i
    · rw [if_pos h2]
      unfold pBehind
      rw [List.all_eq_true]
      constructor
      · intro h
        exact .inr ⟨h2, fun m m1 m2 => by have := h _ (mem_seg (by omega) (by omega : m < i + 1) (by omega)); rw [decide_eq_true_eq] at this; exact this⟩
      · rintro (⟨h3, _⟩ | ⟨_, h3⟩)
        · omega
        · intro x hx
          obtain ⟨m, m1, m2, m3, rfl⟩ := of_mem_seg hx
          rw [decide_eq_true_eq]
          rcases Nat.lt_or_eq_of_le m1 with m1 | m1
          · exact h3 m m1 (by omega)
          · rw [m1]; exact Int.le_refl _
    · rw [if_neg h2]
      constructor
      · intro h; cases h
      · rintro (⟨h3, _⟩ | ⟨h3, _⟩) <;> omega
theorem place_count {ns : List Int} {j : Nat} (hj : j < ns.length) : placeF ns j = ((List.range ns.length).filter (befB ns j)).length := by
  unfold placeF
  rw [show List.range ns.length = List.range (j + (1 + (ns.length - (j + 1)))) by congr 1; omega]
  rw [List.range_add, List.range_add, List.filter_append, List.length_append, List.map_append, List.filter_append, List.length_append]
  have e1 : (List.range j).filter (befB ns j) = (List.range j).filter (pAhead ns j) := List.filter_congr fun i hi => by
    unfold befB; rw [if_pos (List.mem_range.mp hi)]
  have e2 : ((List.range 1).map (fun x => j + x)).filter (befB ns j) = [] := by
    have : (List.range 1).map (fun x => j + x) = [j] := rfl
    rw [this]
    have : befB ns j j = false := by unfold befB; rw [if_neg (by omega), if_neg (by omega)]
    simp [this]
  have e3 : (((List.map (fun x => 1 + x) (List.range (ns.length - (j + 1)))).map (fun x => j + x)).filter (befB ns j)).length = ((List.range (ns.length - (j + 1))).filter fun k => pBehind ns j (j + 1 + k)).length := by
    rw [List.map_map, List.filter_map, List.length_map]
    congr 1
    refine List.filter_congr fun i hi => ?_
    show befB ns j (j + (1 + i)) = _
    unfold befB
    rw [if_neg (by omega), if_pos (by omega), Nat.add_assoc]
  rw [e1, e2, e3]
  simp
theorem place_at {ns : List Int} {idx : List Nat} (hp : idx.Perm (List.range ns.length)) (hw : idx.Pairwise (bef (gt ns))) {k : Nat} (hk : k < idx.length) : placeF ns idx[k] = k := by
  have hmem : ∀ i ∈ idx, i < ns.length := fun i h => List.mem_range.mp (hp.mem_iff.mp h)
  have hj := hmem _ (List.getElem_mem hk)
  rw [place_count hj, ← (hp.filter (befB ns idx[k])).length_eq]
  have e : idx = idx.take k ++ idx[k] :: idx.drop (k + 1) := by rw [← List.drop_eq_getElem_cons hk, List.take_append_drop]
  have a1 : (idx.take k).filter (befB ns idx[k]) = idx.take k := by
    rw [List.filter_eq_self]
    intro i hi
    obtain ⟨a, ha, ea⟩ := List.mem_iff_getElem.mp hi
    rw [List.length_take] at ha
    rw [List.getElem_take] at ea
    rw [befB_iff (hmem i (List.mem_of_mem_take hi)) hj, ← ea]
    exact List.pairwise_iff_getElem.mp hw a k (by omega) hk (by omega)
  have a2 : (idx[k] :: idx.drop (k + 1)).filter (befB ns idx[k]) = [] := by
    rw [List.filter_eq_nil_iff]
    intro i hi
    rcases List.mem_cons.mp hi with rfl | hi
    · rw [befB_iff hj hj]; exact fun z => bef_asymm z z
    · obtain ⟨a, ha, ea⟩ := List.mem_iff_getElem.mp hi
      rw [List.length_drop] at ha
      rw [List.getElem_drop] at ea
      rw [befB_iff (hmem i (List.mem_of_mem_drop hi)) hj, ← ea]
      exact bef_asymm (List.pairwise_iff_getElem.mp hw k (k + 1 + a) hk (by omega) (by omega))
  have key : ∀ l : List Nat, l = idx.take k ++ idx[k] :: idx.drop (k + 1) → (l.filter (befB ns idx[k])).length = k := by
    rintro l rfl
    rw [List.filter_append, a1, a2, List.append_nil, List.length_take]
    omega
  exact key idx e
end Mine
end
section
set_option Elab.async false
set_option maxRecDepth 100000
set_option maxHeartbeats 4000000
open PySem PySem.W PyProof.Rows PySem.Calls
namespace Mine
theorem join_flat : ∀ l : List Str, (Txt.join (Str.ofString "") l).cps.toList = l.flatMap (·.cps.toList) := by
  have he : (Str.ofString "").cps.toList = [] := by decide +kernel
  have key : ∀ l : List Str, (Str.join (Str.ofString "") l).cps.toList = l.flatMap (·.cps.toList) := by
    intro l
    induction l with
    | nil => rfl
    | cons x r ih =>
      cases r with
      | nil => show x.cps.toList = _; simp
      | cons y r =>
        show (x ++ Str.ofString "" ++ Str.join (Str.ofString "") (y :: r)).cps.toList = _
        rw [toList_app, toList_app, ih, he, List.append_nil]; rfl
  intro l
  show (Builtin.Str.glued _ _).cps.toList = _
  rw [StrLaws.glued_eq_join]; exact key l
def codeAt (k : Nat) (v : Int) : Nat := (Txt.charAt (signRows.getD k Str.empty) v).getD 0
theorem signs_cps (ns : List Int) : (signsF ns).cps.toList = (List.range 10).map fun k => codeAt k (ns.getD k 0) := by
  unfold signsF
  rw [join_flat, List.flatMap_map]
  show (List.range 10).flatMap (fun k => [codeAt k (ns.getD k 0)]) = _
  generalize List.range 10 = l
  induction l with
  | nil => rfl
  | cons a r ih => rw [List.flatMap_cons, ih]; rfl
theorem code_mono : ∀ k : Fin 10, ∀ a b : Fin 8, a.val < (signRows.getD k.val Str.empty).length → b.val < (signRows.getD k.val Str.empty).length → (codeAt k.val (a.val : Nat) < codeAt k.val (b.val : Nat) ↔ a.val < b.val) := by decide +kernel
theorem code_ok : ∀ k : Fin 10, ∀ a : Fin 8, a.val < (signRows.getD k.val Str.empty).length → codeAt k.val (a.val : Nat) ≠ 47 := by decide +kernel
theorem code_lt {k : Nat} (hk : k < 10) {x y : Int} (hx : 0 ≤ x ∧ x < (signRows.getD k Str.empty).length) (hy : 0 ≤ y ∧ y < (signRows.getD k Str.empty).length) : codeAt k x < codeAt k y ↔ x < y := by
  have h8 := signRows_len k hk
  have := code_mono ⟨k, hk⟩ ⟨x.toNat, by omega⟩ ⟨y.toNat, by omega⟩ (by dsimp only; omega) (by dsimp only; omega)
  dsimp only at this
  rw [Int.toNat_of_nonneg hx.1, Int.toNat_of_nonneg hy.1] at this
  rw [this]; omega
def fl (f : Nat → Int → Nat) : Nat → List Int → List Nat
  | _, [] => []
  | k, n :: r => f k n :: fl f (k + 1) r
theorem fl_range (f : Nat → Int → Nat) : ∀ (ns : List Int) (k : Nat), fl f k ns = (List.range ns.length).map fun i => f (k + i) (ns.getD i 0)
  | [], _ => rfl
  | n :: r, k => by
    rw [List.length_cons, List.range_succ_eq_map, List.map_cons, List.map_map, fl, fl_range f r (k + 1)]
    congr 1
    refine List.map_congr_left fun i _ => ?_
    show f (k + 1 + i) (r.getD i 0) = f (k + (i + 1)) (r.getD i 0)
    rw [show k + 1 + i = k + (i + 1) by omega]
theorem lex_fl (f : Nat → Int → Nat) : ∀ (ns ms : List Int) (k : Nat), ns.length = ms.length → (∀ i, i < ns.length → (f (k + i) (ns.getD i 0) < f (k + i) (ms.getD i 0) ↔ ns.getD i 0 < ms.getD i 0) ∧ (f (k + i) (ms.getD i 0) < f (k + i) (ns.getD i 0) ↔ ms.getD i 0 < ns.getD i 0)) →
    (fl f k ns < fl f k ms ↔ lexI ns ms = true)
  | [], [], k, _, _ => by simp [fl, lexI]
  | [], _ :: _, _, h, _ => by simp at h
  | _ :: _, [], _, h, _ => by simp at h
  | n :: r, m :: q, k, h, hf => by
    have h0 := hf 0 (by simp)
    simp only [Nat.add_zero, List.getD_cons_zero] at h0
    have ih := lex_fl f r q (k + 1) (by simpa using h) fun i hi => by
      have := hf (i + 1) (by simpa using hi)
      simpa only [List.getD_cons_succ, show k + (i + 1) = k + 1 + i by omega] using this
    show f k n :: fl f (k + 1) r < f k m :: fl f (k + 1) q ↔ _
    rw [List.cons_lt_cons_iff, ih, lexI]
    by_cases e : n = m
    · subst e
      rw [if_pos rfl]
      constructor
      · rintro (h | ⟨_, h⟩)
        · omega
        · exact h
      · exact fun h => .inr ⟨rfl, h⟩
    · rw [if_neg e, decide_eq_true_eq]
      constructor
      · rintro (h | ⟨h, _⟩)
        · exact h0.1.mp h
        · exfalso
          rcases Int.lt_or_gt_of_ne e with z | z
          · have := h0.1.mpr z; omega
          · have := h0.2.mpr z; omega
      · exact fun z => .inl (h0.1.mpr z)
theorem signs_fl {ns : List Int} (h : ns.length = 10) : (signsF ns).cps.toList = fl codeAt 0 ns := by
  rw [signs_cps, fl_range, h]
  refine List.map_congr_left fun i _ => ?_
  rw [Nat.zero_add]
theorem signs_lt {ns ms : List Int} (hn : figOk ns) (hm : figOk ms) : sLt (signsF ns) (signsF ms) = lexI ns ms := by
  unfold sLt
  rw [signs_fl hn.1, signs_fl hm.1]
  have := lex_fl codeAt ns ms 0 (hn.1.trans hm.1.symm) fun i hi => by
    rw [hn.1] at hi
    rw [Nat.zero_add]
    exact ⟨code_lt hi (hn.2 i hi) (hm.2 i hi), code_lt hi (hm.2 i hi) (hn.2 i hi)⟩
  rw [Bool.eq_iff_iff, decide_eq_true_eq]; exact this
theorem signs_name {ns : List Int} (hn : figOk ns) : Name (signsF ns) ∧ (signsF ns).length ≤ 10 := by
  have e := signs_cps ns
  refine ⟨⟨by rw [e]; intro z; have := congrArg List.length z; simp at this, ?_⟩, ?_⟩
  · rw [e]
    intro h
    obtain ⟨k, hk, e2⟩ := List.mem_map.mp h
    rw [List.mem_range] at hk
    have h8 := signRows_len k hk
    have hv := hn.2 k hk
    have := code_ok ⟨k, hk⟩ ⟨(ns.getD k 0).toNat, by omega⟩ (by dsimp only; omega)
    dsimp only at this
    rw [Int.toNat_of_nonneg hv.1] at this
    exact this e2
  · rw [len_toList, e, List.length_map, List.length_range]; exact Nat.le_refl _
/-- what the walk of law has in its hands at the end, without the program -/
theorem lexI_as {a b : List Int} (h : lexI a b = true) : lexI b a = false := by
  cases e : lexI b a with
  | false => rfl
  | true => exact absurd ((lexI_irr a).symm.trans (lexI_tr h e)) (by decide)
theorem perm_sorted {α : Type} {lt : α → α → Bool} (as : ∀ a b, lt a b = true → lt b a = false) : ∀ {l m : List α}, l.Perm m → l.Pairwise (fun a b => lt a b = true) → m.Pairwise (fun a b => lt a b = true) → l = m
  | [], m, hp, _, _ => (List.nil_perm.mp hp).symm
  | a :: l, [], hp, _, _ => absurd hp.symm (List.not_perm_nil_cons _ _)
  | a :: l, b :: m, hp, hl, hm => by
    rw [List.pairwise_cons] at hl hm
    have ab : a = b := by
      rcases List.mem_cons.mp (hp.mem_iff.mp (.head _)) with e | ha
      · exact e
      · rcases List.mem_cons.mp (hp.symm.mem_iff.mp (.head _)) with e | hb
        · exact e.symm
        · have h1 := hm.1 a ha
          have h2 := hl.1 b hb
          rw [as _ _ h1] at h2; cases h2
    subst ab
    rw [perm_sorted as hp.cons_inv hl.2 hm.2]
section
variable {O : List (List Int)} {K : List (List Int)} {rs : List Int}
/-- ranks of keys among the sorted ones -/
theorem sorted_idx (hs : O.Pairwise (fun a b => lexI a b = true)) {i j : Nat} (hi : i < O.length) (hj : j < O.length) : lexI O[i] O[j] = decide (i < j) := by
  rcases Nat.lt_trichotomy i j with h | h | h
  · rw [decide_eq_true h]; exact List.pairwise_iff_getElem.mp hs i j hi hj h
  · subst h; rw [lexI_irr, decide_eq_false (by omega)]
  · rw [decide_eq_false (by omega)]; exact lexI_as (List.pairwise_iff_getElem.mp hs j i hj hi h)
def tx (O : List (List Int)) (r : Int) : Str := signsF (O.getD r.toNat [])
theorem tx_lt (hs : O.Pairwise (fun a b => lexI a b = true)) (ho : ∀ f ∈ O, figOk f) {r q : Int} (hr : 0 ≤ r ∧ r < O.length) (hq : 0 ≤ q ∧ q < O.length) : sLt (tx O r) (tx O q) = ltI r q := by
  have h1 : r.toNat < O.length := by omega
  have h2 : q.toNat < O.length := by omega
  unfold tx
  rw [List.getD_eq_getElem?_getD, List.getD_eq_getElem?_getD, List.getElem?_eq_getElem h1, List.getElem?_eq_getElem h2, Option.getD_some, Option.getD_some, signs_lt (ho _ (List.getElem_mem h1)) (ho _ (List.getElem_mem h2)), sorted_idx hs h1 h2]
  unfold ltI
  rw [decide_eq_decide]; omega
theorem tx_inj (hs : O.Pairwise (fun a b => lexI a b = true)) (ho : ∀ f ∈ O, figOk f) {r q : Int} (hr : 0 ≤ r ∧ r < O.length) (hq : 0 ≤ q ∧ q < O.length) (h : tx O r = tx O q) : r = q := by
  have a := tx_lt hs ho hr hq
  have b := tx_lt hs ho hq hr
  have c := tx_lt hs ho hr hr
  rw [h] at a b c
  rw [c] at a b
  unfold ltI at a b
  have a' := of_decide_eq_false (a.symm.trans (decide_eq_false (Int.lt_irrefl r)))
  have b' := of_decide_eq_false (b.symm.trans (decide_eq_false (Int.lt_irrefl r)))
  omega
theorem map_tx_inj (hs : O.Pairwise (fun a b => lexI a b = true)) (ho : ∀ f ∈ O, figOk f) : ∀ {l m : List Int}, (∀ r ∈ l, 0 ≤ r ∧ r < O.length) → (∀ r ∈ m, 0 ≤ r ∧ r < O.length) → l.map (tx O) = m.map (tx O) → l = m
  | [], [], _, _, _ => rfl
  | [], _ :: _, _, _, h => by simp at h
  | _ :: _, [], _, _, h => by simp at h
  | a :: l, b :: m, hl, hm, h => by
    rw [List.map_cons, List.map_cons] at h
    injection h with h1 h2
    rw [tx_inj hs ho (hl a (.head _)) (hm b (.head _)) h1, map_tx_inj hs ho (fun r hr => hl r (.tail _ hr)) (fun r hr => hm r (.tail _ hr)) h2]
theorem ss_tx (hs : O.Pairwise (fun a b => lexI a b = true)) (ho : ∀ f ∈ O, figOk f) {l : List Int} (hl : ∀ r ∈ l, 0 ≤ r ∧ r < O.length) : ssOut sLt (l.map (tx O)) = (ssOut ltI l).map (tx O) :=
  ssOut_map (tx O) sLt ltI l fun a ha b hb => tx_lt hs ho (hl a ha) (hl b hb)
/-- the first pass: what is due -/
theorem due_is {rs : List Int} {qf : List (List Int)} (hn : rs.Nodup) (hp : qf.Perm ((List.range rs.length).map fun j => [((placeF rs j : Nat) : Int), rs.getD j 0])) (hs : qf.Pairwise (fun a b => lexI a b = true)) : qf.map (fun k => k.getD 1 0) = ssOut ltI rs := by
  obtain ⟨idx, e, hpi, hw⟩ := ss_spec rs
  have hlen : idx.length = rs.length := by rw [hpi.length_eq, List.length_range]
  have e1 : idx.map (fun j => [((placeF rs j : Nat) : Int), rs.getD j 0]) = (List.range idx.length).map fun k : Nat => [((k : Nat) : Int), gt rs (idx.getD k 0)] := by
    apply List.ext_getElem
    · simp
    · intro k h1 h2
      have hk : k < idx.length := by simpa using h1
      rw [List.getElem_map, List.getElem_map, List.getElem_range, place_at hpi hw hk, List.getD_eq_getElem?_getD (l := idx), List.getElem?_eq_getElem hk]; rfl
  have hp2 : qf.Perm ((List.range idx.length).map fun k : Nat => [((k : Nat) : Int), gt rs (idx.getD k 0)]) := by
    rw [← e1]; exact hp.trans (hpi.map _).symm
  have hs2 : ((List.range idx.length).map fun k : Nat => [((k : Nat) : Int), gt rs (idx.getD k 0)]).Pairwise (fun a b => lexI a b = true) := by
    rw [List.pairwise_map]
    refine List.pairwise_lt_range.imp fun {a b} h => ?_
    rw [lexI, if_neg (by omega), decide_eq_true_eq]; omega
  rw [perm_sorted (fun a b => lexI_as) hp2 hs hs2, List.map_map, e]
  apply List.ext_getElem
  · simp
  · intro k h1 h2
    have hk : k < idx.length := by simpa using h1
    rw [List.getElem_map, List.getElem_map, List.getElem_range]
    show gt rs (idx.getD k 0) = _
    rw [List.getD_eq_getElem?_getD, List.getElem?_eq_getElem hk]; rfl
end
section
variable {xs : List Int} {os qs : List (Addr × List Int)} {es : List KEnt} {ts : List TEnt} {rs : List Int} {tcs mcs dcs outs1 outs2 : List (Str × Tok)}
theorem O_sorted (hsrt : os.Pairwise (fun a b => lexI a.2 b.2 = true)) : (os.map (·.2)).Pairwise (fun a b => lexI a b = true) := by rw [List.pairwise_map]; exact hsrt
theorem O_mem (hperm : os.Perm (es.map KEnt.key)) : ∀ e ∈ es, e.fs ∈ os.map (·.2) := fun e he => (hperm.map (·.2)).mem_iff.mpr (by rw [keys_fs]; exact List.mem_map_of_mem he)
theorem O_ok (hperm : os.Perm (es.map KEnt.key)) (hes : es.map KEnt.fs = (dd xs).map figs) : ∀ f ∈ os.map (·.2), figOk f := fun f hf => by
  have := (hperm.map (·.2)).mem_iff.mp hf
  rw [keys_fs, hes] at this
  obtain ⟨x, _, rfl⟩ := List.mem_map.mp this
  exact figOk_figs x
theorem O_at {f : List Int} (h : f ∈ os.map (·.2)) : (os.map (·.2)).getD (rk os f) [] = f := by
  have hl := List.idxOf_lt_length_of_mem h
  unfold rk
  rw [List.getD_eq_getElem?_getD, List.getElem?_eq_getElem hl, Option.getD_some]
  exact List.getElem_idxOf hl
theorem rs_tx (hperm : os.Perm (es.map KEnt.key)) (hrs : rs = es.map fun e => ((rk os e.fs : Nat) : Int)) : rs.map (tx (os.map (·.2))) = (es.map KEnt.fs).map signsF := by
  rw [hrs, List.map_map, List.map_map]
  refine List.map_congr_left fun e he => ?_
  show signsF ((os.map (·.2)).getD (rk os e.fs : Int).toNat []) = signsF e.fs
  rw [Int.toNat_natCast, O_at (O_mem hperm e he)]
theorem rs_range (hperm : os.Perm (es.map KEnt.key)) (hrs : rs = es.map fun e => ((rk os e.fs : Nat) : Int)) : ∀ r ∈ rs, 0 ≤ r ∧ r < ((os.map (·.2)).length : Int) := by
  rw [List.length_map]; exact rs_bound (O_mem hperm) hrs
theorem mcs_is (hes : es.map KEnt.fs = (dd xs).map figs) (hmcs : mcs.map (·.1) = (dd xs).map fmode) : mcs.map (·.1) = (es.map KEnt.fs).map signsF := by
  rw [hmcs, hes, List.map_map]
  exact List.map_congr_left fun x _ => fmode_signs x
theorem getD_map_tx {O : List (List Int)} {r : Int} (h : 0 ≤ r ∧ r < O.length) : (O.map signsF).getD r.toNat Str.empty = tx O r := by
  have h1 : r.toNat < O.length := by omega
  unfold tx
  rw [List.getD_eq_getElem?_getD, List.getD_eq_getElem?_getD, List.getElem?_map, List.getElem?_eq_getElem h1]; rfl
theorem once_is (hperm : os.Perm (es.map KEnt.key)) (hsrt : os.Pairwise (fun a b => lexI a.2 b.2 = true)) (hes : es.map KEnt.fs = (dd xs).map figs) (hmcs : mcs.map (·.1) = (dd xs).map fmode)
    (hrs : rs = es.map fun e => ((rk os e.fs : Nat) : Int)) (houts1 : outs1.map (·.1) = ssOut sLt (mcs.map (·.1))) : outs1.map (·.1) = (ssOut ltI rs).map (tx (os.map (·.2))) := by
  rw [houts1, mcs_is hes hmcs, ← rs_tx hperm hrs, ss_tx (O_sorted hsrt) (O_ok hperm hes) (rs_range hperm hrs)]
theorem plain_once (hperm : os.Perm (es.map KEnt.key)) (hsrt : os.Pairwise (fun a b => lexI a.2 b.2 = true)) (hes : es.map KEnt.fs = (dd xs).map figs) (hmcs : mcs.map (·.1) = (dd xs).map fmode)
    (hrs : rs = es.map fun e => ((rk os e.fs : Nat) : Int)) (houts1 : outs1.map (·.1) = ssOut sLt (mcs.map (·.1))) (htcs : tcs.map (·.1) = os.map fun k => signsF k.2) (hrn : rs.Nodup)
    (hts : ts.map TEnt.fs = (List.range rs.length).map fun j => [((placeF rs j : Nat) : Int), rs.getD j 0]) (hpermq : qs.Perm (ts.map TEnt.key)) (hsrtq : qs.Pairwise (fun a b => lexI a.2 b.2 = true))
    (hdcs : dcs.map (·.1) = qs.map fun k => (tcs.map (·.1)).getD (k.2.getD 1 0).toNat Str.empty) : outs1.map (·.1) = dcs.map (·.1) := by
  rw [once_is hperm hsrt hes hmcs hrs houts1]
  have hT : tcs.map (·.1) = (os.map (·.2)).map signsF := by rw [htcs, List.map_map]; rfl
  have hq : (qs.map (·.2)).map (fun k => k.getD 1 0) = ssOut ltI rs := due_is hrn (by
    have := hpermq.map (·.2)
    rw [List.map_map] at this
    exact this.trans (by rw [show ts.map ((·.2) ∘ TEnt.key) = ts.map TEnt.fs from rfl, hts])) (O_sorted hsrtq)
  rw [hdcs, ← hq, List.map_map, List.map_map]
  refine List.map_congr_left fun k hk => ?_
  obtain ⟨e, he, rfl⟩ := List.mem_map.mp (hpermq.mem_iff.mp hk)
  show tx (os.map (·.2)) e.r = (tcs.map (·.1)).getD e.r.toNat Str.empty
  rw [hT, getD_map_tx (rs_range hperm hrs e.r (ts_r hts he))]
theorem O_nodup {O : List (List Int)} (hs : O.Pairwise (fun a b => lexI a b = true)) : O.Nodup := hs.imp fun {a b} h e => by rw [e, lexI_irr] at h; cases h
theorem rs_perm (hperm : os.Perm (es.map KEnt.key)) (hsrt : os.Pairwise (fun a b => lexI a.2 b.2 = true)) (hrs : rs = es.map fun e => ((rk os e.fs : Nat) : Int)) : rs.Perm ((List.range os.length).map fun k : Nat => (k : Int)) := by
  have h1 : ((os.map (·.2)).map fun f => ((rk os f : Nat) : Int)) = (List.range os.length).map fun k : Nat => (k : Int) := by
    apply List.ext_getElem
    · simp
    · intro i h1 h2
      have hi : i < (os.map (·.2)).length := by simpa using h1
      have hm := List.getElem_mem hi
      have hl := List.idxOf_lt_length_of_mem hm
      have e := List.getElem_idxOf hl
      have hs := O_sorted hsrt
      have : List.idxOf (os.map (·.2))[i] (os.map (·.2)) = i := by
        have q := sorted_idx hs hl hi
        have q2 := sorted_idx hs hi hl
        rw [e, lexI_irr] at q q2
        have a := of_decide_eq_false q.symm
        have b := of_decide_eq_false q2.symm
        omega
      rw [List.getElem_map (fun f => ((rk os f : Nat) : Int)), List.getElem_map (fun k : Nat => (k : Int)), List.getElem_range]
      show ((List.idxOf (os.map (·.2))[i] (os.map (·.2)) : Nat) : Int) = _
      rw [this]
  have h2 := ((hperm.map (·.2)).symm.map fun f => ((rk os f : Nat) : Int))
  rw [h1, keys_fs, List.map_map] at h2
  rw [hrs]; exact h2
theorem range_sorted (n : Nat) : ((List.range n).map fun k : Nat => (k : Int)).Pairwise (· < ·) := by
  rw [List.pairwise_map]
  exact List.pairwise_lt_range.imp fun {a b} h => by omega
theorem plain_twice (hperm : os.Perm (es.map KEnt.key)) (hsrt : os.Pairwise (fun a b => lexI a.2 b.2 = true)) (hes : es.map KEnt.fs = (dd xs).map figs) (hmcs : mcs.map (·.1) = (dd xs).map fmode)
    (hrs : rs = es.map fun e => ((rk os e.fs : Nat) : Int)) (houts1 : outs1.map (·.1) = ssOut sLt (mcs.map (·.1))) (htcs : tcs.map (·.1) = os.map fun k => signsF k.2) (hrn : rs.Nodup)
    (houts2 : outs2.map (·.1) = ssOut sLt (outs1.map (·.1))) : (decide (outs2.map (·.1) = tcs.map (·.1)) == !hindF rs) = true := by
  have hs := O_sorted hsrt
  have ho := O_ok hperm hes
  have hb := rs_range hperm hrs
  have hp1 := (nodup_out hrn).2
  have hn1 := (nodup_out hrn).1
  have hb1 : ∀ r ∈ ssOut ltI rs, 0 ≤ r ∧ r < ((os.map (·.2)).length : Int) := fun r hr => hb r (hp1.mem_iff.mp hr)
  have hp2 := (nodup_out hn1).2
  have hb2 : ∀ r ∈ ssOut ltI (ssOut ltI rs), 0 ≤ r ∧ r < ((os.map (·.2)).length : Int) := fun r hr => hb1 r (hp2.mem_iff.mp hr)
  have e2 : outs2.map (·.1) = (ssOut ltI (ssOut ltI rs)).map (tx (os.map (·.2))) := by
    rw [houts2, once_is hperm hsrt hes hmcs hrs houts1, ss_tx hs ho hb1]
  have eT : tcs.map (·.1) = ((List.range os.length).map fun k : Nat => (k : Int)).map (tx (os.map (·.2))) := by
    rw [htcs, List.map_map]
    apply List.ext_getElem
    · simp
    · intro i h1 h2
      have hi : i < os.length := by simpa using h1
      rw [List.getElem_map, List.getElem_map, List.getElem_range]
      show _ = signsF ((os.map (·.2)).getD (i : Int).toNat [])
      rw [Int.toNat_natCast, List.getD_eq_getElem?_getD, List.getElem?_map, List.getElem?_eq_getElem hi]; rfl
  have hbr : ∀ r ∈ (List.range os.length).map fun k : Nat => (k : Int), 0 ≤ r ∧ r < ((os.map (·.2)).length : Int) := fun r hr => by
    obtain ⟨k, hk, rfl⟩ := List.mem_map.mp hr
    rw [List.mem_range] at hk
    rw [List.length_map]; omega
  have hpr := hp2.trans (hp1.trans (rs_perm hperm hsrt hrs))
  have key : (outs2.map (·.1) = tcs.map (·.1)) ↔ (ssOut ltI (ssOut ltI rs)).Pairwise (· < ·) := by
    rw [e2, eT]
    constructor
    · intro h
      rw [map_tx_inj hs ho hb2 hbr h]
      exact range_sorted _
    · intro h
      have h' : (ssOut ltI (ssOut ltI rs)).Pairwise (fun a b => ltI a b = true) := h.imp fun {a b} q => decide_eq_true q
      have h'' : ((List.range os.length).map fun k : Nat => (k : Int)).Pairwise (fun a b => ltI a b = true) := (range_sorted _).imp fun {a b} q => decide_eq_true q
      rw [perm_sorted (lt := ltI) (fun a b q => by have := of_decide_eq_true q; exact decide_eq_false (by omega)) hpr h' h'']
  have k2 := key.trans (west hrn)
  cases hh : hindF rs with
  | true =>
    rw [hh] at k2
    rw [decide_eq_false fun q => absurd (k2.mp q) (by decide)]; rfl
  | false => rw [decide_eq_true (k2.mpr hh)]; rfl
end
theorem fmode_name (z : Int) : Name (fmode z) ∧ (fmode z).length ≤ 10 := by rw [fmode_signs]; exact signs_name (figOk_figs z)
end Mine
end
section
open PySem PySem.W PyProof.Rows PySem.Calls
set_option Elab.async false
set_option maxRecDepth 100000
set_option maxHeartbeats 8000000
namespace Mine
theorem fill_here13 : True := by w_top off; trivial
local macro_rules | `(tactic| walk_at "exec For Name BinOp cons nil") => `(tactic| (k_here; refine Hold.out ?_))
theorem item_root {prog : Program} {w : World} {A : Around} {E : Value → Shared → Prop} {s : Shared} {Q : Value → Shared → Prop} {value slice : Expr} {D : Addr} {t0 t1 t2 u : Tok} {e : Int} (ho : s.heap.get? D = some { cls := .type "tuple", data := .seq #[.str (Str.ofString "") t0, .str (Str.ofString "/") t1, .str (Str.ofString "//") t2] })
    (h0 : 0 ≤ e) (h1 : e < 3) (h : ∀ r t, IsRoot r → Q (.str r t) s)
    (hs : subscripted slice false (.ref D) (.int e u) = operate [.ref D, .int e u] (getItem (.ref D) (.int e u))) :
    wpAny (model prog w) A (subscriptTail value slice (.ref D) (.int e u)) Q E s := by
  have hT : IsTup s.heap D #[.str (Str.ofString "") t0, .str (Str.ofString "/") t1, .str (Str.ofString "//") t2] := ⟨_, ho, rfl, _, rfl⟩
  have : e = 0 ∨ e = 1 ∨ e = 2 := by omega
  rcases this with rfl | rfl | rfl
  · exact item_tupleT (l := [.str (Str.ofString "") t0, .str (Str.ofString "/") t1, .str (Str.ofString "//") t2]) (j := 0) hT (by decide) (by decide) rfl rfl (h _ _ (.inl rfl)) hs
  · exact item_tupleT (l := [.str (Str.ofString "") t0, .str (Str.ofString "/") t1, .str (Str.ofString "//") t2]) (j := 1) hT (by decide) (by decide) rfl rfl (h _ _ (.inr (.inl rfl))) hs
  · exact item_tupleT (l := [.str (Str.ofString "") t0, .str (Str.ofString "/") t1, .str (Str.ofString "//") t2]) (j := 2) hT (by decide) (by decide) rfl rfl (h _ _ (.inr (.inr rfl))) hs
local macro_rules | `(tactic| walk_at "subscriptTail Tuple cons BinOp ref int") => `(tactic| (k_here; k_dflt (refine' item_root ?a ?b ?c ?_ ?d; (case a => exact News.get (by k_asm) (by k_mem)); (case b => exact fm0 _ (by decide)); (case c => exact fm1 _ (by decide)); (case d => with_unfolding_all rfl)); intro r9 t9 hr9))
local macro_rules | `(tactic| walk_at "eval Name") => `(tactic| (k_here; k_dflt (refine' nmB ?k1 ?k2 ?k3 ?k4 ?k5 ?k6 ?_ ?a1 ?a2 ?a3 ?a4 ?a5; (case a1 => rfl); (case a2 => rfl); (case a3 => rfl); (case a4 => rfl); (case a5 => decide); (case k1 => k_asm); (case k2 => k_asm); (case k3 => k_asm); (case k4 => k_is); (case k5 => boot_by_name); (case k6 => decide); k_whole)))
local macro_rules | `(tactic| walk_at "eval Name") => `(tactic| (k_here; k_dflt (refine' nmG ?k1 ?k2 ?k3 ?k4 ?_ ?a1 ?a3 ?a4 ?a5; (case a1 => rfl); (case a3 => rfl); (case a4 => rfl); (case a5 => decide); (case k1 => k_asm); (case k2 => k_asm); (case k3 => k_asm); (case k4 => k_is); k_whole)))
local macro_rules | `(tactic| walk_at "eval Name") => `(tactic| (k_here; k_dflt (refine' nmC ?k1 ?k2 ?k3 ?_ ?a3 ?a4 ?a5; (case a3 => rfl); (case a4 => rfl); (case a5 => decide); (case k1 => k_asm); (case k2 => rfl); (case k3 => k_asm); k_whole)))
local macro_rules | `(tactic| walk_at "eval Name") => `(tactic| (k_here; k_dflt (refine' nmL ?k1 ?k2 ?k3 ?_ ?a3 ?a4 ?a5; (case a3 => rfl); (case a4 => rfl); (case a5 => decide); (case k1 => k_asm); (case k2 => rfl); (case k3 => first | exact rfl | assumption); k_whole)))
local macro_rules | `(tactic| k_all) => `(tactic| assumption)
local macro_rules | `(tactic| walk_at "call builtin:len") => `(tactic| (k_here; k_dflt (refine' len_led ?k1 ?k2 ?k3 ?_; (case k1 => k_asm); (case k2 => k_mem); (case k3 => omega); k_whole); intro t9 tk9))
local macro_rules | `(tactic| walk_at "call builtin:list.append") => `(tactic| (k_here; refine Hold.out ?_))
local macro_rules | `(tactic| walk_at "call builtin:sorted") => `(tactic| (k_here; refine Hold.out ?_))
local macro_rules | `(tactic| walk_at "getMethod ref") => `(tactic| (k_here; (with_reducible show wpAny _ _ (getMethod (Value.ref _) (PySem.Str.ofString "index") _) _ _ _); refine Hold.out ?_))
local macro_rules | `(tactic| walk_at "subscriptTail Name Name ref int") => `(tactic| (k_here; (with_reducible show wpAny _ _ (subscriptTail (Expr.Name (PySem.Str.ofString "texts") _) _ _ _) _ _ _); refine Hold.out ?_))
local macro_rules | `(tactic| walk_at "compareOp NotEq ref ref") => `(tactic| (k_here; refine Hold.out ?_))
local macro_rules | `(tactic| walk_at "compareOp Eq ref ref") => `(tactic| (k_here; refine Hold.out ?_))
local macro_rules | `(tactic| walk_at "call builtin:list.index") => `(tactic| (k_here; refine Hold.out ?_))
local macro_rules | `(tactic| walk_at "eval ListComp") => `(tactic| (k_here; refine Hold.out ?_))
local macro_rules | `(tactic| walk_at "exec Assign cons ListComp") => `(tactic| (k_here; refine wpAny_Assign_Name ?_))
local macro_rules | `(tactic| walk_at "call ref") => `(tactic| (k_here; refine Hold.out ?_))
local macro_rules | `(tactic| walk_at "call ref") => `(tactic| (k_here; (k_dflt (refine' use_new (figures_gives _ _ _) ?k1 ?k2 ?k3 ?k4 ?k5 ?k6 ?k7 ?k8 ?_; (case k1 => k_asm); (case k2 => k_asm); (case k3 => k_asm); (case k4 => k_asm); (case k5 => exact rfl); (case k6 => exact Nat.le_of_ble_eq_true rfl); (case k7 => exact Nat.le_of_ble_eq_true rfl); (case k8 => first | exact trivial | assumption); k_whole)); intro D9 x9 h' tk' F' N' hne9 hs9 hp9; clear hs9; (replace hne9 := allNe_of hne9; simp only [AllNe, and_true] at hne9); (try dsimp only); (try k_fold)))
local macro_rules | `(tactic| walk_at "compareOp NotIn ref ref") => `(tactic| (k_here; refine Hold.out ?_))
theorem law_gives (w : World) (l : Addr) (vs : List Value) (ns : List Int) (hlen : ns.length ≤ 63) : Gives 217 0 w [.ref l] (fun h => h.IsList l vs.toArray ∧ IntsAre vs ns) (fun v _ _ => v = .bool true) := by
  intro prog A s p loose mean mg mb Q E X T hh hd hu hpre hret
  obtain ⟨hil, hiv⟩ := hpre
  refine wpAny_lv (A' := Lv 0) ?_ hh.symm hd rfl rfl hu
  clear hh hd hu
  (k_dflt (refine' enter_defC (binds := [("script", .ref l)]) ?k1_q14 ?k2_q14 ?k6_q14 ?k7_q14 ?k8_q14 ?k9_q14 ?kB_q14 ?kD_q14 ?_ ?c2_q14 ?c3_q14 ?c4_q14; (case k1_q14 => assumption); (case k2_q14 => assumption); (case k6_q14 => k_is); (case k7_q14 => k_is); (case k8_q14 => decide); (case k9_q14 => exact BindsTo.of_eq rfl); (case kB_q14 => exact rfl); (case kD_q14 => decide +kernel); (case c2_q14 => exact rfl); (case c3_q14 => exact rfl); (case c4_q14 => exact rfl); k_whole); intro L' h' tk' cells' eL F' N' Y'; k_cells Y'; (try simp only [List.cons_append, List.nil_append] at N'); (try dsimp only); (try k_fold))
  rename_i o1 o2 o3 d1 d2 d3
  replace d1 : o1.data = .cell none := d1
  replace d2 : o2.data = .cell none := d2
  replace d3 : o3.data = .cell none := d3
  replace F' : Fr s.heap L' h' (fun y => if y = Str.ofString "script" then some (.ref l) else none) := F'
  k_steps
  rename (IsRoot _) => hroot
  rename_i r9 t9 h9 tk9 om h8 l8 ok h7 l7 Dt h6 l6 h5 h4 h3 kF0 kN0
  unfold Hold
  with_unfolding_all refine wpAny_For ?_
  k_steps
  rename Fr _ _ _ _ => kF
  rename News _ _ _ _ => kN
  rename (IntsAre _ (_ ++ _)) => hws
  rename (IsRoot _) => hroot
  obtain ⟨xs, hxs⟩ : ∃ xs, xs = List.take 4 ns ++ [35300, 17389, 35245, 33261, 33188] := ⟨_, rfl⟩
  rw [← hxs] at hws
  have hxl : xs.length ≤ 9 := by rw [hxs]; simp; omega
  have hwl := hws.length
  rename_i Da ws1 h2 hI1 hC1 hL1 l2 lb h1 l1 D ws hz l0
  clear hI1 hC1 hL1
  refine' iter_list (items := ws) (LawJ xs r9 t9 D (PySem.W.listOf ws.toArray 0) (L' + 1 + 1 + 1, o1) (L' + 1 + 1, o2) (L' + 1, o3)) ?b1 ?b2 ?b3 ?b4 ?b5 kF (?b6 : News s.heap L' _ ((om, PySem.W.listOf #[] 0) :: (ok, PySem.W.listOf #[] 0) :: (D, PySem.W.listOf ws.toArray 0) :: (L' + 1 + 1 + 1, o1) :: (L' + 1 + 1, o2) :: (L' + 1, o3) :: [])) ?b7 ?b8 ?turn ?done
  case b1 => rfl
  case b2 => rfl
  case b3 => rfl
  case b4 => exact PassesOwn.never
  case b7 => rfl
  case b8 =>
    refine ⟨om, ok, [], 0, 0, [], rfl, .nil, rfl, (fun _ h => nomatch h), ?_, (fun _ h => nomatch h), (fun _ h => nomatch h), (fun _ h => nomatch h), (fun _ h => nomatch h), (fun _ h => nomatch h), rfl, rfl, rfl⟩
    dsimp only
    exact ⟨Nat.ne_of_lt l7.1, Nat.ne_of_lt l0.2.2.2.2.1, Nat.ne_of_gt l8.2.2.1, Nat.ne_of_gt l8.2.2.2.1, Nat.ne_of_gt l8.2.2.2.2, Nat.ne_of_lt l0.2.2.2.1, Nat.ne_of_gt l7.2.2.2.1, Nat.ne_of_gt l7.2.2.2.2.1, Nat.ne_of_gt l7.2.2.2.2.2⟩
  case b6 =>
    intro p hp
    simp only [List.mem_cons, List.not_mem_nil, or_false] at hp
    rcases hp with rfl | rfl | rfl | rfl | rfl | rfl <;> exact kN _ (by k_mem)
  case b5 =>
    rintro i m₁ news₁ h ⟨om', ok', mvs, n1, n2, es, rfl, _⟩ _ N1
    exact ⟨_, (N1 _ (.tail _ (.tail _ (.head _)))).1, rfl, _, rfl⟩
  case turn =>
    clear kF kN
    (try clear kF0)
    (try clear kN0)
    (try clear F')
    (try clear N')
    clear l0 l1 l2 l6 l7 l8
    clear d1 d2 d3 hret hiv
    intro i v m₁ news₁ h tk I1 it1 hi hit1 hlt1 hoff1 hJ F N
    obtain ⟨om', ok', mvs, n1, n2, es, rfl, hmv, hes, hkok, hdist, hka, hkb, hkc1, hkc2, hkc3, hmodes, hkeys, hroot1⟩ := hJ
    have hoffs : ∀ p ∈ es.map KEnt.ent, p.1 ≠ I1 := fun p hp => hoff1 p (by simp [hp])
    have hil' : i < xs.length := hwl ▸ (List.getElem?_eq_some_iff.mp hi).1
    obtain ⟨t1, hv⟩ := IntsAre.at' hws (i := i) (by exact (List.getElem?_eq_some_iff.mp hi).1)
    rw [hi] at hv
    obtain rfl : v = _ := Option.some.inj hv
    have hml := hmv.length
    have hdl := dd_len (xs.take i)
    have hel := congrArg List.length hes
    rw [List.length_map, List.length_map] at hel
    rw [List.length_take] at hdl
    have hml9 : mvs.length ≤ 9 := by rw [hml]; exact Nat.le_trans hdl (Nat.le_trans (Nat.min_le_right _ _) hxl)
    have hel9 : es.length ≤ 9 := by rw [hel]; exact Nat.le_trans hdl (Nat.le_trans (Nat.min_le_right _ _) hxl)
    clear hml hdl hel
    (replace hoff1 := allNe_of hoff1; simp only [AllNe, and_true] at hoff1)
    clear hlt1 hv
    (try k_fold)
    k_steps
    unfold Hold
    rename Fr _ _ _ _ => kF
    rename News _ _ _ _ => kN
    rename (IntsAre _ (figs _)) => hp9
    clear F N
    have hK : KeysAt _ (es.map KEnt.key) := keysAt_of kN (fun e he => .tail _ (.tail _ (.tail _ (.tail _ (.tail _ (.tail _ (.tail _ (.tail _ (List.mem_map_of_mem he))))))))) hkok
    refine notIn_keys (News.isList kN (by k_mem)) hK ⟨_, News.isList kN (.head _), hp9⟩ (figs_len _) (Nat.le_of_ble_eq_true rfl) ?_
    rename (@Ne Nat I1 _ ∧ _) => hne9
    clear hp9 hK hne9
    k_steps
    · rename (List.any _ _ = _) => hany
      rename Fr _ _ _ _ => kF
      rename News _ _ _ _ => kN
      exact law_no kF kN (by k_mem) (fun p hp => .tail _ (.tail _ hp)) (by simp only [List.forall_mem_cons]; exact ⟨hoff1.1, hoff1.2.1, hoff1.2.2.1, hoff1.2.2.2.1, hoff1.2.2.2.2.1, hoff1.2.2.2.2.2.1, hoffs⟩) hil' hmv hes hkok hdist hka hkb hkc1 hkc2 hkc3 hmodes hkeys hroot1 hany
    · unfold Hold
      rename Fr _ _ _ _ => kF
      rename News _ _ _ _ => kN
      refine append_led kF kN (D := om') (by k_mem) (by simp only [List.size_toArray]; exact Nat.le_trans hml9 (by decide)) ((I1, it1) :: (ok', PySem.W.listOf (refsOf (es.map KEnt.key)).toArray n2) :: (D, PySem.W.listOf ws.toArray 0) :: (L' + 1 + 1 + 1, o1) :: (L' + 1 + 1, o2) :: (L' + 1, o3) :: es.map KEnt.ent) ?_ ?_ ?_
      · intro p hp
        simp only [List.mem_cons] at hp ⊢
        rcases hp with h | h | h | h | h | h | h <;> simp [h]
      · simp only [List.forall_mem_cons]
        obtain ⟨q1, q2, q3, q4, q5, q6, q7, q8, q9⟩ := hdist
        exact ⟨Ne.symm hoff1.1, Ne.symm q1, Ne.symm q2, Ne.symm q3, Ne.symm q4, Ne.symm q5, hka⟩
      intro h7' F7' N7'
      clear kF kN
      k_steps
      unfold Hold
      rename (IntsAre _ (figs _)) => hp8
      rename Fr _ _ _ _ => kF
      rename News _ _ _ _ => kN
      rename_i D8 x8 h8 tk8 hne8
      have hne8' : @Ne Nat om' D8 ∧ _ := hne8
      obtain ⟨q1, q2, q3, q4, q5, q6, q7, q8, q9⟩ := hdist
      refine append_led kF kN (D := ok') (by k_mem) (by simp only [refsOf, List.size_toArray, List.length_map]; exact Nat.le_trans hel9 (by decide)) ((D8, PySem.W.listOf x8.1.toArray x8.2) :: (I1, it1) :: (om', PySem.W.listOf (mvs.toArray.push (Value.int (xs.getD i 0) t1)) (n1 + 1)) :: (D, PySem.W.listOf ws.toArray 0) :: (L' + 1 + 1 + 1, o1) :: (L' + 1 + 1, o2) :: (L' + 1, o3) :: es.map KEnt.ent) ?_ ?_ ?_
      · intro p hp
        simp only [List.mem_cons] at hp ⊢
        rcases hp with h | h | h | h | h | h | h | h <;> simp [h]
      · simp only [List.forall_mem_cons]
        exact ⟨Ne.symm hne8.2.2.1, Ne.symm hoff1.2.1, q1, Ne.symm q6, Ne.symm q7, Ne.symm q8, Ne.symm q9, hkb⟩
      intro h7' F7' N7'
      clear kF kN
      k_steps
      rename Fr _ _ _ _ => kF
      rename News _ _ _ _ => kN
      exact law_yes (e := ⟨D8, x8.1, x8.2, figs (xs.getD i 0)⟩) kF kN ⟨hoff1.1, hoff1.2.1, hoff1.2.2.1, hoff1.2.2.2.1, hoff1.2.2.2.2.1, hoff1.2.2.2.2.2.1⟩ hoffs ⟨Ne.symm hne8.2.1, Ne.symm hne8.1, Ne.symm hne8.2.2.1, Ne.symm hne8.2.2.2.2.1, Ne.symm hne8.2.2.2.2.2.1, Ne.symm hne8.2.2.2.2.2.2.1⟩
        hil' hmv hes hkok hp8 rfl ⟨q1, q2, q3, q4, q5, q6, q7, q8, q9⟩ hka hkb hkc1 hkc2 hkc3 hmodes hkeys hroot1 (by assumption)
  case done =>
    clear kF kN
    (try clear kF0)
    (try clear kN0)
    (try clear F')
    (try clear N')
    clear l0 l1 l2 l6 l7 l8
    intro m₁ news₁ h tk hJ F N
    obtain ⟨om', ok', mvs, n1, n2, es, rfl, hmv, hes, hkok, hdist, hka, hkb, hkc1, hkc2, hkc3, hmodes, hkeys, hroot1⟩ := hJ
    rw [hwl, List.take_length] at hmv hes
    dsimp only at hdist hkc1 hkc2 hkc3
    have hq : Hold _ := hdist
    clear hdist
    have hml := hmv.length
    have hel := congrArg List.length hes
    rw [List.length_map, List.length_map] at hel
    have hml9 : mvs.length ≤ 9 := by rw [hml]; exact Nat.le_trans (dd_len xs) hxl
    have hel9 : es.length ≤ 9 := by rw [hel]; exact Nat.le_trans (dd_len xs) hxl
    clear hlen eL hxl
    (try k_fold)
    k_steps
    unfold Hold
    have hel2 : 2 ≤ es.length := by rw [hel]; exact dd_two (by rw [hxs]; simp) (by rw [hxs]; simp)
    have hnd : ((es.map KEnt.key).map (·.2)).Nodup := by rw [keys_fs, hes]; exact dd_nodup xs
    refine sorted_keys F N (News.isList N (by k_mem)) (by rw [List.length_map]; exact hel2) (by rw [List.length_map]; exact Nat.lt_of_le_of_lt hel9 (by decide))
      (fun h' F' N' => keysAt_of N' (fun e he => .tail _ (.tail _ (.tail _ (.tail _ (.tail _ (.tail _ (List.mem_map_of_mem he))))))) hkok) hnd (Nat.le_of_ble_eq_true rfl) ?_
    intro Do os co h1' hperm hsrt F1 N1 hlt1
    have hne1 := fun q hq => Nat.ne_of_lt (hlt1 q hq)
    clear F N hlt1
    (try k_fold)
    k_steps
    refine storeC_led (c := L' + 1) (o := o3) F1 N1 (by k_mem) d3 ((Do, PySem.W.listOf (refsOf os).toArray co) :: (om', PySem.W.listOf mvs.toArray n1) :: (ok', PySem.W.listOf (refsOf (es.map KEnt.key)).toArray n2) :: (L' + 1 + 1 + 1, o1) :: (L' + 1 + 1, o2) :: es.map KEnt.ent) ?_ ?_ rfl rfl rfl ?_
    · intro p hp
      simp only [List.mem_cons] at hp ⊢
      rcases hp with h | h | h | h | h | h <;> simp [h]
    · simp only [List.forall_mem_cons]
      exact ⟨Ne.symm (hne1 (L' + 1, o3) (by k_mem)), hq.out.2.2.2.2.1, hq.out.2.2.2.2.2.2.2.2, ne31 L', ne21 L', hkc3⟩
    intro h2' o3' F2 N2 d3'
    clear F1 N1 d3
    k_steps
    unfold Hold
    have hKb : KeysAt h2' (es.map KEnt.key) := keysAt_of N2 (fun e he => .tail _ (.tail _ (.tail _ (.tail _ (.tail _ (.tail _ (List.mem_map_of_mem he))))))) hkok
    have hKo : KeysAt h2' os := fun k hk => hKb k (hperm.mem_iff.mp hk)
    have hol : os.length = es.length := by rw [hperm.length_eq, List.length_map]
    have hmem : ∀ e ∈ es, e.fs ∈ os.map (·.2) := fun e he => (hperm.map (·.2)).mem_iff.mpr (by rw [keys_fs]; exact List.mem_map_of_mem he)
    have hDo : h2'.IsList Do (refsOf os).toArray := News.isList N2 (by k_mem)
    refine comp_eval (fun i ys fz => fz = [] ∧ IntsAre ys ((es.take i).map fun e => ((rk os e.fs : Nat) : Int))) (by with_unfolding_all rfl) (by decide) rfl (by decide) ?_ (by intro _; rfl)
    k_steps
    rename Fr _ _ _ _ => kF
    rename News _ _ _ _ => kN
    refine' go_list_eval (items := refsOf (es.map KEnt.key)) ?hh ?hl ?sz kF kN ?J0 ?turn ?fin
    case hh => rfl
    case hl => exact News.isList kN (by k_mem)
    case sz => rw [refsOf, List.length_map, List.length_map]; exact Nat.le_trans hel9 (by decide)
    case J0 => exact ⟨rfl, .nil⟩
    case turn =>
      have X2 := X.keeps kF.keep
      have T2 := T.keeps kF.keep
      have hc3 : Heap.IsCell _ (L' + 1) (some (.ref Do)) := ⟨o3', kN.get (by k_mem), d3'⟩
      have hDo1 := (kN _ (by k_mem : (Do, PySem.W.listOf (refsOf os).toArray co) ∈ _)).1
      dsimp only
      intro i v ys fz C h tk m I it D acc hi hJ F N hne off
      obtain ⟨rfl, hys⟩ := hJ
      clear kF kN X T hret
      obtain ⟨e, hei, rfl⟩ : ∃ e, es[i]? = some e ∧ v = .ref e.at' := by
        simp only [refsOf, List.getElem?_map, Option.map_eq_some_iff] at hi
        obtain ⟨k, ⟨e, h1, rfl⟩, h2⟩ := hi
        exact ⟨e, h1, h2.symm⟩
      have hem := List.mem_of_getElem? hei
      refine turn_name0 F N (by rfl) (by rfl) ?_
      intro h' tk' F' N'
      clear F N
      (try k_fold)
      k_steps
      unfold Hold
      rename Fr _ _ _ _ => kF
      refine getMethod_list_of PySem.F.slot_list_index PySem.F.type_list_index (stays_list kF.keep hDo) ⟨_, kF.keep _ _ hDo1, rfl⟩ ?_
      k_steps
      unfold Hold
      refine index_keys (gs := e.fs) (j := rk os e.fs) (stays_list kF.keep hDo) (keysAt_keep hKo kF.keep) ((hKb e.key (List.mem_map_of_mem hem)).1.stays (kF.keep _)) (hkok e hem).2 (by rw [hol]; exact Nat.le_trans hel9 (by decide)) (rk_lt (hmem e hem)) (rk_at (hmem e hem)) (fun m hm => rk_no hm) (Nat.le_of_ble_eq_true rfl) ?_
      intro t9 tk9
      refine CpEnd.intro kF N' [] (.head _) (.tail _ (.head _)) (fun _ h => nomatch h) (fun _ h => nomatch h) ⟨rfl, ?_⟩
      rw [take_snoc hei, List.map_append]
      exact hys.append (.cons _ _ .nil)
    case fin =>
      intro Dr ys fz nn h' tk hJ F N hne hfz hst
      obtain ⟨rfl, hys⟩ := hJ
      rw [refsOf, List.length_map, List.length_map, List.take_length] at hys
      clear kF kN hst hfz
      rw [List.nil_append] at N hne
      (try k_fold)
      k_steps
      refine storeC_led (c := L' + 1 + 1) (o := o2) F N (by k_mem) d2 ((Dr, PySem.W.listOf ys.toArray nn) :: (L' + 1, o3') :: (Do, PySem.W.listOf (refsOf os).toArray co) :: (om', PySem.W.listOf mvs.toArray n1) :: (L' + 1 + 1 + 1, o1) :: es.map KEnt.ent) ?_ ?_ rfl rfl rfl ?_
      · intro p hp
        simp only [List.mem_cons] at hp ⊢
        rcases hp with h | h | h | h | h | h <;> simp [h]
      · simp only [List.forall_mem_cons]
        exact ⟨Ne.symm (hne (L' + 1 + 1, o2) (by k_mem)), Ne.symm (ne21 L'), Ne.symm (hne1 (L' + 1 + 1, o2) (by k_mem)), hq.out.2.2.2.1, ne32 L', hkc2⟩
      intro h3' o2' F3 N3 d2'
      clear F N d2
      k_steps
      unfold Hold
      have hyl := hys.length
      rw [List.length_map] at hyl
      have hfo : ∀ k ∈ os, figOk k.2 := fun k hk => O_ok hperm hes k.2 (List.mem_map_of_mem hk)
      refine comp_eval (fun i ys fz => fz = [] ∧ ∃ cs, ys = strValues cs ∧ cs.map (·.1) = (os.take i).map fun k => signsF k.2) (by with_unfolding_all rfl) (by decide) rfl (by decide) ?_ (by intro _; rfl)
      k_steps
      rename Fr _ _ _ _ => kF
      rename News _ _ _ _ => kN
      refine' go_list_eval (items := refsOf os) ?hh ?hl ?sz kF kN ?J0 ?turn ?fin
      case hh => rfl
      case hl => exact News.isList kN (by k_mem)
      case sz => rw [refsOf, List.length_map, hol]; exact Nat.le_trans hel9 (by decide)
      case J0 => exact ⟨rfl, [], rfl, rfl⟩
      case turn =>
        have X2 := X.keeps kF.keep
        have T2 := T.keeps kF.keep
        have hKb2 : KeysAt _ (es.map KEnt.key) := keysAt_of kN (fun e he => .tail _ (.tail _ (.tail _ (.tail _ (.tail _ (.tail _ (List.mem_map_of_mem he))))))) hkok
        dsimp only
        intro i v ys fz C h tk m I it D acc hi hJ F N hne off
        obtain ⟨rfl, cs, rfl, hcs⟩ := hJ
        clear kF kN X T hret
        obtain ⟨k, hki, rfl⟩ : ∃ k, os[i]? = some k ∧ v = .ref k.1 := by
          simp only [refsOf, List.getElem?_map, Option.map_eq_some_iff] at hi
          obtain ⟨k, h1, h2⟩ := hi
          exact ⟨k, h1, h2.symm⟩
        have hkm := List.mem_of_getElem? hki
        obtain ⟨⟨kvs, hkl, hkv⟩, _⟩ := hKb2 k (hperm.mem_iff.mp hkm)
        clear hKb2 hKb hKo
        refine turn_name0 F N (by rfl) (by rfl) ?_
        intro h' tk' F' N'
        clear F N
        (try k_fold)
        k_steps
        unfold Hold
        rename Fr _ _ _ _ => kF
        rename News _ _ _ _ => kN
        have hpre : Heap.IsList _ k.1 kvs.toArray ∧ IntsAre kvs k.2 := ⟨stays_list kF.keep hkl, hkv⟩
        (k_dflt (refine' use_gives (signs_gives _ _ kvs k.2 (hfo k hkm)) ?k1_q15 ?k2_q15 ?k3_q15 ?k4_q15 ?k5_q15 ?k6_q15 ?k7_q15 ?k8_q15 ?_; (case k1_q15 => k_asm); (case k2_q15 => k_asm); (case k3_q15 => k_asm); (case k4_q15 => k_asm); (case k5_q15 => exact rfl); (case k6_q15 => exact Nat.le_of_ble_eq_true rfl); (case k7_q15 => exact Nat.le_of_ble_eq_true rfl); (case k8_q15 => first | exact trivial | assumption); k_whole))
        intro v9 h9 tk9 F9 N9 hs9 hp9
        obtain ⟨t9, hp9⟩ := hp9
        subst hp9
        refine CpEnd.intro F9 N9 [] (.head _) (.tail _ (.head _)) (fun _ h => nomatch h) (fun _ h => nomatch h) ⟨rfl, cs ++ [(signsF k.2, t9)], by simp [strValues], ?_⟩
        rw [take_snoc hki, List.map_append, List.map_append, hcs]; rfl
      case fin =>
        intro Dt ys2 fz nn2 h' tk hJ F N hne2 hfz hst
        obtain ⟨rfl, tcs, rfl, htcs⟩ := hJ
        rw [refsOf, List.length_map, List.take_length] at htcs
        clear kF kN hst hfz
        rw [List.nil_append] at N hne2
        (try k_fold)
        k_steps
        refine storeC_led (c := L' + 1 + 1 + 1) (o := o1) F N (by k_mem) d1 [(Dt, PySem.W.listOf (strValues tcs).toArray nn2), (Dr, PySem.W.listOf ys.toArray nn), (om', PySem.W.listOf mvs.toArray n1), (L' + 1 + 1, o2')] ?_ ?_ rfl rfl rfl ?_
        · intro p hp
          simp only [List.mem_cons, List.not_mem_nil, or_false] at hp ⊢
          rcases hp with h | h | h | h <;> simp [h]
        · simp only [List.forall_mem_cons]
          exact ⟨Ne.symm (hne2 (L' + 1 + 1 + 1, o1) (by k_mem)), Ne.symm (hne (L' + 1 + 1 + 1, o1) (by k_mem)), hq.out.2.2.1, Ne.symm (ne32 L'), fun _ h => nomatch h⟩
        intro h4' o1' F4 N4 d1'
        clear F N d1 hne hne1 hne2 hq hka hkb hkc1 hkc2 hkc3 hkok hKb hKo hDo
        k_steps
        unfold Hold
        refine comp_eval (fun i ys fz => fz = [] ∧ ∃ cs, ys = strValues cs ∧ cs.map (·.1) = ((dd xs).take i).map fmode) (by with_unfolding_all rfl) (by decide) rfl (by decide) ?_ (by intro _; rfl)
        k_steps
        rename Fr _ _ _ _ => kF
        rename News _ _ _ _ => kN
        refine' go_list_eval (items := mvs) ?hh ?hl ?sz kF kN ?J0 ?turn ?fin
        case hh => rfl
        case hl => exact News.isList kN (by k_mem)
        case sz => exact Nat.le_trans hml9 (by decide)
        case J0 => exact ⟨rfl, [], rfl, rfl⟩
        case turn =>
          have X2 := X.keeps kF.keep
          have T2 := T.keeps kF.keep
          dsimp only
          intro i v ys fz C h tk m I it D acc hi hJ F N hne off
          obtain ⟨rfl, cs, rfl, hcs⟩ := hJ
          clear kF kN X T hret
          obtain ⟨xv, xt, rfl, hxv⟩ := hmv.at i v hi
          refine turn_name0 F N (by rfl) (by rfl) ?_
          intro h' tk' F' N'
          clear F N
          (try k_fold)
          k_steps
          unfold Hold
          rename Fr _ _ _ _ => kF
          rename News _ _ _ _ => kN
          (k_dflt (refine' use_gives (filemode_gives _ xv xt) ?k1_q16 ?k2_q16 ?k3_q16 ?k4_q16 ?k5_q16 ?k6_q16 ?k7_q16 ?k8_q16 ?_; (case k1_q16 => k_asm); (case k2_q16 => k_asm); (case k3_q16 => k_asm); (case k4_q16 => k_asm); (case k5_q16 => exact rfl); (case k6_q16 => exact Nat.le_of_ble_eq_true rfl); (case k7_q16 => exact Nat.le_of_ble_eq_true rfl); (case k8_q16 => first | exact trivial | assumption); k_whole))
          intro v9 h9 tk9 F9 N9 hs9 hp9
          obtain ⟨t9, hp9⟩ := hp9
          subst hp9
          refine CpEnd.intro F9 N9 [] (.head _) (.tail _ (.head _)) (fun _ h => nomatch h) (fun _ h => nomatch h) ⟨rfl, cs ++ [(fmode xv, t9)], by simp [strValues], ?_⟩
          rw [take_snoc hxv, List.map_append, List.map_append, hcs]; rfl
        case fin =>
          intro Dm ys2 fz nn3 h' tk hJ F N hne3 hfz hst
          obtain ⟨rfl, mcs, rfl, hmcs⟩ := hJ
          rw [hml, List.take_length] at hmcs
          clear kF kN hst hfz
          rw [List.nil_append] at N hne3
          clear hne3
          have hmcl : mcs.length = es.length := by have := congrArg List.length hmcs; rw [List.length_map, List.length_map] at this; omega
          (try k_fold)
          k_steps
          unfold Hold
          have hnm : ∀ x ∈ mcs, Name x.1 ∧ x.1.length ≤ 10 := fun x hx => by
            have hx1 : x.1 ∈ (dd xs).map fmode := hmcs ▸ List.mem_map_of_mem hx
            obtain ⟨z, _, e⟩ := List.mem_map.mp hx1
            rw [← e]; exact fmode_name z
          have hpre : Heap.IsList _ Dm (strValues mcs).toArray := News.isList N (by k_mem)
          refine use_new (obj := fun outs : List (Str × Tok) => PySem.W.listOf (strValues outs).toArray outs.length) (P := fun outs => outs.map (·.1) = ssOut sLt (mcs.map (·.1))) (pass_gives _ Dm mcs r9 t9 hroot hnm (by omega)) F N X T rfl (Nat.le_of_ble_eq_true rfl) (Nat.le_of_ble_eq_true rfl) hpre ?_
          intro D1 outs1 h5 tk5 F5 N5 hne5 hs5 houts1
          clear F N hpre hs5
          clear hne5
          (try k_fold)
          k_steps
          unfold Hold
          obtain ⟨rs, hrs⟩ : ∃ rs : List Int, rs = es.map fun e => ((rk os e.fs : Nat) : Int) := ⟨_, rfl⟩
          rw [← hrs] at hys
          have hrl : rs.length = es.length := by rw [hrs, List.length_map]
          refine comp_eval (DueJ rs) (by with_unfolding_all rfl) (by decide) rfl (by decide) ?_ (by intro _; rfl)
          k_steps
          rename Fr _ _ _ _ => kF
          rename News _ _ _ _ => kN
          refine' go_range_eval (n := es.length) ?hh ?hr ?sm ?rs ?sz kF kN ?J0 ?turn ?fin
          case hh => rfl
          case hr => assumption
          case sm => exact small_one (by omega) (by omega) (by omega) (by omega)
          case rs => rw [rangeSize_nat]; omega
          case sz => omega
          case J0 => exact ⟨[], rfl, rfl, rfl⟩
          case turn =>
            have X2 := X.keeps kF.keep
            have T2 := T.keeps kF.keep
            have hc2 : Heap.IsCell _ (L' + 1 + 1) (some (.ref Dr)) := ⟨o2', kN.get (by k_mem), d2'⟩
            have hDr : Heap.IsList _ Dr ys.toArray := News.isList kN (by k_mem)
            dsimp only
            intro i u ys2 fz C h tk m I it D acc hi hJ F N hne off
            obtain ⟨ts, rfl, rfl, hts⟩ := hJ
            clear kF kN X T hret
            refine turn_name0 F N (by rfl) (by rfl) ?_
            intro h' tk' F' N'
            clear F N
            rw [show (0 : Int) + (i : Int) = (i : Int) by omega] at F'
            (try k_fold)
            k_steps
            unfold Hold
            rename (IntsAre ys rs) => hys
            rename Fr _ C _ _ => kF
            rename News _ C _ _ => kN
            have hpre : Heap.IsList _ Dr ys.toArray ∧ IntsAre ys rs := ⟨stays_list kF.keep hDr, hys⟩
            (k_dflt (refine' use_gives (place_gives _ Dr ys rs i u (by omega) (by omega)) ?k1_q17 ?k2_q17 ?k3_q17 ?k4_q17 ?k5_q17 ?k6_q17 ?k7_q17 ?k8_q17 ?_; (case k1_q17 => k_asm); (case k2_q17 => k_asm); (case k3_q17 => k_asm); (case k4_q17 => k_asm); (case k5_q17 => exact rfl); (case k6_q17 => exact Nat.le_of_ble_eq_true rfl); (case k7_q17 => exact Nat.le_of_ble_eq_true rfl); (case k8_q17 => first | exact trivial | assumption); k_whole))
            intro v9 h9 tk9 F9 N9 hs9 hp9
            obtain ⟨t9, hp9⟩ := hp9
            subst hp9
            have hDr9 := stays_list F9.keep hDr
            clear hpre kF kN
            (try k_fold)
            k_steps
            rename Fr _ C _ _ => kF
            rename News _ C _ _ => kN
            rename (@LT.lt Nat _ I _ ∧ _) => lT
            exact due_end kF kN lT off hts rfl (by rw [Int.toNat_natCast])
          case fin =>
            intro Du ysd fz nn4 h' tk hJ F N hne6 hfz hst
            obtain ⟨ts, rfl, rfl, hts⟩ := hJ
            rename (IntsAre ys rs) => hys
            clear kF kN hst hfz
            (try k_fold)
            k_steps
            unfold Hold
            have kN2 : News _ _ _ ((Du, PySem.W.listOf (refsOf (ts.map TEnt.key)).toArray nn4) :: (D1, PySem.W.listOf (strValues outs1).toArray outs1.length) :: (Dt, PySem.W.listOf (strValues tcs).toArray nn2) :: (Dr, PySem.W.listOf ys.toArray nn) :: (L' + 1 + 1 + 1, o1') :: (L' + 1 + 1, o2') :: ts.map TEnt.ent) := fun p hp => N p (by
              simp only [List.mem_cons, List.mem_append, List.map_reverse, List.mem_reverse, List.not_mem_nil, or_false] at hp ⊢
              rcases hp with h | h | h | h | h | h | h <;> simp [h])
            clear N hne6
            have htl : ts.length = es.length := by have := congrArg List.length hts; rw [List.length_map, List.length_map, List.length_range] at this; exact this
            have hrn : rs.Nodup := by rw [hrs]; exact rs_nodup hmem (keys_fs es ▸ hnd)
            refine sorted_pairs F kN2 (News.isList kN2 (.head _)) (by rw [List.length_map]; omega) (by rw [List.length_map]; omega)
              (fun h' F' N' => pairsAt_of N' fun e he => .tail _ (.tail _ (.tail _ (.tail _ (.tail _ (.tail _ (List.mem_map_of_mem he))))))) (due_nodup (hrl ▸ hts) hrn) ?_
            intro Ds qs cq h1q hpermq hsrtq F1 N1 hltq
            have hne7 := fun q hq => Nat.ne_of_lt (hltq q hq)
            clear F kN2 hltq
            clear hne7
            (try k_fold)
            k_steps
            unfold Hold
            have htcl : tcs.length = es.length := by have := congrArg List.length htcs; rw [List.length_map, List.length_map] at this; omega
            have hql : qs.length = es.length := by rw [hpermq.length_eq, List.length_map, htl]
            refine comp_eval (fun i ys fz => fz = [] ∧ ∃ cs, ys = strValues cs ∧ cs.map (·.1) = (qs.take i).map fun k => (tcs.map (·.1)).getD (k.2.getD 1 0).toNat Str.empty) (by with_unfolding_all rfl) (by decide) rfl (by decide) ?_ (by intro _; rfl)
            k_steps
            rename Fr _ _ _ _ => kF
            rename News _ _ _ _ => kN
            refine' go_list_eval (items := refsOf qs) ?hh ?hl ?sz kF kN ?J0 ?turn ?fin
            case hh => rfl
            case hl => exact News.isList kN (by k_mem)
            case sz => rw [refsOf, List.length_map]; omega
            case J0 => exact ⟨rfl, [], rfl, rfl⟩
            case turn =>
              have X2 := X.keeps kF.keep
              have T2 := T.keeps kF.keep
              have hc1 : Heap.IsCell _ (L' + 1 + 1 + 1) (some (.ref Dt)) := ⟨o1', kN.get (by k_mem), d1'⟩
              have hDt : Heap.IsList _ Dt (strValues tcs).toArray := News.isList kN (by k_mem)
              have hte : ∀ e ∈ ts, Heap.get? _ e.at' = some e.ent.2 := fun e he => (kN e.ent (.tail _ (.tail _ (.tail _ (.tail _ (.tail _ (.tail _ (.tail _ (List.mem_map_of_mem he))))))))).1
              dsimp only
              intro i v ys2 fz C h tk m I it D acc hi hJ F N hne off
              obtain ⟨rfl, cs, rfl, hcs⟩ := hJ
              clear kF kN X T hret
              obtain ⟨e, hei, hqi, rfl⟩ : ∃ e, e ∈ ts ∧ qs[i]? = some e.key ∧ v = .ref e.at' := by
                simp only [refsOf, List.getElem?_map, Option.map_eq_some_iff] at hi
                obtain ⟨k, h1, h2⟩ := hi
                obtain ⟨e, he, rfl⟩ := List.mem_map.mp (hpermq.mem_iff.mp (List.mem_of_getElem? h1))
                exact ⟨e, he, h1, h2.symm⟩
              have hT0 : IsTup _ e.at' #[.int e.p e.tp, .int e.r e.tr] := ⟨_, hte e hei, rfl, _, rfl⟩
              have hT1 : IsTup _ e.at' #[.int e.p e.tp, .int e.r e.tr] := stays_tup F.keep hT0
              unfold CpTurn
              (try k_fold)
              k_steps
              rename Fr _ C _ _ => kF
              rename News _ C _ _ => kN
              refine store_comp kF kN (by rfl) (by rfl) ?_
              intro ha Fa Na
              clear kF kN
              k_steps
              rename Fr _ C _ _ => kF
              rename News _ C _ _ => kN
              refine store_comp kF kN (by rfl) (by rfl) ?_
              intro hb' Fb Nb
              clear kF kN
              k_steps
              unfold Hold
              rename Fr _ C _ _ => kF
              rename News _ C _ _ => kN
              have hrb := rs_bound hmem hrs e.r (ts_r (hrl ▸ hts) hei)
              obtain ⟨q, hq⟩ : ∃ q, tcs[e.r.toNat]? = some q := ⟨_, List.getElem?_eq_getElem (by omega)⟩
              refine item_listL (stays_list kF.keep hDt) hrb.1 (by omega) (x := .str q.1 q.2) (by simp [strValues, hq]) ?_ (by with_unfolding_all rfl) (by intro _; with_unfolding_all rfl)
              refine CpEnd.intro kF kN [] (.head _) (.tail _ (.head _)) (fun _ h => nomatch h) (fun _ h => nomatch h) ⟨rfl, cs ++ [q], by simp [strValues], ?_⟩
              rw [take_snoc hqi, List.map_append, List.map_append, hcs, List.map_singleton, List.map_singleton]
              congr 2
              show q.1 = (tcs.map (·.1)).getD e.r.toNat Str.empty
              rw [List.getD_eq_getElem?_getD, List.getElem?_map, hq]; rfl
            case fin =>
              intro Dx ysd fz nn5 h' tk hJ F N hne8 hfz hst
              obtain ⟨rfl, dcs, rfl, hdcs⟩ := hJ
              rw [refsOf, List.length_map, List.take_length] at hdcs
              clear kF kN hst hfz
              rw [List.nil_append] at N hne8
              clear hne8
              (try k_fold)
              k_steps
              unfold Hold
              have hplain : outs1.map (·.1) = dcs.map (·.1) := plain_once hperm hsrt hes hmcs hrs houts1 htcs hrn (hrl ▸ hts) hpermq hsrtq hdcs
              have hol1 : outs1.length = es.length := by have := congrArg List.length houts1; rw [ssOut_len, List.length_map, List.length_map] at this; omega
              have hdl1 : dcs.length = es.length := by have := congrArg List.length hplain; rw [List.length_map, List.length_map] at this; omega
              refine ne_texts (News.isList N (by k_mem)) (News.isList N (by k_mem)) (cs := outs1) (ds := dcs) (by omega) (Nat.le_of_ble_eq_true rfl) ?_
              rw [decide_eq_true hplain, Bool.not_true]
              (try k_fold)
              k_steps
              unfold Hold
              rename Fr _ _ _ _ => kF
              rename News _ _ _ _ => kN
              have hnm1 : ∀ x ∈ outs1, Name x.1 ∧ x.1.length ≤ 10 := fun x hx => by
                have hx1 : x.1 ∈ ssOut sLt (mcs.map (·.1)) := houts1 ▸ List.mem_map_of_mem hx
                obtain ⟨z, hz, e⟩ := List.mem_map.mp (ssOut_mem _ _ _ hx1)
                rw [← e]; exact hnm z hz
              have hpre : Heap.IsList _ D1 (strValues outs1).toArray := News.isList kN (by k_mem)
              refine use_new (obj := fun outs : List (Str × Tok) => PySem.W.listOf (strValues outs).toArray outs.length) (P := fun outs => outs.map (·.1) = ssOut sLt (outs1.map (·.1))) (pass_gives _ D1 outs1 r9 t9 hroot hnm1 (by omega)) kF kN X T rfl (Nat.le_of_ble_eq_true rfl) (Nat.le_of_ble_eq_true rfl) hpre ?_
              intro D2 outs2 h6 tk6 F6 N6 hne9 hs6 houts2
              clear kF kN hpre hs6
              clear hne9
              (try k_fold)
              k_steps
              unfold Hold
              rename Fr _ _ _ _ => kF
              rename News _ _ _ _ => kN
              have hol2 : outs2.length = es.length := by have := congrArg List.length houts2; rw [ssOut_len, List.length_map, List.length_map] at this; omega
              refine eq_texts (News.isList kN (by k_mem)) (News.isList kN (by k_mem)) (cs := outs2) (ds := tcs) (by omega) (Nat.le_of_ble_eq_true rfl) ?_
              (try k_fold)
              k_steps
              unfold Hold
              rename (IntsAre ys rs) => hys
              rename Fr _ _ _ _ => kF
              rename News _ _ _ _ => kN
              have hpre : Heap.IsList _ Dr ys.toArray ∧ IntsAre ys rs := ⟨News.isList kN (by k_mem), hys⟩
              (k_dflt (refine' use_gives (hind_gives _ Dr ys rs (by omega)) ?k1_q18 ?k2_q18 ?k3_q18 ?k4_q18 ?k5_q18 ?k6_q18 ?k7_q18 ?k8_q18 ?_; (case k1_q18 => k_asm); (case k2_q18 => k_asm); (case k3_q18 => k_asm); (case k4_q18 => k_asm); (case k5_q18 => exact rfl); (case k6_q18 => exact Nat.le_of_ble_eq_true rfl); (case k7_q18 => exact Nat.le_of_ble_eq_true rfl); (case k8_q18 => first | exact trivial | assumption); k_whole))
              intro v9 h9 tk9 F9 N9 hs9 hp9
              subst hp9
              clear kF kN hpre hs9
              (try k_fold)
              k_steps
              rename Fr _ _ _ _ => kF
              have hplain2 : (decide (outs2.map (·.1) = tcs.map (·.1)) == !hindF rs) = true := plain_twice hperm hsrt hes hmcs hrs houts1 htcs hrn houts2
              exact hret _ _ _ kF.keep (congrArg Value.bool hplain2)
end Mine
end
open PySem PySem.W PyProof.Rows PySem.Calls
set_option Elab.async false
set_option maxRecDepth 100000
set_option maxHeartbeats 8000000
theorem PySem.Challenge.cw_qw0032_01_holds : PySem.Challenge.rw_qw0032_01.Holds :=
  Mine.hd (by
  w_top off
  k_fill
  intro w s₀ s₁ mg mb G Y fa o pm cd doc dV kV ho hd hcd hD hmg hg args vals as hpre hlay hrd hwl hlo
  have KX := kIn_of Y
  refine Ground.open G ?_
  intro T B D TE TW
  try (refine guard_noD D (by decide +kernel) ?_; clear D)
  wrow_args hpre hlay hrd hwl hlo
  rename (IntsAre _ _) => hI
  rename (Heap.IsList _ _ _) => hL
  rename (¬ _ < _) => hc
  have e1 : mg (Str.ofString "law") = some (.ref 217) := mg_of KX T.g (by k_is)
  have e2 : fa = 217 := by
    have h2 := hmg.symm.trans e1
    injection h2 with h2
    injection h2
  clear hd hmg ho
  subst e2
  refine Mine.law_gives w _ _ _ (by omega) _ callerA s₁ _ _ _ _ _ _ _ KX T rfl (by decide) (by decide) ⟨hL, hI⟩ ?_
  intro v h' tk' hs hv
  subst hv
  refine ⟨.inl ⟨.bool true, .bool true, [], rfl, raisesW_false ?rr9, ReadsW.bool _, ?pp9, fun _ => ⟨.nil, fun _ h => nomatch h⟩⟩, .of_keep hs, rfl, .of_eq hg⟩
  case rr9 => wrow_none_raised
  case pp9 => wrow_post)
