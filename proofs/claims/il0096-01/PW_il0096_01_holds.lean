import PyProof.Rows.All
import Wide.All
import OpenK.AllK
import Wide.FinOn
import PyProof.Cells
import PyProof.CompUse
import PyProof.CompFree
import PyProof.IsInstanceT
import PyProof.Rows.ZipGen
import PyProof.Rows.RaiseClass
import KE.KItemsList
import KE.KSliceW
import KE.KPar
import KE.KParD
import KE.KRevIter
import KE.KRevSl
import PySem.Challenge.RW_il0096_01
set_option Elab.async false
set_option compiler.extract_closed false

section
open PySem PySem.W PyProof.Rows
set_option Elab.async false
set_option maxRecDepth 100000
set_option maxHeartbeats 0
namespace Mine
/-- the def law alone is in view -/
def vw : Program := view PySem.Challenge.pw_il0096_01 [41]
def lo : List Str := ["_sre", "_wall", "tspecials", "_name_disallowed_re", "_value_disallowed_re", "_formatparam", "Headers", "heappop", "heapify", "_heappop_max", "_heapify_max", "_siftdown", "_siftup", "_siftdown_max", "_siftup_max", "_plain_name", "ABCMeta", "_ABCLike", "_abc_plain_meta", "fspath", "_check_arg_types", "_get_sep", "join", "splitroot", "normpath", "_law_pages", "_law_way", "_law_links", "_law_tour", "_law_all_met", "_law_without", "_law_best"]
abbrev rw_ : RowW := OpenRow.toRowW PySem.Challenge.rw_il0096_01.row
theorem said0 : PySem.Challenge.rw_il0096_01.wellSaid = true := by
  with_reducible unfold OpenLaw.wellSaid OpenRow.wellSaid OpenRow.partSaid looksOpen
  repeat' with_reducible refine look_both ?_ ?_
  all_goals try rw [PySem.W.Fast.te11788848310118352699]
  all_goals try rw [PySem.W.Fast.te9807087744658564304]
  all_goals try rw [PySem.W.Fast.te8377067652309620493]
  all_goals try rw [PySem.W.Fast.te8326940854005059898]
  all_goals try rw [PySem.W.Fast.te17119622794617984870]
  all_goals try rw [PySem.W.Fast.te5923862056798008813]
  all_goals try rw [PySem.W.Fast.te17868728402115742887]
  all_goals try rw [PySem.W.Fast.te18344453789297297638]
  all_goals try rw [PySem.W.Fast.te13343964577679436407]
  all_goals try rw [PySem.W.Fast.te17691160309236699985]
  all_goals decide +kernel
/-- the looks at the law by plain checks: no twin of the program is laid (it would fill five megabytes) -/
local macro_rules | `(tactic| o_law) => `(tactic| refine holds_law said0 fun said => ?_)
set_option hygiene false in
local macro_rules | `(tactic| o_head $H) => `(tactic| (
  refine holds_open (q := vw) (loose := lo) (Xt := fun s => xlAt vw [] s && recOk (RowW.records rw_) s) (XP := XL vw []) (Yf := Hook.obs $H) (Ya := Hook.val $H) (YP := Hook.says $H) (N := 4842) ?hl (Hook.of $H) (Hook.keeps $H) (fun s e => xl_of s (Bool.and_eq_true_iff.mp e).1) XL.keeps (by rfl) (by rfl) (by rfl) (fun s e => recFacts_of (Bool.and_eq_true_iff.mp e).2) (by rfl) (by first | assumption | decide +kernel) (by decide +kernel) ⟨rfl, rfl, rfl, rfl, rfl, by decide +kernel⟩ ?hw ?hc
  case hl => (
    intro w
    with_reducible show Option.map (fun s => (openSeen vw lo (importedModules PySem.Challenge.rw_il0096_01.row.toRowW.prog.main.body) (fun s => xlAt vw [] s && recOk (RowW.records rw_) s) true s, _)) (openEnds treeTable PySem.Challenge.rw_il0096_01.row.toRowW.prog w 4842) = _
    unfold openEnds fencedOpening topFrom vw lo rw_
    rw [PySem.W.Fast.te10274390034422433532, PySem.W.Fast.te14364793385576792824, PySem.W.Fast.te1435165496053646825, PySem.W.Fast.te14289696077712309145, PySem.W.Fast.te14082659384304107361, PySem.W.Fast.te4187177175401517315]
    kernel_rfl)))
open_top hd for PySem.Challenge.rw_il0096_01
end Mine
end

set_option linter.unusedVariables false
set_option linter.unusedSimpArgs false
namespace Mine

section
set_option maxRecDepth 100000
set_option maxHeartbeats 4000000
open PySem PySem.W PyProof.Rows PySem.Calls

/-! ## maps of locals -/
noncomputable def upd (m : Str → Option Value) (x : Str) (v : Value) : Str → Option Value := fun y => if y = x then some v else m y
noncomputable def none0 : Str → Option Value := fun _ => none
noncomputable def updL : List (Str × Value) → Str → Option Value
  | [] => none0
  | p :: r => upd (updL r) p.1 p.2
theorem upd_same {m : Str → Option Value} {x : Str} {v : Value} : upd m x v x = some v := if_pos rfl
theorem upd_ne {m : Str → Option Value} {x y : Str} {v : Value} {r : Option Value} (hn : y ≠ x) (h : m y = r) : upd m x v y = r := (if_neg hn).trans h
theorem lookup_updL : ∀ l : List (Str × Value), (fun y => List.lookup y l) = updL l
  | [] => rfl
  | (x, v) :: r => by
    funext y
    have ih := congrFun (lookup_updL r) y
    unfold updL upd
    rw [List.lookup_cons]
    by_cases h : y = x
    · simp [h]
    · have : (y == x) = false := by simpa using h
      rw [this, if_neg h]; exact ih

/-! ## the ground: what stands at every heap of the call -/
structure Gd (K : Frag) (p : Program) (loose : List Str) (mg mb : Str → Option Value) (G : Heap) : Prop where
  X : K.In G
  T : TopRead p loose mg mb G

/-- h' keeps all of h but the addresses ex -/
noncomputable def Kept (ex : List Addr) (h h' : Heap) : Prop := (∀ b o, h.get? b = some o → b ∉ ex → h'.get? b = some o) ∧ h.objs.size ≤ h'.objs.size
theorem Kept.refl {ex : List Addr} {h : Heap} : Kept ex h h := ⟨fun _ _ e _ => e, Nat.le_refl _⟩
theorem Kept.trans {ex : List Addr} {h h' h'' : Heap} (a : Kept ex h h') (b : Kept ex h' h'') : Kept ex h h'' := ⟨fun x o e n => b.1 x o (a.1 x o e n) n, Nat.le_trans a.2 b.2⟩
theorem Kept.mono {ex ex' : List Addr} {h h' : Heap} (a : Kept ex h h') (s : ∀ x ∈ ex, x ∈ ex') : Kept ex' h h' := ⟨fun x o e n => a.1 x o e fun q => n (s x q), a.2⟩
theorem Kept.get {h h' : Heap} {b : Addr} {o : Obj} (a : Kept [] h h') (e : h.get? b = some o) : h'.get? b = some o := a.1 b o e (by simp)

section
variable {K : Frag} {p : Program} {loose : List Str} {mg mb : Str → Option Value} {g G h₀ h h' : Heap} {L : Addr} {m : Str → Option Value} {news : List (Addr × Obj)} {ex : List Addr}
theorem Gd.keeps (X : Gd K p loose mg mb G) (k : Kept [] G h) : Gd K p loose mg mb h := ⟨X.X.keeps fun _ _ e => k.get e, X.T.keeps fun _ _ e => k.get e⟩
/-- the end of a call: what the caller's heap keeps -/
theorem kept_end (hs : ∀ b o, h.get? b = some o → b ∉ ex → g.get? b = some o) (hz : g.objs.size = h.objs.size) (F : Fr g L h' m) : Kept ex h h' :=
  ⟨fun b o e n => F.keep b o (hs b o e n), hz ▸ Nat.le_trans F.above (Nat.le_of_lt F.ns.lt)⟩
/-- a call has come back: the frame and the ledger behind it -/
theorem fr_back (F : Fr h₀ L h m) (k : Kept ex h h') (hL : L ∉ ex) (hn : ∀ a ∈ ex, h₀.get? a = none) : Fr h₀ L h' m := by
  obtain ⟨oL, a1, a2, hoL, a3⟩ := F.ns
  refine ⟨⟨oL, a1, a2, k.1 _ _ hoL hL, a3⟩, fun b o e => k.1 b o (F.keep b o e) fun q => ?_, F.above⟩
  rw [hn b q] at e; cases e
theorem fr_back0 (F : Fr h₀ L h m) (k : Kept [] h h') : Fr h₀ L h' m := fr_back F k (by simp) (by simp)
theorem news_back (N : News h₀ L h news) (k : Kept ex h h') (hn : ∀ p ∈ news, p.1 ∉ ex) : News h₀ L h' news :=
  fun p hp => ⟨k.1 _ _ (N p hp).1 (hn p hp), (N p hp).2⟩
theorem news_back0 (N : News h₀ L h news) (k : Kept [] h h') : News h₀ L h' news := news_back N k (by simp)
theorem News.cons {a : Addr} {o : Obj} (N : News h₀ L h news) (e : h.get? a = some o) (hL : a ≠ L) (hn : h₀.get? a = none) : News h₀ L h ((a, o) :: news) := fun p hp => by
  rcases List.mem_cons.mp hp with rfl | hp
  · exact ⟨e, hL, hn⟩
  · exact N p hp
end

section
variable {prog : Program} {w : World} {A : Around} {hp : Heap} {gs : Array GenState} {d : Drawn} {tk : Nat} {os : OsState} {K : Frag} {p : Program} {loose : List Str} {mg mb : Str → Option Value} {g G h₀ : Heap} {L : Addr} {m : Str → Option Value} {news : List (Addr × Obj)}

theorem enter {f : Addr} {name qual : Str} {params : Arguments} {body : List Stmt} {scope : Scope}
    {dV kV doc pm cdv ct oc : Value} {an od : Option Addr} {osl : Array (Option Value)} {vs : List Value} {kw : List (Str × Value)} {binds : List (Str × Value)} {Q E : Value → Shared → Prop}
    (X : Gd K p loose mg mb G) (hG : Kept [] G hp) (ex : List Addr) (hex : ∀ a ∈ ex, G.get? a = none)
    (hnews : ∀ p ∈ news, hp.get? p.1 = some p.2 ∧ p.1 ∈ ex)
    (ho : K.lookup f = some ⟨oc, od, .func (fnOf name qual params body scope dV kV doc pm an cdv ct), osl⟩) (hcd : codeIn K cdv qual = true) (hroom : A.depth < recursionLimit)
    (hbind : BindsTo ⟨hp, gs, d, tk, os⟩ (fnOf name qual params body scope dV kV doc pm an cdv ct) ⟨vs, kw⟩ binds) (hloc : ∀ y ∈ binds, scope.names.lookup y.1 = some .local)
    (h : ∀ g L h₁, Gd K p loose mg mb g → (∀ b o, hp.get? b = some o → b ∉ ex → g.get? b = some o) → g.objs.size = hp.objs.size → Fr g L h₁ (updL binds.reverse) → News g L h₁ news → L = hp.objs.size →
      wpAny (model prog w) (A.deeper (envOf qual scope L f cdv)) (execs body (envOf qual scope L f cdv))
        (fun fl s' => Q (match fl with | .ret v => v | _ => .none) s') (fun _ _ => False) ⟨h₁, gs, d, tk + binds.length, os⟩)
    (hco : scope.isCoroutine = false := by rfl) (hgen : scope.isGenerator = false := by rfl) (hk : scope.kind = .function := by rfl)
    (hcell : ∀ x ∈ scope.names, x.2 ≠ .cell := by decide) : wpAny (model prog w) A (call (.ref f) vs kw) Q E ⟨hp, gs, d, tk, os⟩ := by
  have Y := X.keeps hG
  refine wpAny_call ?_
  refine codeAny_call_def (fd := fnOf name qual params body scope dV kV doc pm an cdv ct) (body := body) (binds := binds) hroom (Y.X _ _ ho) rfl Y.T.nolimit (codeRec_of Y.X hcd) rfl hbind hcell hloc (fun h₁ hns hk₁ => ?_) hco hgen hk
  have hsub : ∀ b o, hp.get? b = some o → b ∉ ex → (hideAll hp ex).get? b = some o := fun b o e n => hideAll_get ex e n
  have hGg : Kept [] G (hideAll hp ex) := ⟨fun b o e _ => hsub b o (hG.get e) (fun q => by rw [hex b q] at e; exact nomatch e), (hideAll_size ex hp).symm ▸ hG.2⟩
  refine wpAny_mono (h (hideAll hp ex) hp.objs.size h₁ (X.keeps hGg) hsub (hideAll_size _ _) ⟨lookup_updL binds.reverse ▸ hns, fun b o e => hk₁ b o (of_hideAll _ e), Nat.le_of_eq (hideAll_size _ _)⟩
    (fun p hp => ⟨hk₁ _ _ (hnews p hp).1, Nat.ne_of_lt (Heap.lt_size (hnews p hp).1), hideAll_none ex (hnews p hp).2⟩) rfl) (fun _ _ x => x) fun _ _ x => x.elim

end

/-! ## rules over a state written out -/
section
variable {prog : Program} {w : World} {A : Around} {K : Frag} {p : Program} {loose : List Str} {mg mb : Str → Option Value} {g h : Heap} {gs : Array GenState} {d : Drawn} {tk : Nat} {os : OsState} {L : Addr} {m : Str → Option Value} {news : List (Addr × Obj)}
  {M : Model} {E : Value → Shared → Prop} {name : Str} {scope : Scope} {a : Addr} {cd : Value}

theorem ldL {x : Str} {pos : Pos} {v : Value} {Q : Value → Shared → Prop} (F : Fr g L h m) (hv : m x = some v) (hq : Q v ⟨h, gs, d, tk, os⟩)
    (hk : scope.kind = .function := by kernel_rfl!) (hl : (envOf name scope L a cd).kindOf x = some .local := by kernel_rfl!)
    (hd : (x == ("__debug__" : Str)) = false := by decide +kernel) :
    wpAny M A (eval (.Name x pos) (envOf name scope L a cd)) Q E ⟨h, gs, d, tk, os⟩ := ld F hv hq hk hl hd
theorem stL {x : Str} {v : Value} {Q : Unit → Shared → Prop} (F : Fr g L h m) (N : News g L h news)
    (hq : ∀ h' tk', Fr g L h' (upd m x v) → News g L h' news → Q () ⟨h', gs, d, tk', os⟩)
    (hk : scope.kind = .function := by kernel_rfl!) (hl : (envOf name scope L a cd).kindOf x = some .local := by kernel_rfl!) :
    wpAny M A (storeName (envOf name scope L a cd) x v) Q E ⟨h, gs, d, tk, os⟩ := stN F N (fun h' F' N' => hq h' _ F' N') hk hl
theorem cI {i : Int} {k : Nat} {pos : Pos} {env : Env} {Q : Value → Shared → Prop} (hq : ∀ t tk', Q (.int i t) ⟨h, gs, d, tk', os⟩) : wpAny M A (eval (.Constant (.int i) k pos) env) Q E ⟨h, gs, d, tk, os⟩ := wpAny_Constant_int (hq _ _)
theorem cS {x : Str} {k : Nat} {pos : Pos} {env : Env} {Q : Value → Shared → Prop} (hq : ∀ t tk', Q (.str x t) ⟨h, gs, d, tk', os⟩) : wpAny M A (eval (.Constant (.str x) k pos) env) Q E ⟨h, gs, d, tk, os⟩ := wpAny_Constant_str (hq _ _)
theorem addI {x y : Int} {t u : Tok} {Q : Value → Shared → Prop} (hq : ∀ t tk', Q (.int (x + y) t) ⟨h, gs, d, tk', os⟩) : wpAny (model prog w) A (binaryOp .Add (.int x t) (.int y u)) Q E ⟨h, gs, d, tk, os⟩ := add_int (hq _ _)
theorem subI {x y : Int} {t u : Tok} {Q : Value → Shared → Prop} (hq : ∀ t tk', Q (.int (x - y) t) ⟨h, gs, d, tk', os⟩) : wpAny (model prog w) A (binaryOp .Sub (.int x t) (.int y u)) Q E ⟨h, gs, d, tk, os⟩ := sub_int (hq _ _)
theorem mulI {x y : Int} {t u : Tok} {Q : Value → Shared → Prop} (hm : IntMulOk x y) (hq : ∀ t tk', Q (.int (x * y) t) ⟨h, gs, d, tk', os⟩) : wpAny (model prog w) A (binaryOp .Mult (.int x t) (.int y u)) Q E ⟨h, gs, d, tk, os⟩ := mul_int (hq _ _) hm
theorem shrI {x y : Int} {t u : Tok} {Q : Value → Shared → Prop} (hn : 0 ≤ y) (hq : ∀ t tk', Q (.int (x.fdiv (2 ^ y.toNat)) t) ⟨h, gs, d, tk', os⟩) : wpAny (model prog w) A (binaryOp .RShift (.int x t) (.int y u)) Q E ⟨h, gs, d, tk, os⟩ := rshift_int hn (hq _ _)

/-! lists -/
theorem getItem_any {l : Addr} {vs : List Value} {n : Nat} {k : Nat} {i : Int} {t : Tok} {Q : Value → Shared → Prop}
    (e : h.get? l = some (listOf vs.toArray n)) (hi : i = (k : Int)) (hk : k < vs.length) (hf : (k : Int) < 2 ^ 63) (hq : Q (vs.getD k .none) ⟨h, gs, d, tk, os⟩) :
    wpAny (model prog w) A (getItem (.ref l) (.int i t)) Q E ⟨h, gs, d, tk, os⟩ := by
  subst hi
  refine wpAny_getItem_list (PySem.IsL.isList e) (by omega) hf ?_ hq
  simp only [Int.toNat_natCast, List.getElem?_toArray]
  rw [List.getElem?_eq_getElem hk, List.getD_eq_getElem?_getD, List.getElem?_eq_getElem hk]; rfl
theorem item_any {value slice : PySem.Expr} {l : Addr} {vs : List Value} {n : Nat} {k : Nat} {i : Int} {t : Tok} {Q : Value → Shared → Prop}
    (e : h.get? l = some (listOf vs.toArray n)) (hi : i = (k : Int)) (hk : k < vs.length) (hf : (k : Int) < 2 ^ 63) (hq : Q (vs.getD k .none) ⟨h, gs, d, tk, os⟩)
    (hs : subscripted slice false (.ref l) (.int i t) = operate [.ref l, .int i t] (getItem (.ref l) (.int i t)) := by with_unfolding_all rfl) :
    wpAny (model prog w) A (subscriptTail value slice (.ref l) (.int i t)) Q E ⟨h, gs, d, tk, os⟩ :=
  tail_any (s := ⟨h, gs, d, tk, os⟩) (PySem.IsL.isList e).typeIs slot_list_getitem.lookup (getItem_any e hi hk hf hq) hs
theorem listSame {l : Addr} {h h' : Heap} {vs us : List Value} {n : Nat} (e : h.get? l = some (listOf vs.toArray n)) (f : Obj → Obj) (hf : f (listOf vs.toArray n) = listOf us.toArray n) (hh : h' = h.update l f) : h'.get? l = some (listOf us.toArray n) := by
  rw [hh, Heap.get?_update_self f e (by rw [hf]; rfl), hf]
/-- xs[k] = v on a list of the ledger -/
theorem setItemL {l : Addr} {vs : List Value} {n : Nat} {k : Nat} {i : Int} {t : Tok} {v : Value} {news' : List (Addr × Obj)} {Q : Unit → Shared → Prop} (F : Fr g L h m) (N : News g L h news)
    (U : Upd l (listOf vs.toArray n) (listOf (vs.set k v).toArray n) news news') (hi : i = (k : Int)) (hk : k < vs.length) (hf : (k : Int) < 2 ^ 63)
    (hq : ∀ h', Fr g L h' m → News g L h' news' → Q () ⟨h', gs, d, tk, os⟩) : wpAny (model prog w) A (setItem (.ref l) (.int i t) v) Q E ⟨h, gs, d, tk, os⟩ := by
  subst hi
  obtain ⟨pre, post, rfl, rfl, a, b⟩ := U.split
  have z := N (l, listOf vs.toArray n) (List.mem_append.mpr (.inr (.head _)))
  refine ki_setAt z.1 (by omega) hf (by simpa using hk) (hq _ (F.change (Heap.SameBut.update ..) z.2.1 z.2.2) (ki_turn _ N a b ?_ ?_))
  · show vs.toArray.setIfInBounds (k : Int).toNat v = (vs.set k v).toArray
    apply Array.toList_inj.mp
    simp
  · simp

/-! loops -/
/-- where a loop's turn, or a loop, ends -/
noncomputable def At (g : Heap) (L : Addr) (gs : Array GenState) (d : Drawn) (os : OsState) (P : (Str → Option Value) → List (Addr × Obj) → Prop) (s : Shared) : Prop :=
  ∃ h' tk' m' news', s = ⟨h', gs, d, tk', os⟩ ∧ Fr g L h' m' ∧ News g L h' news' ∧ P m' news'
theorem At.mk {P : (Str → Option Value) → List (Addr × Obj) → Prop} (F : Fr g L h m) (N : News g L h news) (hp : P m news) : At g L gs d os P ⟨h, gs, d, tk, os⟩ := ⟨h, tk, m, news, rfl, F, N, hp⟩
noncomputable def TurnQ (g : Heap) (L : Addr) (gs : Array GenState) (d : Drawn) (os : OsState) (J P : (Str → Option Value) → List (Addr × Obj) → Prop) (Q : Flow → Shared → Prop) : Flow → Shared → Prop
  | .ret v, s => Q (.ret v) s
  | .brk, s => At g L gs d os P s
  | _, s => At g L gs d os J s
theorem whileL {env : Env} {test : PySem.Expr} {body : List Stmt} {pos : Pos} {Q : Flow → Shared → Prop} (J : Nat → (Str → Option Value) → List (Addr × Obj) → Prop) (P : (Str → Option Value) → List (Addr × Obj) → Prop) {n₀ : Nat}
    (F : Fr g L h m) (N : News g L h news) (hJ : J n₀ m news)
    (turn : ∀ n m₁ news₁ h₁ tk₁, Fr g L h₁ m₁ → News g L h₁ news₁ → J n m₁ news₁ →
      wpAny (model prog w) A (isTrue test env (eval test env)) (fun b s₂ =>
        if b = true then wpAny (model prog w) A (execs body env) (TurnQ g L gs d os (fun m nw => ∃ n', n' < n ∧ J n' m nw) P Q) (fun _ _ => False) s₂ else At g L gs d os P s₂) (fun _ _ => False) ⟨h₁, gs, d, tk₁, os⟩)
    (done : ∀ h' tk' m' news', Fr g L h' m' → News g L h' news' → P m' news' → Q .next ⟨h', gs, d, tk', os⟩) :
    wpAny (model prog w) A (exec (.While test body [] pos) env) Q (fun _ _ => False) ⟨h, gs, d, tk, os⟩ := by
  refine While_inv2 (s := ⟨h, gs, d, tk, os⟩) J F N hJ (fun n m₁ news₁ h₁ tk₁ F₁ N₁ J₁ => ?_) PassesOwn.never
  refine wpAny_mono (turn n m₁ news₁ h₁ tk₁ F₁ N₁ J₁) (fun b s₂ hb => ?_) fun _ _ x => x
  cases b with
  | false =>
    simp only [Bool.false_eq_true, if_false] at hb ⊢
    obtain ⟨h', tk', m', news', rfl, F', N', hp⟩ := hb
    exact done h' tk' m' news' F' N' hp
  | true =>
    simp only [if_true] at hb ⊢
    refine wpAny_mono hb (fun f s₃ q => ?_) fun _ _ x => x
    cases f with
    | ret v => exact q
    | brk =>
      obtain ⟨h', tk', m', news', rfl, F', N', hp⟩ := q
      exact done h' tk' m' news' F' N' hp
    | next =>
      obtain ⟨h', tk', m', news', rfl, F', N', n', hn, hj⟩ := q
      exact ⟨h', tk', m', news', n', rfl, F', N', hn, hj⟩
    | cont =>
      obtain ⟨h', tk', m', news', rfl, F', N', n', hn, hj⟩ := q
      exact ⟨h', tk', m', news', n', rfl, F', N', hn, hj⟩
end
end

section
open PySem PySem.W PyProof.Rows PySem.Calls
local macro_rules | `(tactic| k_qdec) => `(tactic| decide +kernel)
local macro_rules | `(tactic| walk_at "lk") => `(tactic| first | with_reducible exact upd_same | (with_reducible refine upd_ne (by decide +kernel) ?_; walk_at "lk") | with_reducible exact if_pos rfl | (with_reducible refine (if_neg (by decide +kernel)).trans ?_; walk_at "lk") | assumption)
local macro_rules | `(tactic| walk_at "nm") => `(tactic| refine ldL (by assumption) (by walk_at "lk") ?_)

section
set_option maxRecDepth 100000
set_option maxHeartbeats 4000000
open PySem PySem.W PyProof.Rows PySem.Calls
noncomputable def vlt : Value → Value → Bool
  | .str x _, .str y _ => decide (x.cps.toList < y.cps.toList)
  | _, _ => false
noncomputable def vgt (a b : Value) : Bool := vlt b a
noncomputable def IsStrs (vs : List Value) : Prop := ∀ v ∈ vs, ∃ x t, v = .str x t
theorem IsStrs.getD {vs : List Value} (h : IsStrs vs) {k : Nat} (hk : k < vs.length) : ∃ x t, vs.getD k .none = .str x t := by
  rw [List.getD_eq_getElem?_getD, List.getElem?_eq_getElem hk]; exact h _ (List.getElem_mem hk)
theorem IsStrs.set {vs : List Value} (h : IsStrs vs) {k : Nat} {v : Value} (hv : ∃ x t, v = .str x t) : IsStrs (vs.set k v) := fun u hu => by
  rcases List.mem_or_eq_of_mem_set hu with q | q
  · exact h u q
  · exact q ▸ hv
section
variable (lt : Value → Value → Bool) (x : Value) (sp : Nat)
noncomputable def sdn : Nat → List Value → Nat → List Value
  | 0, vs, p => vs.set p x
  | f + 1, vs, p => if sp < p then (if lt x (vs.getD ((p - 1) / 2) .none) then sdn f (vs.set p (vs.getD ((p - 1) / 2) .none)) ((p - 1) / 2) else vs.set p x) else vs.set p x
theorem sdn_fuel : ∀ (f f' p : Nat) (vs : List Value), p ≤ f → p ≤ f' → sdn lt x sp f vs p = sdn lt x sp f' vs p := by
  intro f
  induction f with
  | zero => intro f' p vs h _; obtain rfl : p = 0 := by omega
            cases f' <;> simp [sdn]
  | succ f ih =>
    intro f' p vs h h'
    cases f' with
    | zero => obtain rfl : p = 0 := by omega
              simp [sdn]
    | succ f' =>
      unfold sdn
      by_cases hp : sp < p
      · rw [if_pos hp, if_pos hp, ih f' _ _ (by omega) (by omega)]
      · rw [if_neg hp, if_neg hp]
theorem sdn_step {vs : List Value} {p : Nat} (h : sp < p) (hl : lt x (vs.getD ((p - 1) / 2) .none) = true) : sdn lt x sp p vs p = sdn lt x sp ((p - 1) / 2) (vs.set p (vs.getD ((p - 1) / 2) .none)) ((p - 1) / 2) := by
  obtain ⟨f, rfl⟩ : ∃ f, p = f + 1 := ⟨p - 1, by omega⟩
  rw [sdn, if_pos h, if_pos hl]
  exact sdn_fuel _ _ _ _ _ _ _ (by omega) (Nat.le_refl _)
theorem sdn_stop {vs : List Value} {p : Nat} (h : ¬ (sp < p ∧ lt x (vs.getD ((p - 1) / 2) .none) = true)) : sdn lt x sp p vs p = vs.set p x := by
  cases p with
  | zero => rfl
  | succ f =>
    rw [sdn]
    by_cases hp : sp < f + 1
    · rw [if_pos hp, if_neg fun q => h ⟨hp, q⟩]
    · rw [if_neg hp]
theorem sdn_length : ∀ (f p : Nat) (vs : List Value), (sdn lt x sp f vs p).length = vs.length
  | 0, p, vs => by simp [sdn]
  | f + 1, p, vs => by
    unfold sdn
    split
    · split
      · rw [sdn_length f]; simp
      · simp
    · simp
end
end

section
set_option maxRecDepth 100000
set_option maxHeartbeats 4000000
open PySem PySem.W PyProof.Rows PySem.Calls
section
variable {prog : Program} {w : World} {A : Around} {K : Frag} {p : Program} {loose : List Str} {mg mb : Str → Option Value} {g h : Heap} {gs : Array GenState} {d : Drawn} {tk : Nat} {os : OsState} {L : Addr} {m : Str → Option Value} {news : List (Addr × Obj)}
  {E : Value → Shared → Prop} {name : Str} {scope : Scope} {a : Addr} {cd : Value}

/-- a def of the text's top is called by its name -/
theorem callG {x : Str} {f : Addr} {e : PySem.Expr} {rest : List PySem.Expr} {pos p' : Pos} {Q : Value → Shared → Prop} (F : Fr g L h m) (Y : Gd K p loose mg mb g)
    (ek : nsIn K mainGlobals x = some (some (.ref f))) (hke : keepIn K (.ref f) = true)
    (hq : wpAny (model prog w) A (spliced (backTo pos (starEach (e :: rest) (envOf name scope L a cd)))) (fun vs s₁ => K.In s₁.heap ∧ wpAny (model prog w) A (call (.ref f) vs) Q E s₁) E ⟨h, gs, d, tk, os⟩)
    (he : starEach (e :: rest) (envOf name scope L a cd) = (false, eval e (envOf name scope L a cd)) :: starEach rest (envOf name scope L a cd) := by rfl)
    (hplain : (backTo pos (starEach rest (envOf name scope L a cd))).any (·.1) = false := by rfl)
    (hk : scope.kind = .function := by kernel_rfl!) (hx : (envOf name scope L a cd).kindOf x = some .globalImplicit := by kernel_rfl!) (hd : (x == ("__debug__" : Str)) = false := by decide +kernel) :
    wpAny (model prog w) A (eval (.Call (.Name x p') (e :: rest) [] pos) (envOf name scope L a cd)) Q E ⟨h, gs, d, tk, os⟩ :=
  Call_ (name_K F Y.X Y.T ek (callWith_K (first := []) Y.X hke hq he hplain) hk hx hd)
theorem callG0 {x : Str} {f : Addr} {pos p' : Pos} {Q : Value → Shared → Prop} (F : Fr g L h m) (Y : Gd K p loose mg mb g)
    (ek : nsIn K mainGlobals x = some (some (.ref f))) (hke : keepIn K (.ref f) = true)
    (hq : wpAny (model prog w) A (call (.ref f) []) Q E ⟨h, gs, d, tk, os⟩)
    (hk : scope.kind = .function := by kernel_rfl!) (hx : (envOf name scope L a cd).kindOf x = some .globalImplicit := by kernel_rfl!) (hd : (x == ("__debug__" : Str)) = false := by decide +kernel) :
    wpAny (model prog w) A (eval (.Call (.Name x p') [] [] pos) (envOf name scope L a cd)) Q E ⟨h, gs, d, tk, os⟩ :=
  Call_ (name_K F Y.X Y.T ek (callWith_K0 (first := []) (Y.X.keeps F.keep) hke hq) hk hx hd)
/-- a built-in function is called by its name -/
theorem callB {x : Str} {id : String} {e : PySem.Expr} {rest : List PySem.Expr} {pos p' : Pos} {Q : Value → Shared → Prop} (F : Fr g L h m) (Y : Gd K p loose mg mb g)
    (ek : nsIn K mainGlobals x = some none) (hv : bootBuiltins x = some (.builtin id)) (hn : x ≠ "__name__")
    (hq : wpAny (model prog w) A (spliced (backTo pos (starEach (e :: rest) (envOf name scope L a cd)))) (fun vs s₁ => wpAny (model prog w) A (call (.builtin id) vs) Q E s₁) E ⟨h, gs, d, tk, os⟩)
    (he : starEach (e :: rest) (envOf name scope L a cd) = (false, eval e (envOf name scope L a cd)) :: starEach rest (envOf name scope L a cd) := by rfl)
    (hplain : (backTo pos (starEach rest (envOf name scope L a cd))).any (·.1) = false := by rfl)
    (hk : scope.kind = .function := by kernel_rfl!) (hx : (envOf name scope L a cd).kindOf x = some .globalImplicit := by kernel_rfl!) (hd : (x == ("__debug__" : Str)) = false := by decide +kernel) :
    wpAny (model prog w) A (eval (.Call (.Name x p') (e :: rest) [] pos) (envOf name scope L a cd)) Q E ⟨h, gs, d, tk, os⟩ :=
  Call_ (name_B F Y.X Y.T ek hv hn (PyProof.Rows.callWith_builtin1 hq he hplain) hk hx hd)
theorem callT {x : Str} {T : String} {e : PySem.Expr} {rest : List PySem.Expr} {pos p' : Pos} {Q : Value → Shared → Prop} (F : Fr g L h m) (Y : Gd K p loose mg mb g)
    (ek : nsIn K mainGlobals x = some none) (hv : bootBuiltins x = some (.type T)) (hn : x ≠ "__name__")
    (hq : wpAny (model prog w) A (spliced (backTo pos (starEach (e :: rest) (envOf name scope L a cd)))) (fun vs s₁ => wpAny (model prog w) A (call (.type T) vs) Q E s₁) E ⟨h, gs, d, tk, os⟩)
    (he : starEach (e :: rest) (envOf name scope L a cd) = (false, eval e (envOf name scope L a cd)) :: starEach rest (envOf name scope L a cd) := by rfl)
    (hplain : (backTo pos (starEach rest (envOf name scope L a cd))).any (·.1) = false := by rfl)
    (hk : scope.kind = .function := by kernel_rfl!) (hx : (envOf name scope L a cd).kindOf x = some .globalImplicit := by kernel_rfl!) (hd : (x == ("__debug__" : Str)) = false := by decide +kernel) :
    wpAny (model prog w) A (eval (.Call (.Name x p') (e :: rest) [] pos) (envOf name scope L a cd)) Q E ⟨h, gs, d, tk, os⟩ :=
  Call_ (name_B F Y.X Y.T ek hv hn (PyProof.Rows.callWith_type1 hq he hplain) hk hx hd)
theorem lenL {l : Addr} {vs : List Value} {n : Nat} {Q : Value → Shared → Prop} (e : h.get? l = some (listOf vs.toArray n)) (hf : vs.length < 2 ^ 62) (hq : ∀ t tk', Q (.int (vs.length : Nat) t) ⟨h, gs, d, tk', os⟩) :
    wpAny (model prog w) A (call (.builtin "len") [.ref l]) Q E ⟨h, gs, d, tk, os⟩ :=
  Calls.call_len_list (s := ⟨h, gs, d, tk, os⟩) (PySem.IsL.isList e) (by simp; omega) (by have := hq (tk + 1) (tk + 1 + 1); simpa using this)
theorem joinL {M : Model} {s : Shared} {tree : Sem Flow} {Q : Flow → Shared → Prop} (P : (Str → Option Value) → List (Addr × Obj) → Prop)
    (hh : wpAny M A tree (fun f s' => f = .next ∧ At g L gs d os P s') (fun _ _ => False) s)
    (k : ∀ h' tk' m' news', Fr g L h' m' → News g L h' news' → P m' news' → Q .next ⟨h', gs, d, tk', os⟩) : wpAny M A tree Q E s :=
  wpAny_mono hh (fun f s' q => by
    obtain ⟨rfl, h', tk', m', news', rfl, F', N', hp⟩ := q
    exact k h' tk' m' news' F' N' hp) fun _ _ x => x.elim
end
end

section
set_option maxRecDepth 100000
set_option maxHeartbeats 4000000
open PySem PySem.W PyProof.Rows PySem.Calls
section
variable (lt : Value → Value → Bool) (x : Value) (sp : Nat)
/-- the child that goes up -/
noncomputable def kid (vs : List Value) (p : Nat) : Nat := if 2 * p + 2 < vs.length ∧ lt (vs.getD (2 * p + 1) .none) (vs.getD (2 * p + 2) .none) = false then 2 * p + 2 else 2 * p + 1
theorem kid_lt {vs : List Value} {p : Nat} (h : 2 * p + 1 < vs.length) : kid lt vs p < vs.length ∧ p < kid lt vs p := by
  unfold kid; split <;> constructor <;> omega
noncomputable def supN : Nat → List Value → Nat → List Value
  | 0, vs, p => sdn lt x sp p (vs.set p x) p
  | f + 1, vs, p => if 2 * p + 1 < vs.length then supN f (vs.set p (vs.getD (kid lt vs p) .none)) (kid lt vs p) else sdn lt x sp p (vs.set p x) p
theorem supN_fuel : ∀ (f f' p : Nat) (vs : List Value), vs.length - p ≤ f → vs.length - p ≤ f' → supN lt x sp f vs p = supN lt x sp f' vs p := by
  intro f
  induction f with
  | zero =>
    intro f' p vs h _
    cases f' with
    | zero => rfl
    | succ f' => rw [supN, supN, if_neg (by omega)]
  | succ f ih =>
    intro f' p vs h h'
    cases f' with
    | zero => rw [supN, supN, if_neg (by omega)]
    | succ f' =>
      unfold supN
      by_cases hp : 2 * p + 1 < vs.length
      · have := kid_lt lt hp
        rw [if_pos hp, if_pos hp, ih f' _ _ (by simp; omega) (by simp; omega)]
      · rw [if_neg hp, if_neg hp]
theorem supN_step {vs : List Value} {p : Nat} (h : 2 * p + 1 < vs.length) : supN lt x sp (vs.length - p) vs p = supN lt x sp ((vs.set p (vs.getD (kid lt vs p) .none)).length - kid lt vs p) (vs.set p (vs.getD (kid lt vs p) .none)) (kid lt vs p) := by
  obtain ⟨f, hf⟩ : ∃ f, vs.length - p = f + 1 := ⟨vs.length - p - 1, by omega⟩
  have := kid_lt lt h
  rw [hf, supN, if_pos h]
  exact supN_fuel _ _ _ _ _ _ _ (by simp; omega) (Nat.le_refl _)
theorem supN_stop {vs : List Value} {p : Nat} (h : ¬ 2 * p + 1 < vs.length) : supN lt x sp (vs.length - p) vs p = sdn lt x sp p (vs.set p x) p := by
  cases hf : vs.length - p with
  | zero => rfl
  | succ f => rw [supN, if_neg h]
theorem supN_length : ∀ (f p : Nat) (vs : List Value), (supN lt x sp f vs p).length = vs.length
  | 0, p, vs => by rw [supN, sdn_length]; simp
  | f + 1, p, vs => by
    unfold supN
    split
    · rw [supN_length f]; simp
    · rw [sdn_length]; simp
/-- _siftup(heap, pos) -/
noncomputable def siftup (vs : List Value) (pos : Nat) : List Value := supN lt (vs.getD pos .none) pos (vs.length - pos) vs pos
theorem siftup_length (vs : List Value) (pos : Nat) : (siftup lt vs pos).length = vs.length := supN_length ..
end
theorem sdn_strs {lt : Value → Value → Bool} {x : Value} {sp : Nat} (hx : ∃ y t, x = .str y t) : ∀ (f p : Nat) (vs : List Value), IsStrs vs → p < vs.length → IsStrs (sdn lt x sp f vs p)
  | 0, p, vs, h, _ => h.set hx
  | f + 1, p, vs, h, hp => by
    unfold sdn
    split
    · split
      · exact sdn_strs hx f _ _ (h.set (h.getD (by omega))) (by simp; omega)
      · exact h.set hx
    · exact h.set hx
theorem supN_strs {lt : Value → Value → Bool} {x : Value} {sp : Nat} (hx : ∃ y t, x = .str y t) : ∀ (f p : Nat) (vs : List Value), IsStrs vs → p < vs.length → IsStrs (supN lt x sp f vs p)
  | 0, p, vs, h, hp => sdn_strs hx _ _ _ (h.set hx) (by simpa using hp)
  | f + 1, p, vs, h, hp => by
    unfold supN
    split
    · rename_i hc
      have := kid_lt lt hc
      exact supN_strs hx f _ _ (h.set (h.getD (by omega))) (by simp; omega)
    · exact sdn_strs hx _ _ _ (h.set hx) (by simpa using hp)
theorem siftup_strs {lt : Value → Value → Bool} {vs : List Value} {pos : Nat} (h : IsStrs vs) (hp : pos < vs.length) : IsStrs (siftup lt vs pos) := supN_strs (h.getD hp) _ _ _ h hp
end

section
set_option maxRecDepth 100000
set_option maxHeartbeats 4000000
open PySem PySem.W PyProof.Rows PySem.Calls
theorem siftdown_c (w : World) (mg mb : Str → Option Value) (G : Heap) (A : Around) (hp : Heap) (gs : Array GenState) (d : Drawn) (tk : Nat) (os : OsState) (l : Addr) (vs : List Value) (n : Nat) (sp pos : Nat) (t1 t2 : Tok)
   (Q E : Value → Shared → Prop)
   (hA : A.depth + 10 < recursionLimit) (hG : Kept [] G hp)
   (hl : hp.get? l = some (listOf vs.toArray n)) (hgl : G.get? l = none) (hpos : pos < vs.length) (hlen : vs.length ≤ 1000) (hstr : IsStrs vs)
   (hQ : ∀ h' tk', Kept [l] hp h' → h'.get? l = some (listOf (sdn vlt (vs.getD pos .none) sp pos vs pos).toArray n) → Q .none ⟨h', gs, d, tk', os⟩) :
   (Gd (hd.heap_1 w.params) vw (looseW vw lo) mg mb G) → 
   wpAny (model PySem.Challenge.rw_il0096_01.row.prog w) A (call (.ref 221) [.ref l, .int sp t1, .int pos t2]) Q E ⟨hp, gs, d, tk, os⟩ := by
  k_fill
  intro X
  refine' enter (news := [(l, listOf vs.toArray n)]) (binds := [("heap", .ref l), ("startpos", .int sp t1), ("pos", .int pos t2)]) X hG [l] (by simp [hgl]) (by simp [hl]) ?ho ?hcd ?hroom ?hbind ?hloc ?_ ?h1 ?h2 ?h3 ?h4
  case ho => k_dflt k_is
  case hcd => k_dflt k_is
  case hroom => first | omega | (show aD < _; omega)
  case hbind => first | exact BindsTo.of_eq rfl | exact kp_binds (X.keeps hG).X (fun _ => rfl)
  case hloc => exact locs rfl
  case h1 => rfl
  case h2 => rfl
  case h3 => rfl
  case h4 => decide
  intro g L h₁ Y hgs hgz F N hL
  simp only [List.reverse_cons, List.reverse_nil, List.nil_append, List.cons_append, updL] at F
  have hl2 := (N (l, listOf vs.toArray n) (.head _)).1
  refine wpAny_execs_cons ?_
  refine wpAny_Assign_Name ?_
  refine Subscript_ ?_
  walk_at "nm"
  walk_at "nm"
  refine item_any hl2 rfl hpos (by omega) ?_
  refine stL F N ?_
  intro h₂ tk₂ F2 N2
  clear F N hl2
  refine wpAny_execs_cons ?_
  obtain ⟨x, hx⟩ : ∃ x, x = vs.getD pos .none := ⟨_, rfl⟩
  rw [← hx] at F2 hQ
  obtain ⟨R, hR⟩ : ∃ R, R = sdn vlt x sp pos vs pos := ⟨_, rfl⟩
  rw [← hR] at hQ
  have hxs : ∃ y t, x = .str y t := hx ▸ hstr.getD hpos
  refine whileL (n₀ := pos) (fun k m news => ∃ (ws : List Value) (tp : Tok), news = [(l, listOf ws.toArray n)] ∧ k < ws.length ∧ ws.length ≤ 1000 ∧ IsStrs ws ∧
      m "heap" = some (.ref l) ∧ m "pos" = some (.int k tp) ∧ m "newitem" = some x ∧ m "startpos" = some (.int sp t1) ∧ sdn vlt x sp k ws k = R)
    (fun m news => ∃ (ws : List Value) (k : Nat) (tp : Tok), news = [(l, listOf ws.toArray n)] ∧ k < ws.length ∧ ws.length ≤ 1000 ∧ m "heap" = some (.ref l) ∧ m "pos" = some (.int k tp) ∧ m "newitem" = some x ∧ ws.set k x = R)
    F2 N2 ⟨vs, t2, rfl, hpos, hlen, hstr, by walk_at "lk", by walk_at "lk", by walk_at "lk", by walk_at "lk", hR.symm⟩ ?_ ?_
  · rintro k m news h tk F N ⟨ws, tp, rfl, hk, hwl, hws, m1, m2, m3, m4, hfin⟩
    have hlw := (N _ (.head _)).1
    refine wpAny_isTrue_Compare1 ?_
    walk_at "nm"
    walk_at "nm"
    refine gt_int ?_
    refine wpAny_truthy_bool ?_
    by_cases hsp : sp < k
    · rw [if_pos (by simpa using hsp)]
      refine wpAny_execs_cons ?_
      refine wpAny_Assign_Name ?_
      refine wpAny_BinOp ?_
      refine wpAny_BinOp ?_
      walk_at "nm"
      refine cI ?_
      intro _ _
      refine subI ?_
      intro _ _
      refine cI ?_
      intro _ _
      refine shrI (by decide) ?_
      intro t3 _
      have e1 : ((k : Int) - 1).fdiv (2 ^ (1 : Int).toNat) = (((k - 1) / 2 : Nat) : Int) := by
        rw [Int.fdiv_eq_ediv_of_nonneg _ (by decide)]; simp; omega
      rw [e1]
      refine stL F N ?_
      intro h2 _ F3 N3
      refine wpAny_execs_cons ?_
      refine wpAny_Assign_Name ?_
      refine Subscript_ ?_
      walk_at "nm"
      walk_at "nm"
      refine item_any (N3 _ (.head _)).1 rfl (by omega) (by omega) ?_
      refine stL F3 N3 ?_
      intro h3 _ F4 N4
      obtain ⟨y, hy⟩ : ∃ y, y = ws.getD ((k - 1) / 2) .none := ⟨_, rfl⟩
      rw [← hy] at F4
      have hys : ∃ z t, y = .str z t := hy ▸ hws.getD (by omega)
      refine wpAny_execs_cons ?_
      refine wpAny_If ?_
      refine wpAny_isTrue_Compare1 ?_
      walk_at "nm"
      walk_at "nm"
      obtain ⟨z1, u1, e1⟩ := hxs
      obtain ⟨z2, u2, e2⟩ := hys
      have hlt : vlt x y = decide (z1.cps.toList < z2.cps.toList) := by rw [e1, e2]; rfl
      rw [e1, e2]
      refine lt_str ?_
      rw [← e1, ← hlt]
      refine wpAny_truthy_bool ?_
      by_cases hb : vlt x y = true
      · rw [if_pos hb]
        refine wpAny_execs_cons ?_
        refine wpAny_Assign_Subscript ?_
        walk_at "nm"
        walk_at "nm"
        walk_at "nm"
        refine setItemL F4 N4 (by k_upd) rfl hk (by omega) ?_
        intro h4 F5 N5
        refine wpAny_execs_cons ?_
        refine wpAny_Assign_Name ?_
        walk_at "nm"
        refine stL F5 N5 ?_
        intro h5 _ F6 N6
        refine wpAny_execs_cons ?_
        refine SiftDown.continue_ ?_
        refine At.mk F6 N6 ⟨(k - 1) / 2, by omega, ws.set k y, t3, rfl, by simp; omega, by simpa using hwl, hws.set ⟨z2, u2, e2⟩, by walk_at "lk", by walk_at "lk", by walk_at "lk", by walk_at "lk", ?_⟩
        rw [← hfin, sdn_step _ _ _ hsp (hy ▸ hb), hy]
      · rw [if_neg hb]
        refine wpAny_execs_nil ?_
        refine wpAny_execs_cons ?_
        refine SiftDown.break_ ?_
        refine At.mk F4 N4 ⟨ws, k, tp, rfl, hk, hwl, by walk_at "lk", by walk_at "lk", by walk_at "lk", ?_⟩
        rw [← hfin, sdn_stop _ _ _ (fun q => hb (hy ▸ q.2))]
    · rw [if_neg (by simpa using hsp)]
      refine At.mk F N ⟨ws, k, tp, rfl, hk, hwl, by walk_at "lk", by walk_at "lk", by walk_at "lk", ?_⟩
      rw [← hfin, sdn_stop _ _ _ (fun q => hsp q.1)]
  · rintro h3 tk3 m news F N ⟨ws, k, tp, rfl, hk, hwl, m1, m2, m3, hfin⟩
    refine wpAny_execs_cons ?_
    refine wpAny_Assign_Subscript ?_
    walk_at "nm"
    walk_at "nm"
    walk_at "nm"
    refine setItemL F N (by k_upd) rfl hk (by omega) ?_
    intro h4 F5 N5
    refine wpAny_execs_nil ?_
    rw [hfin] at N5
    exact hQ _ _ (kept_end hgs hgz F5) (N5 _ (.head _)).1
theorem siftdown_max_c (w : World) (mg mb : Str → Option Value) (G : Heap) (A : Around) (hp : Heap) (gs : Array GenState) (d : Drawn) (tk : Nat) (os : OsState) (l : Addr) (vs : List Value) (n : Nat) (sp pos : Nat) (t1 t2 : Tok)
   (Q E : Value → Shared → Prop)
   (hA : A.depth + 10 < recursionLimit) (hG : Kept [] G hp)
   (hl : hp.get? l = some (listOf vs.toArray n)) (hgl : G.get? l = none) (hpos : pos < vs.length) (hlen : vs.length ≤ 1000) (hstr : IsStrs vs)
   (hQ : ∀ h' tk', Kept [l] hp h' → h'.get? l = some (listOf (sdn vgt (vs.getD pos .none) sp pos vs pos).toArray n) → Q .none ⟨h', gs, d, tk', os⟩) :
   (Gd (hd.heap_1 w.params) vw (looseW vw lo) mg mb G) → 
   wpAny (model PySem.Challenge.rw_il0096_01.row.prog w) A (call (.ref 235) [.ref l, .int sp t1, .int pos t2]) Q E ⟨hp, gs, d, tk, os⟩ := by
  k_fill
  intro X
  refine' enter (news := [(l, listOf vs.toArray n)]) (binds := [("heap", .ref l), ("startpos", .int sp t1), ("pos", .int pos t2)]) X hG [l] (by simp [hgl]) (by simp [hl]) ?ho ?hcd ?hroom ?hbind ?hloc ?_ ?h1 ?h2 ?h3 ?h4
  case ho => k_dflt k_is
  case hcd => k_dflt k_is
  case hroom => first | omega | (show aD < _; omega)
  case hbind => first | exact BindsTo.of_eq rfl | exact kp_binds (X.keeps hG).X (fun _ => rfl)
  case hloc => exact locs rfl
  case h1 => rfl
  case h2 => rfl
  case h3 => rfl
  case h4 => decide
  intro g L h₁ Y hgs hgz F N hL
  simp only [List.reverse_cons, List.reverse_nil, List.nil_append, List.cons_append, updL] at F
  have hl2 := (N (l, listOf vs.toArray n) (.head _)).1
  refine wpAny_execs_cons ?_
  refine wpAny_Assign_Name ?_
  refine Subscript_ ?_
  walk_at "nm"
  walk_at "nm"
  refine item_any hl2 rfl hpos (by omega) ?_
  refine stL F N ?_
  intro h₂ tk₂ F2 N2
  clear F N hl2
  refine wpAny_execs_cons ?_
  obtain ⟨x, hx⟩ : ∃ x, x = vs.getD pos .none := ⟨_, rfl⟩
  rw [← hx] at F2 hQ
  obtain ⟨R, hR⟩ : ∃ R, R = sdn vgt x sp pos vs pos := ⟨_, rfl⟩
  rw [← hR] at hQ
  have hxs : ∃ y t, x = .str y t := hx ▸ hstr.getD hpos
  refine whileL (n₀ := pos) (fun k m news => ∃ (ws : List Value) (tp : Tok), news = [(l, listOf ws.toArray n)] ∧ k < ws.length ∧ ws.length ≤ 1000 ∧ IsStrs ws ∧
      m "heap" = some (.ref l) ∧ m "pos" = some (.int k tp) ∧ m "newitem" = some x ∧ m "startpos" = some (.int sp t1) ∧ sdn vgt x sp k ws k = R)
    (fun m news => ∃ (ws : List Value) (k : Nat) (tp : Tok), news = [(l, listOf ws.toArray n)] ∧ k < ws.length ∧ ws.length ≤ 1000 ∧ m "heap" = some (.ref l) ∧ m "pos" = some (.int k tp) ∧ m "newitem" = some x ∧ ws.set k x = R)
    F2 N2 ⟨vs, t2, rfl, hpos, hlen, hstr, by walk_at "lk", by walk_at "lk", by walk_at "lk", by walk_at "lk", hR.symm⟩ ?_ ?_
  · rintro k m news h tk F N ⟨ws, tp, rfl, hk, hwl, hws, m1, m2, m3, m4, hfin⟩
    have hlw := (N _ (.head _)).1
    refine wpAny_isTrue_Compare1 ?_
    walk_at "nm"
    walk_at "nm"
    refine gt_int ?_
    refine wpAny_truthy_bool ?_
    by_cases hsp : sp < k
    · rw [if_pos (by simpa using hsp)]
      refine wpAny_execs_cons ?_
      refine wpAny_Assign_Name ?_
      refine wpAny_BinOp ?_
      refine wpAny_BinOp ?_
      walk_at "nm"
      refine cI ?_
      intro _ _
      refine subI ?_
      intro _ _
      refine cI ?_
      intro _ _
      refine shrI (by decide) ?_
      intro t3 _
      have e1 : ((k : Int) - 1).fdiv (2 ^ (1 : Int).toNat) = (((k - 1) / 2 : Nat) : Int) := by
        rw [Int.fdiv_eq_ediv_of_nonneg _ (by decide)]; simp; omega
      rw [e1]
      refine stL F N ?_
      intro h2 _ F3 N3
      refine wpAny_execs_cons ?_
      refine wpAny_Assign_Name ?_
      refine Subscript_ ?_
      walk_at "nm"
      walk_at "nm"
      refine item_any (N3 _ (.head _)).1 rfl (by omega) (by omega) ?_
      refine stL F3 N3 ?_
      intro h3 _ F4 N4
      obtain ⟨y, hy⟩ : ∃ y, y = ws.getD ((k - 1) / 2) .none := ⟨_, rfl⟩
      rw [← hy] at F4
      have hys : ∃ z t, y = .str z t := hy ▸ hws.getD (by omega)
      refine wpAny_execs_cons ?_
      refine wpAny_If ?_
      refine wpAny_isTrue_Compare1 ?_
      walk_at "nm"
      walk_at "nm"
      obtain ⟨z1, u1, e1⟩ := hxs
      obtain ⟨z2, u2, e2⟩ := hys
      have hlt : vgt x y = decide (z2.cps.toList < z1.cps.toList) := by rw [e1, e2]; rfl
      rw [e1, e2]
      refine lt_str ?_
      rw [← e1, ← hlt]
      refine wpAny_truthy_bool ?_
      by_cases hb : vgt x y = true
      · rw [if_pos hb]
        refine wpAny_execs_cons ?_
        refine wpAny_Assign_Subscript ?_
        walk_at "nm"
        walk_at "nm"
        walk_at "nm"
        refine setItemL F4 N4 (by k_upd) rfl hk (by omega) ?_
        intro h4 F5 N5
        refine wpAny_execs_cons ?_
        refine wpAny_Assign_Name ?_
        walk_at "nm"
        refine stL F5 N5 ?_
        intro h5 _ F6 N6
        refine wpAny_execs_cons ?_
        refine SiftDown.continue_ ?_
        refine At.mk F6 N6 ⟨(k - 1) / 2, by omega, ws.set k y, t3, rfl, by simp; omega, by simpa using hwl, hws.set ⟨z2, u2, e2⟩, by walk_at "lk", by walk_at "lk", by walk_at "lk", by walk_at "lk", ?_⟩
        rw [← hfin, sdn_step _ _ _ hsp (hy ▸ hb), hy]
      · rw [if_neg hb]
        refine wpAny_execs_nil ?_
        refine wpAny_execs_cons ?_
        refine SiftDown.break_ ?_
        refine At.mk F4 N4 ⟨ws, k, tp, rfl, hk, hwl, by walk_at "lk", by walk_at "lk", by walk_at "lk", ?_⟩
        rw [← hfin, sdn_stop _ _ _ (fun q => hb (hy ▸ q.2))]
    · rw [if_neg (by simpa using hsp)]
      refine At.mk F N ⟨ws, k, tp, rfl, hk, hwl, by walk_at "lk", by walk_at "lk", by walk_at "lk", ?_⟩
      rw [← hfin, sdn_stop _ _ _ (fun q => hsp q.1)]
  · rintro h3 tk3 m news F N ⟨ws, k, tp, rfl, hk, hwl, m1, m2, m3, hfin⟩
    refine wpAny_execs_cons ?_
    refine wpAny_Assign_Subscript ?_
    walk_at "nm"
    walk_at "nm"
    walk_at "nm"
    refine setItemL F N (by k_upd) rfl hk (by omega) ?_
    intro h4 F5 N5
    refine wpAny_execs_nil ?_
    rw [hfin] at N5
    exact hQ _ _ (kept_end hgs hgz F5) (N5 _ (.head _)).1
end

section
set_option maxRecDepth 100000
set_option maxHeartbeats 4000000
open PySem PySem.W PyProof.Rows PySem.Calls
theorem siftup_c (w : World) (mg mb : Str → Option Value) (G : Heap) (A : Around) (hp : Heap) (gs : Array GenState) (d : Drawn) (tk : Nat) (os : OsState) (l : Addr) (vs : List Value) (n : Nat) (pos : Nat) (t2 : Tok)
   (Q E : Value → Shared → Prop)
   (hA : A.depth + 20 < recursionLimit) (hG : Kept [] G hp)
   (hl : hp.get? l = some (listOf vs.toArray n)) (hgl : G.get? l = none) (hpos : pos < vs.length) (hlen : vs.length ≤ 1000) (hstr : IsStrs vs)
   (hQ : ∀ h' tk', Kept [l] hp h' → h'.get? l = some (listOf (siftup vlt vs pos).toArray n) → Q .none ⟨h', gs, d, tk', os⟩) :
   (Gd (hd.heap_1 w.params) vw (looseW vw lo) mg mb G) → 
   wpAny (model PySem.Challenge.rw_il0096_01.row.prog w) A (call (.ref 228) [.ref l, .int pos t2]) Q E ⟨hp, gs, d, tk, os⟩ := by
  k_fill
  intro X
  refine' enter (news := [(l, listOf vs.toArray n)]) (binds := [("heap", .ref l), ("pos", .int pos t2)]) X hG [l] (by simp [hgl]) (by simp [hl]) ?ho ?hcd ?hroom ?hbind ?hloc ?_ ?h1 ?h2 ?h3 ?h4
  case ho => k_dflt k_is
  case hcd => k_dflt k_is
  case hroom => first | omega | (show aD < _; omega)
  case hbind => first | exact BindsTo.of_eq rfl | exact kp_binds (X.keeps hG).X (fun _ => rfl)
  case hloc => exact locs rfl
  case h1 => rfl
  case h2 => rfl
  case h3 => rfl
  case h4 => decide
  intro g L h₁ Y hgs hgz F N hL
  simp only [List.reverse_cons, List.reverse_nil, List.nil_append, List.cons_append, updL] at F
  have hll : L ≠ l := fun q => (N _ (.head _)).2.1 q.symm
  have hgl' : g.get? l = none := (N _ (.head _)).2.2
  have hl2 := (N (l, listOf vs.toArray n) (.head _)).1
  refine wpAny_execs_cons ?_
  refine wpAny_Assign_Name ?_
  refine callB F Y (by k_dflt k_is) (by boot_fast) (by decide +kernel) ?_
  refine args_cons ?_
  walk_at "nm"
  refine args_nil ?_
  refine lenL hl2 (by omega) ?_
  intro _ _
  refine stL F N ?_
  intro h1 _ F1 N1
  refine wpAny_execs_cons ?_
  refine wpAny_Assign_Name ?_
  walk_at "nm"
  refine stL F1 N1 ?_
  intro h2 _ F2 N2
  refine wpAny_execs_cons ?_
  refine wpAny_Assign_Name ?_
  refine Subscript_ ?_
  walk_at "nm"
  walk_at "nm"
  refine item_any (N2 _ (.head _)).1 rfl hpos (by omega) ?_
  refine stL F2 N2 ?_
  intro h3 _ F3 N3
  refine wpAny_execs_cons ?_
  refine wpAny_Assign_Name ?_
  refine wpAny_BinOp ?_
  refine wpAny_BinOp ?_
  refine cI ?_
  intro _ _
  walk_at "nm"
  refine mulI (.of_left (PySem.intBits_le_64 (by decide) (by decide))) ?_
  intro _ _
  refine cI ?_
  intro _ _
  refine addI ?_
  intro _ _
  rw [show (2 : Int) * (pos : Int) + 1 = ((2 * pos + 1 : Nat) : Int) by omega]
  refine stL F3 N3 ?_
  intro h4 _ F4 N4
  clear F N F1 N1 F2 N2 F3 N3 hl2
  obtain ⟨x, hx⟩ : ∃ x, x = vs.getD pos .none := ⟨_, rfl⟩
  rw [← hx] at F4
  obtain ⟨R, hR⟩ : ∃ R, R = supN vlt x pos (vs.length - pos) vs pos := ⟨_, rfl⟩
  have hQ' : ∀ h' tk', Kept [l] hp h' → h'.get? l = some (listOf R.toArray n) → Q .none ⟨h', gs, d, tk', os⟩ := by rw [hR, hx]; exact hQ
  have hxs : ∃ y t, x = .str y t := hx ▸ hstr.getD hpos
  refine wpAny_execs_cons ?_
  refine whileL (n₀ := vs.length - pos) (fun k m news => ∃ (ws : List Value) (p : Nat) (tp tc : Tok), k = ws.length - p ∧ news = [(l, listOf ws.toArray n)] ∧ p < ws.length ∧ ws.length = vs.length ∧ IsStrs ws ∧
      m "heap" = some (.ref l) ∧ (∃ te, m "endpos" = some (.int (vs.length : Nat) te)) ∧ m "startpos" = some (.int pos t2) ∧ m "pos" = some (.int p tp) ∧ m "newitem" = some x ∧ m "childpos" = some (.int (2 * p + 1 : Nat) tc) ∧ supN vlt x pos (ws.length - p) ws p = R)
    (fun m news => ∃ (ws : List Value) (p : Nat) (tp : Tok), news = [(l, listOf ws.toArray n)] ∧ p < ws.length ∧ ws.length = vs.length ∧ IsStrs ws ∧ m "heap" = some (.ref l) ∧ m "startpos" = some (.int pos t2) ∧ m "pos" = some (.int p tp) ∧ m "newitem" = some x ∧ sdn vlt x pos p (ws.set p x) p = R)
    F4 N4 ⟨vs, pos, _, _, rfl, rfl, hpos, rfl, hstr, by walk_at "lk", ⟨_, by walk_at "lk"⟩, by walk_at "lk", by walk_at "lk", by walk_at "lk", by walk_at "lk", hR.symm⟩ ?_ ?_
  · rintro k m news h tk F N ⟨ws, p, tp, tc, rfl, rfl, hk, hwl, hws, m1, ⟨te, m2⟩, m3, m4, m5, m6, hfin⟩
    refine wpAny_isTrue_Compare1 ?_
    walk_at "nm"
    walk_at "nm"
    refine lt_int ?_
    refine wpAny_truthy_bool ?_
    by_cases hc : 2 * p + 1 < vs.length
    · rw [if_pos (by simp; omega)]
      refine wpAny_execs_cons ?_
      refine wpAny_Assign_Name ?_
      refine wpAny_BinOp ?_
      walk_at "nm"
      refine cI ?_
      intro _ _
      refine addI ?_
      intro _ _
      rw [show ((2 * p + 1 : Nat) : Int) + 1 = ((2 * p + 2 : Nat) : Int) by omega]
      refine stL F N ?_
      intro h1 _ F1 N1
      refine wpAny_execs_cons ?_
      refine joinL (g := g) (L := L) (gs := gs) (d := d) (os := os) (fun m nw => ∃ tk, nw = [(l, listOf ws.toArray n)] ∧ m "heap" = some (.ref l) ∧ (∃ te, m "endpos" = some (.int (vs.length : Nat) te)) ∧ m "startpos" = some (.int pos t2) ∧ m "pos" = some (.int p tp) ∧ m "newitem" = some x ∧ m "childpos" = some (.int (kid vlt ws p : Nat) tk)) ?_ ?_
      · refine wpAny_If ?_
        refine isTrue_and ?_
        refine wpAny_isTrue_Compare1 ?_
        walk_at "nm"
        walk_at "nm"
        refine lt_int ?_
        refine wpAny_truthy_bool ?_
        by_cases hr : 2 * p + 2 < vs.length
        · rw [if_pos (by simp; omega)]
          refine isTrue_and ?_
          refine isTrue_not ?_
          refine wpAny_isTrue_Compare1 ?_
          refine Subscript_ ?_
          walk_at "nm"
          walk_at "nm"
          refine item_any (N1 _ (.head _)).1 rfl (by omega) (by omega) ?_
          refine Subscript_ ?_
          walk_at "nm"
          walk_at "nm"
          refine item_any (N1 _ (.head _)).1 rfl (by omega) (by omega) ?_
          obtain ⟨z1, u1, e1⟩ := hws.getD (show 2 * p + 1 < ws.length by omega)
          obtain ⟨z2, u2, e2⟩ := hws.getD (show 2 * p + 2 < ws.length by omega)
          rw [e1, e2]
          refine lt_str ?_
          have hlt : vlt (ws.getD (2 * p + 1) .none) (ws.getD (2 * p + 2) .none) = decide (z1.cps.toList < z2.cps.toList) := by rw [e1, e2]; rfl
          rw [← hlt]
          refine wpAny_truthy_bool ?_
          by_cases hb : vlt (ws.getD (2 * p + 1) .none) (ws.getD (2 * p + 2) .none) = true
          · rw [hb]
            simp only [Bool.not_true, Bool.false_eq_true, if_false]
            refine wpAny_execs_nil ⟨rfl, ?_⟩
            have ek : kid vlt ws p = 2 * p + 1 := by unfold kid; rw [if_neg (by rw [hb]; simp)]
            rw [ek]
            exact At.mk F1 N1 ⟨_, rfl, by walk_at "lk", ⟨_, by walk_at "lk"⟩, by walk_at "lk", by walk_at "lk", by walk_at "lk", by walk_at "lk"⟩
          · have hb' : vlt (ws.getD (2 * p + 1) .none) (ws.getD (2 * p + 2) .none) = false := by simpa using hb
            rw [hb']
            simp only [Bool.not_false, if_true]
            refine isTrue_and_nil ?_
            simp only [if_true]
            refine wpAny_execs_cons ?_
            refine wpAny_Assign_Name ?_
            walk_at "nm"
            refine stL F1 N1 ?_
            intro h2 _ F2 N2
            refine wpAny_execs_nil ⟨rfl, ?_⟩
            have ek : kid vlt ws p = 2 * p + 2 := by unfold kid; rw [if_pos ⟨by omega, hb'⟩]
            rw [ek]
            exact At.mk F2 N2 ⟨_, rfl, by walk_at "lk", ⟨_, by walk_at "lk"⟩, by walk_at "lk", by walk_at "lk", by walk_at "lk", by walk_at "lk"⟩
        · rw [if_neg (by simp; omega)]
          simp only [Bool.false_eq_true, if_false]
          refine wpAny_execs_nil ⟨rfl, ?_⟩
          have ek : kid vlt ws p = 2 * p + 1 := by unfold kid; rw [if_neg (by omega)]
          rw [ek]
          exact At.mk F1 N1 ⟨_, rfl, by walk_at "lk", ⟨_, by walk_at "lk"⟩, by walk_at "lk", by walk_at "lk", by walk_at "lk", by walk_at "lk"⟩
      · rintro h5 tk5 m5 nw F5 N5 ⟨tk6, rfl, q1, ⟨te2, q2⟩, q3, q4, q5, q6⟩
        have hkl := kid_lt vlt (show 2 * p + 1 < ws.length by omega)
        refine wpAny_execs_cons ?_
        refine wpAny_Assign_Subscript ?_
        refine Subscript_ ?_
        walk_at "nm"
        walk_at "nm"
        refine item_any (N5 _ (.head _)).1 rfl hkl.1 (by omega) ?_
        walk_at "nm"
        walk_at "nm"
        refine setItemL F5 N5 (by k_upd) rfl hk (by omega) ?_
        intro h6 F6 N6
        refine wpAny_execs_cons ?_
        refine wpAny_Assign_Name ?_
        walk_at "nm"
        refine stL F6 N6 ?_
        intro h7 _ F7 N7
        refine wpAny_execs_cons ?_
        refine wpAny_Assign_Name ?_
        refine wpAny_BinOp ?_
        refine wpAny_BinOp ?_
        refine cI ?_
        intro _ _
        walk_at "nm"
        refine mulI (.of_left (PySem.intBits_le_64 (by decide) (by decide))) ?_
        intro _ _
        refine cI ?_
        intro _ _
        refine addI ?_
        intro _ _
        rw [show (2 : Int) * (kid vlt ws p : Nat) + 1 = ((2 * kid vlt ws p + 1 : Nat) : Int) by omega]
        refine stL F7 N7 ?_
        intro h8 _ F8 N8
        refine wpAny_execs_nil ?_
        refine At.mk F8 N8 ⟨_, ?_, ws.set p (ws.getD (kid vlt ws p) .none), kid vlt ws p, _, _, rfl, rfl, by simpa using hkl.1, by simpa using hwl, hws.set (hws.getD hkl.1), by walk_at "lk", ⟨_, by walk_at "lk"⟩, by walk_at "lk", by walk_at "lk", by walk_at "lk", by walk_at "lk", ?_⟩
        · simp; omega
        · rw [← supN_step _ _ _ (by omega)]; exact hfin
    · rw [if_neg (by simp; omega)]
      refine At.mk F N ⟨ws, p, tp, rfl, hk, hwl, hws, by walk_at "lk", by walk_at "lk", by walk_at "lk", by walk_at "lk", ?_⟩
      rw [← hfin, supN_stop _ _ _ (by omega)]
  · rintro h3 tk3 m news F N ⟨ws, p, tp, rfl, hk, hwl, hws, m1, m2, m3, m4, hfin⟩
    refine wpAny_execs_cons ?_
    refine wpAny_Assign_Subscript ?_
    walk_at "nm"
    walk_at "nm"
    walk_at "nm"
    refine setItemL F N (by k_upd) rfl hk (by omega) ?_
    intro h4 F5 N5
    refine wpAny_execs_cons ?_
    refine wpAny_Expr ?_
    refine callG F5 Y (by k_dflt k_is) (by k_dflt k_is) ?_
    refine args_cons ?_
    walk_at "nm"
    refine args_cons ?_
    walk_at "nm"
    refine args_cons ?_
    walk_at "nm"
    refine args_nil ?_
    refine ⟨Y.X.keeps F5.keep, ?_⟩
    refine siftdown_c w mg mb g _ _ _ _ _ _ l (ws.set p x) n pos p _ _ _ _ ?_ ⟨fun b o e _ => F5.keep b o e, Nat.le_trans F5.above (Nat.le_of_lt F5.ns.lt)⟩ (N5 _ (.head _)).1 hgl' (by simpa using hk) (by simp; omega) (hws.set hxs) ?_ Y
    · simp only [depth_deeper]; omega
    · intro h6 tk6 k6 e6
      refine wpAny_execs_nil ?_
      refine hQ' _ _ (kept_end hgs hgz (fr_back F5 k6 (by simp [hll]) (by simp [hgl']))) ?_
      have ex : (ws.set p x).getD p .none = x := by rw [List.getD_eq_getElem?_getD]; simp [hk]
      rw [e6, ex, hfin]

theorem siftup_max_c (w : World) (mg mb : Str → Option Value) (G : Heap) (A : Around) (hp : Heap) (gs : Array GenState) (d : Drawn) (tk : Nat) (os : OsState) (l : Addr) (vs : List Value) (n : Nat) (pos : Nat) (t2 : Tok)
   (Q E : Value → Shared → Prop)
   (hA : A.depth + 20 < recursionLimit) (hG : Kept [] G hp)
   (hl : hp.get? l = some (listOf vs.toArray n)) (hgl : G.get? l = none) (hpos : pos < vs.length) (hlen : vs.length ≤ 1000) (hstr : IsStrs vs)
   (hQ : ∀ h' tk', Kept [l] hp h' → h'.get? l = some (listOf (siftup vgt vs pos).toArray n) → Q .none ⟨h', gs, d, tk', os⟩) :
   (Gd (hd.heap_1 w.params) vw (looseW vw lo) mg mb G) → 
   wpAny (model PySem.Challenge.rw_il0096_01.row.prog w) A (call (.ref 242) [.ref l, .int pos t2]) Q E ⟨hp, gs, d, tk, os⟩ := by
  k_fill
  intro X
  refine' enter (news := [(l, listOf vs.toArray n)]) (binds := [("heap", .ref l), ("pos", .int pos t2)]) X hG [l] (by simp [hgl]) (by simp [hl]) ?ho ?hcd ?hroom ?hbind ?hloc ?_ ?h1 ?h2 ?h3 ?h4
  case ho => k_dflt k_is
  case hcd => k_dflt k_is
  case hroom => first | omega | (show aD < _; omega)
  case hbind => first | exact BindsTo.of_eq rfl | exact kp_binds (X.keeps hG).X (fun _ => rfl)
  case hloc => exact locs rfl
  case h1 => rfl
  case h2 => rfl
  case h3 => rfl
  case h4 => decide
  intro g L h₁ Y hgs hgz F N hL
  simp only [List.reverse_cons, List.reverse_nil, List.nil_append, List.cons_append, updL] at F
  have hll : L ≠ l := fun q => (N _ (.head _)).2.1 q.symm
  have hgl' : g.get? l = none := (N _ (.head _)).2.2
  have hl2 := (N (l, listOf vs.toArray n) (.head _)).1
  refine wpAny_execs_cons ?_
  refine wpAny_Assign_Name ?_
  refine callB F Y (by k_dflt k_is) (by boot_fast) (by decide +kernel) ?_
  refine args_cons ?_
  walk_at "nm"
  refine args_nil ?_
  refine lenL hl2 (by omega) ?_
  intro _ _
  refine stL F N ?_
  intro h1 _ F1 N1
  refine wpAny_execs_cons ?_
  refine wpAny_Assign_Name ?_
  walk_at "nm"
  refine stL F1 N1 ?_
  intro h2 _ F2 N2
  refine wpAny_execs_cons ?_
  refine wpAny_Assign_Name ?_
  refine Subscript_ ?_
  walk_at "nm"
  walk_at "nm"
  refine item_any (N2 _ (.head _)).1 rfl hpos (by omega) ?_
  refine stL F2 N2 ?_
  intro h3 _ F3 N3
  refine wpAny_execs_cons ?_
  refine wpAny_Assign_Name ?_
  refine wpAny_BinOp ?_
  refine wpAny_BinOp ?_
  refine cI ?_
  intro _ _
  walk_at "nm"
  refine mulI (.of_left (PySem.intBits_le_64 (by decide) (by decide))) ?_
  intro _ _
  refine cI ?_
  intro _ _
  refine addI ?_
  intro _ _
  rw [show (2 : Int) * (pos : Int) + 1 = ((2 * pos + 1 : Nat) : Int) by omega]
  refine stL F3 N3 ?_
  intro h4 _ F4 N4
  clear F N F1 N1 F2 N2 F3 N3 hl2
  obtain ⟨x, hx⟩ : ∃ x, x = vs.getD pos .none := ⟨_, rfl⟩
  rw [← hx] at F4
  obtain ⟨R, hR⟩ : ∃ R, R = supN vgt x pos (vs.length - pos) vs pos := ⟨_, rfl⟩
  have hQ' : ∀ h' tk', Kept [l] hp h' → h'.get? l = some (listOf R.toArray n) → Q .none ⟨h', gs, d, tk', os⟩ := by rw [hR, hx]; exact hQ
  have hxs : ∃ y t, x = .str y t := hx ▸ hstr.getD hpos
  refine wpAny_execs_cons ?_
  refine whileL (n₀ := vs.length - pos) (fun k m news => ∃ (ws : List Value) (p : Nat) (tp tc : Tok), k = ws.length - p ∧ news = [(l, listOf ws.toArray n)] ∧ p < ws.length ∧ ws.length = vs.length ∧ IsStrs ws ∧
      m "heap" = some (.ref l) ∧ (∃ te, m "endpos" = some (.int (vs.length : Nat) te)) ∧ m "startpos" = some (.int pos t2) ∧ m "pos" = some (.int p tp) ∧ m "newitem" = some x ∧ m "childpos" = some (.int (2 * p + 1 : Nat) tc) ∧ supN vgt x pos (ws.length - p) ws p = R)
    (fun m news => ∃ (ws : List Value) (p : Nat) (tp : Tok), news = [(l, listOf ws.toArray n)] ∧ p < ws.length ∧ ws.length = vs.length ∧ IsStrs ws ∧ m "heap" = some (.ref l) ∧ m "startpos" = some (.int pos t2) ∧ m "pos" = some (.int p tp) ∧ m "newitem" = some x ∧ sdn vgt x pos p (ws.set p x) p = R)
    F4 N4 ⟨vs, pos, _, _, rfl, rfl, hpos, rfl, hstr, by walk_at "lk", ⟨_, by walk_at "lk"⟩, by walk_at "lk", by walk_at "lk", by walk_at "lk", by walk_at "lk", hR.symm⟩ ?_ ?_
  · rintro k m news h tk F N ⟨ws, p, tp, tc, rfl, rfl, hk, hwl, hws, m1, ⟨te, m2⟩, m3, m4, m5, m6, hfin⟩
    refine wpAny_isTrue_Compare1 ?_
    walk_at "nm"
    walk_at "nm"
    refine lt_int ?_
    refine wpAny_truthy_bool ?_
    by_cases hc : 2 * p + 1 < vs.length
    · rw [if_pos (by simp; omega)]
      refine wpAny_execs_cons ?_
      refine wpAny_Assign_Name ?_
      refine wpAny_BinOp ?_
      walk_at "nm"
      refine cI ?_
      intro _ _
      refine addI ?_
      intro _ _
      rw [show ((2 * p + 1 : Nat) : Int) + 1 = ((2 * p + 2 : Nat) : Int) by omega]
      refine stL F N ?_
      intro h1 _ F1 N1
      refine wpAny_execs_cons ?_
      refine joinL (g := g) (L := L) (gs := gs) (d := d) (os := os) (fun m nw => ∃ tk, nw = [(l, listOf ws.toArray n)] ∧ m "heap" = some (.ref l) ∧ (∃ te, m "endpos" = some (.int (vs.length : Nat) te)) ∧ m "startpos" = some (.int pos t2) ∧ m "pos" = some (.int p tp) ∧ m "newitem" = some x ∧ m "childpos" = some (.int (kid vgt ws p : Nat) tk)) ?_ ?_
      · refine wpAny_If ?_
        refine isTrue_and ?_
        refine wpAny_isTrue_Compare1 ?_
        walk_at "nm"
        walk_at "nm"
        refine lt_int ?_
        refine wpAny_truthy_bool ?_
        by_cases hr : 2 * p + 2 < vs.length
        · rw [if_pos (by simp; omega)]
          refine isTrue_and ?_
          refine isTrue_not ?_
          refine wpAny_isTrue_Compare1 ?_
          refine Subscript_ ?_
          walk_at "nm"
          walk_at "nm"
          refine item_any (N1 _ (.head _)).1 rfl (by omega) (by omega) ?_
          refine Subscript_ ?_
          walk_at "nm"
          walk_at "nm"
          refine item_any (N1 _ (.head _)).1 rfl (by omega) (by omega) ?_
          obtain ⟨z1, u1, e1⟩ := hws.getD (show 2 * p + 1 < ws.length by omega)
          obtain ⟨z2, u2, e2⟩ := hws.getD (show 2 * p + 2 < ws.length by omega)
          rw [e2, e1]
          refine lt_str ?_
          have hlt : vgt (ws.getD (2 * p + 1) .none) (ws.getD (2 * p + 2) .none) = decide (z2.cps.toList < z1.cps.toList) := by rw [e1, e2]; rfl
          rw [← hlt]
          refine wpAny_truthy_bool ?_
          by_cases hb : vgt (ws.getD (2 * p + 1) .none) (ws.getD (2 * p + 2) .none) = true
          · rw [hb]
            simp only [Bool.not_true, Bool.false_eq_true, if_false]
            refine wpAny_execs_nil ⟨rfl, ?_⟩
            have ek : kid vgt ws p = 2 * p + 1 := by unfold kid; rw [if_neg (by rw [hb]; simp)]
            rw [ek]
            exact At.mk F1 N1 ⟨_, rfl, by walk_at "lk", ⟨_, by walk_at "lk"⟩, by walk_at "lk", by walk_at "lk", by walk_at "lk", by walk_at "lk"⟩
          · have hb' : vgt (ws.getD (2 * p + 1) .none) (ws.getD (2 * p + 2) .none) = false := by simpa using hb
            rw [hb']
            simp only [Bool.not_false, if_true]
            refine isTrue_and_nil ?_
            simp only [if_true]
            refine wpAny_execs_cons ?_
            refine wpAny_Assign_Name ?_
            walk_at "nm"
            refine stL F1 N1 ?_
            intro h2 _ F2 N2
            refine wpAny_execs_nil ⟨rfl, ?_⟩
            have ek : kid vgt ws p = 2 * p + 2 := by unfold kid; rw [if_pos ⟨by omega, hb'⟩]
            rw [ek]
            exact At.mk F2 N2 ⟨_, rfl, by walk_at "lk", ⟨_, by walk_at "lk"⟩, by walk_at "lk", by walk_at "lk", by walk_at "lk", by walk_at "lk"⟩
        · rw [if_neg (by simp; omega)]
          simp only [Bool.false_eq_true, if_false]
          refine wpAny_execs_nil ⟨rfl, ?_⟩
          have ek : kid vgt ws p = 2 * p + 1 := by unfold kid; rw [if_neg (by omega)]
          rw [ek]
          exact At.mk F1 N1 ⟨_, rfl, by walk_at "lk", ⟨_, by walk_at "lk"⟩, by walk_at "lk", by walk_at "lk", by walk_at "lk", by walk_at "lk"⟩
      · rintro h5 tk5 m5 nw F5 N5 ⟨tk6, rfl, q1, ⟨te2, q2⟩, q3, q4, q5, q6⟩
        have hkl := kid_lt vgt (show 2 * p + 1 < ws.length by omega)
        refine wpAny_execs_cons ?_
        refine wpAny_Assign_Subscript ?_
        refine Subscript_ ?_
        walk_at "nm"
        walk_at "nm"
        refine item_any (N5 _ (.head _)).1 rfl hkl.1 (by omega) ?_
        walk_at "nm"
        walk_at "nm"
        refine setItemL F5 N5 (by k_upd) rfl hk (by omega) ?_
        intro h6 F6 N6
        refine wpAny_execs_cons ?_
        refine wpAny_Assign_Name ?_
        walk_at "nm"
        refine stL F6 N6 ?_
        intro h7 _ F7 N7
        refine wpAny_execs_cons ?_
        refine wpAny_Assign_Name ?_
        refine wpAny_BinOp ?_
        refine wpAny_BinOp ?_
        refine cI ?_
        intro _ _
        walk_at "nm"
        refine mulI (.of_left (PySem.intBits_le_64 (by decide) (by decide))) ?_
        intro _ _
        refine cI ?_
        intro _ _
        refine addI ?_
        intro _ _
        rw [show (2 : Int) * (kid vgt ws p : Nat) + 1 = ((2 * kid vgt ws p + 1 : Nat) : Int) by omega]
        refine stL F7 N7 ?_
        intro h8 _ F8 N8
        refine wpAny_execs_nil ?_
        refine At.mk F8 N8 ⟨_, ?_, ws.set p (ws.getD (kid vgt ws p) .none), kid vgt ws p, _, _, rfl, rfl, by simpa using hkl.1, by simpa using hwl, hws.set (hws.getD hkl.1), by walk_at "lk", ⟨_, by walk_at "lk"⟩, by walk_at "lk", by walk_at "lk", by walk_at "lk", by walk_at "lk", ?_⟩
        · simp; omega
        · rw [← supN_step _ _ _ (by omega)]; exact hfin
    · rw [if_neg (by simp; omega)]
      refine At.mk F N ⟨ws, p, tp, rfl, hk, hwl, hws, by walk_at "lk", by walk_at "lk", by walk_at "lk", by walk_at "lk", ?_⟩
      rw [← hfin, supN_stop _ _ _ (by omega)]
  · rintro h3 tk3 m news F N ⟨ws, p, tp, rfl, hk, hwl, hws, m1, m2, m3, m4, hfin⟩
    refine wpAny_execs_cons ?_
    refine wpAny_Assign_Subscript ?_
    walk_at "nm"
    walk_at "nm"
    walk_at "nm"
    refine setItemL F N (by k_upd) rfl hk (by omega) ?_
    intro h4 F5 N5
    refine wpAny_execs_cons ?_
    refine wpAny_Expr ?_
    refine callG F5 Y (by k_dflt k_is) (by k_dflt k_is) ?_
    refine args_cons ?_
    walk_at "nm"
    refine args_cons ?_
    walk_at "nm"
    refine args_cons ?_
    walk_at "nm"
    refine args_nil ?_
    refine ⟨Y.X.keeps F5.keep, ?_⟩
    refine siftdown_max_c w mg mb g _ _ _ _ _ _ l (ws.set p x) n pos p _ _ _ _ ?_ ⟨fun b o e _ => F5.keep b o e, Nat.le_trans F5.above (Nat.le_of_lt F5.ns.lt)⟩ (N5 _ (.head _)).1 hgl' (by simpa using hk) (by simp; omega) (hws.set hxs) ?_ Y
    · simp only [depth_deeper]; omega
    · intro h6 tk6 k6 e6
      refine wpAny_execs_nil ?_
      refine hQ' _ _ (kept_end hgs hgz (fr_back F5 k6 (by simp [hll]) (by simp [hgl']))) ?_
      have ex : (ws.set p x).getD p .none = x := by rw [List.getD_eq_getElem?_getD]; simp [hk]
      rw [e6, ex, hfin]
end

section
set_option maxRecDepth 100000
set_option maxHeartbeats 4000000
open PySem
section
variable {prog : Program} {w : World} {A : Around} {E : Value → Shared → Prop} {s : Shared}
theorem range_fields {r : Addr} {a b c : Int} {t u v : Tok} {Q : Int × Int × Int → Shared → Prop} (hr : IsRange s.heap r a b c t u v) (hq : Q (a, b, c) s) : wpAny (model prog w) A (Builtin.Range.rangeFields (.ref r)) Q E s := by
  unfold Builtin.Range.rangeFields
  refine wpAny_bind (wpAny_field hr rfl (x := .int a t) rfl ?_)
  refine wpAny_bind (wpAny_of_eq (a := some a) rfl ?_)
  refine wpAny_bind (wpAny_field hr rfl (x := .int b u) rfl ?_)
  refine wpAny_bind (wpAny_of_eq (a := some b) rfl ?_)
  refine wpAny_bind (wpAny_field hr rfl (x := .int c v) rfl ?_)
  refine wpAny_bind (wpAny_of_eq (a := some c) rfl ?_)
  exact wpAny_pure hq
theorem reversed_range0 {r : Addr} {n : Nat} {t u v : Tok} {Q : Value → Shared → Prop} (hr : IsRange s.heap r 0 n 1 t u v) (hs : n ≤ 1000)
    (hq : Q (.ref s.heap.objs.size) { s with heap := s.heap.push { cls := .type "range_iterator", dict := none, data := .fields #[rawInt ((n : Int) - 1), rawInt n, rawInt (-1)], slots := #[] } }) :
    wpAny (model prog w) A (call (.type "reversed") [.ref r]) Q E s := by
  have hT : s.TypeIs (.ref r) "range" := ⟨_, hr, rfl⟩
  have hz : Builtin.Range.rangeSize 0 (n : Int) 1 = (n : Int) := by rw [PyProof.Rows.rangeSize_nat]; omega
  refine callType_other (U := "range_iterator") (Q₁ := fun obj s₁ => obj = .ref s.heap.objs.size ∧ s₁ = { s with heap := s.heap.push { cls := .type "range_iterator", dict := none, data := .fields #[rawInt ((n : Int) - 1), rawInt n, rawInt (-1)], slots := #[] } }) (by decide +kernel) F.create_reversed ⟨_, _, F.mro_reversed⟩ F.made_reversed (by rw [isSubtype_type]; kernel_rfl) (F.typeCall_reversed_1 _) ?_ ?_
  · refine codeAny_of_tree ?_
    show wpAny _ A.in1.in1 (do checkBuiltinCall "reversed.__new__" ⟨[.type "reversed", .ref r], []⟩; again (.builtin "reversed.__new__" ⟨[.type "reversed", .ref r], []⟩)) _ _ s
    refine wpAny_bind (wpAny_of_eq (F.newCall_reversed_1 _) (wpAny_pure ⟨plainId_quiet F.plain_reversed_new _, codeAny_builtin F.entry_reversed_new ?_⟩))
    rw [Around.under_plainId F.plain_reversed_new _]
    unfold Builtin.«reversed.__new__»
    refine wpAny_bind (wpAny_of_eq (newClass_reversed _) ?_)
    try dsimp only
    refine wpAny_bind (wpAny_of_eq (a := ()) (by first | rfl | kernel_rfl) ?_)
    refine wpAny_bind (wpAny_of_eq (a := ()) (by first | rfl | kernel_rfl) ?_)
    try dsimp only
    refine wpAny_bind (wpAny_specialOf hT F.slot_range_reversed.lookup ?_)
    try dsimp only
    refine wpAny_bind (wpAny_of_eq (F.slot_range_reversed.bind _) ?_)
    try dsimp only
    first
    | rw [if_neg (show ¬ ((Value.builtin "range.__reversed__" == Value.none) = true) from Bool.false_ne_true)]
    | (show wpAny _ _ (if (Value.builtin "range.__reversed__" == Value.none) = true then _ else _) _ _ _; rw [if_neg (show ¬ ((Value.builtin "range.__reversed__" == Value.none) = true) from Bool.false_ne_true)])
    refine wpAny_bind (wpAny_rule ?_)
    refine wpAny_bind (m := runValue (.call (.builtin "range.__reversed__") ⟨[.ref r], []⟩)) (show wpAny _ _ (call (.builtin "range.__reversed__") [.ref r]) _ _ _ from ?_)
    refine wpAny_call_entry F.slot_range_reversed hT F.entry_range_reversed ?_ (F.args_range_reversed_1 _)
    unfold Builtin.«range.__reversed__»
    refine wpAny_bind (wpAny_of_eq (a := Value.ref r) rfl ?_)
    refine wpAny_bind (range_fields hr ?_)
    dsimp only
    rw [hz]
    have h1 : (Builtin.Range.rangeFitsLong 0 && Builtin.Range.rangeFitsLong (n : Int) && Builtin.Range.rangeFitsLong 1 && Builtin.Range.rangeFitsLong (-1) && Builtin.Range.rangeFitsLong (0 - 1) && Builtin.Range.rangeFitsLong (n : Int)) = true := by
      have : Builtin.Range.rangeFitsLong (n : Int) = true := by
        unfold Builtin.Range.rangeFitsLong
        simp only [Bool.and_eq_true, decide_eq_true_eq]
        omega
      rw [this]; decide
    rw [h1]
    simp only [Bool.not_true, Bool.false_eq_true, if_false, if_true]
    rw [show (0 : Int) + ((n : Int) - 1) * 1 = (n : Int) - 1 by omega]
    exact wpAny_bind (wpAny_newObj_type (wpAny_pure ⟨_, rfl, wpAny_bind (wpAny_pure (wpAny_pure ⟨rfl, rfl⟩))⟩))
  · rintro obj s₁ ⟨rfl, rfl⟩
    exact ⟨⟨_, Heap.get?_push_size _ rfl, rfl⟩, hq⟩
end
end

section
set_option maxRecDepth 100000
set_option maxHeartbeats 4000000
open PySem PySem.W PyProof.Rows PySem.Calls
/-- heappop: what comes back, what is left -/
noncomputable def htop (vs : List Value) (y : Value) : Value := match vs with | [] => y | v :: _ => v
noncomputable def hrest (lt : Value → Value → Bool) (vs : List Value) (y : Value) : List Value := match vs with | [] => [] | v :: r => siftup lt ((v :: r).set 0 y) 0
/-- heapify: the places k - 1, .., 0 -/
noncomputable def heapifyV (lt : Value → Value → Bool) : Nat → List Value → List Value
  | 0, vs => vs
  | k + 1, vs => heapifyV lt k (siftup lt vs k)
theorem news_ne {g h : Heap} {L a b : Addr} {o o' : Obj} {news : List (Addr × Obj)} (N : News g L h news) (ha : (a, o) ∈ news) (hb : (b, o') ∈ news) (hc : o.cls ≠ o'.cls) : a ≠ b := by
  rintro rfl
  have h1 := (N _ ha).1
  have h2 := (N _ hb).1
  rw [h1] at h2
  exact hc (congrArg Obj.cls (Option.some.inj h2))
section
variable {prog : Program} {w : World} {A : Around} {K : Frag} {p : Program} {loose : List Str} {mg mb : Str → Option Value} {g h : Heap} {gs : Array GenState} {d : Drawn} {tk : Nat} {os : OsState} {L : Addr} {m : Str → Option Value} {news : List (Addr × Obj)}
  {E : Value → Shared → Prop} {name : Str} {scope : Scope} {a : Addr} {cd : Value}

/-- one object of the ledger is another one now -/
theorem turn1 {it : Addr} {o o' : Obj} {h' : Heap} (F : Fr g L h m) (N : News g L h ((it, o) :: news)) (hn : ∀ p ∈ news, p.1 ≠ it) (hs : Heap.SameBut it h h') (e : h'.get? it = some o') :
    Fr g L h' m ∧ News g L h' ((it, o') :: news) := by
  have z := N _ (.head _)
  refine ⟨F.change hs z.2.1 z.2.2, fun p hp => ?_⟩
  rcases List.mem_cons.mp hp with rfl | hp
  · exact ⟨e, z.2⟩
  · exact ⟨(hs.2 p.1 (hn p hp)).trans (N _ (.tail _ hp)).1, (N _ (.tail _ hp)).2⟩
/-- all but one object of the ledger stand -/
theorem drop1 {it : Addr} {o : Obj} {h' : Heap} (F : Fr g L h m) (N : News g L h ((it, o) :: news)) (hn : ∀ p ∈ news, p.1 ≠ it) (hs : Heap.ExtBut it h h') :
    Fr g L h' m ∧ News g L h' news := by
  have z := N _ (.head _)
  obtain ⟨oL, a1, a2, hoL, a3⟩ := F.ns
  refine ⟨⟨⟨oL, a1, a2, hs L _ (Ne.symm z.2.1) hoL, a3⟩, fun b x e => hs b _ (fun q => ?_) (F.keep b x e), F.above⟩, fun p hp => ⟨hs _ _ (hn p hp) (N _ (.tail _ hp)).1, (N _ (.tail _ hp)).2⟩⟩
  rw [q, z.2.2] at e; cases e

theorem forL {env : Env} {target : PySem.Expr} {body : List Stmt} {it : Value} {Q : Flow → Shared → Prop} (J : Nat → (Str → Option Value) → List (Addr × Obj) → Prop) (P : (Str → Option Value) → List (Addr × Obj) → Prop) {n₀ : Nat}
    (F : Fr g L h m) (N : News g L h news) (hJ : J n₀ m news)
    (turn : ∀ n m₁ news₁ h₁ tk₁, Fr g L h₁ m₁ → News g L h₁ news₁ → J n m₁ news₁ →
      wpAny (model prog w) A (pyNext it) (fun r s₁ => match r with
        | none => At g L gs d os P s₁
        | some v => wpAny (model prog w) A (letOwnedTupleGo target it v) (fun _ s₁' => wpAny (model prog w) A (assign target env v) (fun _ s₂ =>
            wpAny (model prog w) A (execs body env) (TurnQ g L gs d os (fun m nw => ∃ n', n' < n ∧ J n' m nw) P Q) (fun _ _ => False) s₂) (fun _ _ => False) s₁') (fun _ _ => False) s₁) (fun _ _ => False) ⟨h₁, gs, d, tk₁, os⟩)
    (done : ∀ h' tk' m' news', Fr g L h' m' → News g L h' news' → P m' news' → Q .next ⟨h', gs, d, tk', os⟩) {R' : Value → Shared → Prop} :
    codeAny (model prog w) A (.forLoop target it body [] env) (fun r s' => match r with | .ok f => Q f s' | .error e => R' e s') ⟨h, gs, d, tk, os⟩ := by
  refine codeAny_forLoop_any (fun n s' => At g L gs d os (J n) s') (fun n s' hI => ?_) n₀ ⟨h, tk, m, news, rfl, F, N, hJ⟩
  obtain ⟨h₁, tk₁, m₁, news₁, rfl, F₁, N₁, J₁⟩ := hI
  refine wpAny_mono (turn n m₁ news₁ h₁ tk₁ F₁ N₁ J₁) (fun r s₁ hr => ?_) fun _ _ x => x.elim
  cases r with
  | none =>
    obtain ⟨h', tk', m', news', rfl, F', N', hp⟩ := hr
    exact wpAny_execs_nil (done h' tk' m' news' F' N' hp)
  | some v =>
    refine wpAny_mono hr (fun _ s₁' h₁' => ?_) fun _ _ x => x.elim
    refine wpAny_mono h₁' (fun _ s₂ h₂ => ?_) fun _ _ x => x.elim
    refine wpAny_mono h₂ (fun f s₃ q => ?_) fun _ _ x => x.elim
    cases f with
    | ret v => exact q
    | brk =>
      obtain ⟨h', tk', m', news', rfl, F', N', hp⟩ := q
      exact done h' tk' m' news' F' N' hp
    | next =>
      obtain ⟨h', tk', m', news', rfl, F', N', n', hn, hj⟩ := q
      exact ⟨n', hn, h', tk', m', news', rfl, F', N', hj⟩
    | cont =>
      obtain ⟨h', tk', m', news', rfl, F', N', n', hn, hj⟩ := q
      exact ⟨n', hn, h', tk', m', news', rfl, F', N', hj⟩

/-! range iterators -/
abbrev rangeIt (x left step : Int) : Obj := { cls := .type "range_iterator", dict := none, data := .fields #[rawInt x, rawInt left, rawInt step], slots := #[] }
theorem nextR {it : Addr} {x left step : Int} {Q : Option Value → Shared → Prop} (F : Fr g L h m) (N : News g L h ((it, rangeIt x left step) :: news)) (hn : ∀ p ∈ news, p.1 ≠ it) (hl : 0 < left)
    (hq : ∀ h' tk' t, Fr g L h' m → News g L h' ((it, rangeIt (x + step) (left - 1) step) :: news) → Q (some (.int x t)) ⟨h', gs, d, tk', os⟩) :
    wpAny (model prog w) A (pyNext (.ref it)) Q E ⟨h, gs, d, tk, os⟩ :=
  wpAny_pyNext_range_item (s := ⟨h, gs, d, tk, os⟩) (N _ (.head _)).1 hl fun h' e hs => have z := turn1 F N hn hs e; hq h' _ _ z.1 z.2
theorem nextR0 {it : Addr} {x left step : Int} {Q : Option Value → Shared → Prop} (hh : A.handled = none) (F : Fr g L h m) (N : News g L h ((it, rangeIt x left step) :: news)) (hn : ∀ p ∈ news, p.1 ≠ it) (hl : left ≤ 0)
    (hq : ∀ h', Fr g L h' m → News g L h' news → Q none ⟨h', gs, d, tk, os⟩) :
    wpAny (model prog w) A (pyNext (.ref it)) Q E ⟨h, gs, d, tk, os⟩ :=
  wpAny_pyNext_range_end (s := ⟨h, gs, d, tk, os⟩) hh (N _ (.head _)).1 hl fun h' e => have z := drop1 F N hn e; hq h' z.1 z.2
theorem rangeSize_up (n : Nat) : Builtin.Range.rangeSize 0 (n : Int) 1 = (n : Int) := by
  rw [PyProof.Rows.rangeSize_nat]; omega
/-- reversed(range(n)) -/
theorem reversed_range {r : Addr} {n : Nat} {t u v : Tok} {Q : Value → Shared → Prop} (hr : IsRange h r 0 n 1 t u v) (hs : n ≤ 1000) (F : Fr g L h m) (N : News g L h news)
    (hq : ∀ a h', Fr g L h' m → News g L h' ((a, rangeIt ((n : Int) - 1) n (-1)) :: news) → (∀ p ∈ news, p.1 ≠ a) → Q (.ref a) ⟨h', gs, d, tk, os⟩) :
    wpAny (model prog w) A (call (.type "reversed") [.ref r]) Q E ⟨h, gs, d, tk, os⟩ :=
  reversed_range0 (s := ⟨h, gs, d, tk, os⟩) hr hs (hq _ _ (F.push _) (News.push F N _) fun p hp => Nat.ne_of_lt (Heap.lt_size (N p hp).1))
theorem rangeL {Q : Value → Shared → Prop} {n : Int} {t : Tok} (F : Fr g L h m) (N : News g L h news)
    (hq : ∀ r h' tk' t₁ u₁ v₁, IsRange h' r 0 n 1 t₁ u₁ v₁ → Fr g L h' m → News g L h' news → Q (.ref r) ⟨h', gs, d, tk', os⟩) :
    wpAny (model prog w) A (call (.type "range") [.int n t]) Q E ⟨h, gs, d, tk, os⟩ :=
  range1_rows F N fun h' tk' t₁ u₁ v₁ hr F' N' _ => hq _ h' tk' t₁ u₁ v₁ hr F' N'

theorem fdivI {x y : Int} {t u : Tok} {Q : Value → Shared → Prop} (hy : y ≠ 0) (hy2 : y.natAbs < 1073741824) (hq : ∀ t tk', Q (.int (x.fdiv y) t) ⟨h, gs, d, tk', os⟩) : wpAny (model prog w) A (binaryOp .FloorDiv (.int x t) (.int y u)) Q E ⟨h, gs, d, tk, os⟩ := floordiv_int hy (hq _ _) (.inl (PyProof.noPylong_small hy2))
theorem iterR {it : Addr} {x left step : Int} {Q : Value → Shared → Prop} (N : News g L h ((it, rangeIt x left step) :: news)) (hq : Q (.ref it) ⟨h, gs, d, tk, os⟩) : wpAny (model prog w) A (pyIter (.ref it)) Q E ⟨h, gs, d, tk, os⟩ :=
  wpAny_pyIter_rangeiter (s := ⟨h, gs, d, tk, os⟩) (N _ (.head _)).1 hq
theorem letGo_name {M : Model} {s : Shared} {x : Str} {pos : Pos} {it v : Value} {Q : Unit → Shared → Prop} (hq : Q () s) : wpAny M A (letOwnedTupleGo (.Name x pos) it v) Q E s := wpAny_pure hq

/-! methods of a list -/
theorem methL {x : Str} {id : String} {l : Addr} {vs : List Value} {n : Nat} {pl : Sem Bool} {Q : Value × List Value → Shared → Prop} (e : h.get? l = some (listOf vs.toArray n)) (slot : Slot "list" x id) (hty : typeOf (.builtin id) = pure (.type "method_descriptor"))
    (hq : Q (.builtin id, [.ref l]) ⟨h, gs, d, tk, os⟩) : wpAny (model prog w) A (getMethod (.ref l) x pl) Q E ⟨h, gs, d, tk, os⟩ :=
  getMethod_builtin (s := ⟨h, gs, d, tk, os⟩) ⟨_, e, rfl⟩ PySem.F.plainAttrs_list slot hty (fun a e' => by cases e'; exact ⟨_, e, rfl⟩) hq
theorem last_app : ∀ (p : List Value) (y : Value), kl_last (p ++ [y]) = some (p, y)
  | [], _ => rfl
  | x :: p, y => by show (match kl_last (p ++ [y]) with | some (p, y) => some (x :: p, y) | none => some ([], x)) = _; rw [last_app p y]
theorem popL {l : Addr} {vs : List Value} {y : Value} {n : Nat} {news' : List (Addr × Obj)} {Q : Value → Shared → Prop} (F : Fr g L h m) (N : News g L h news)
    (U : Upd l (listOf (vs ++ [y]).toArray n) (listOf vs.toArray (n + 1)) news news') (hz : vs.length ≤ 100000) (hq : ∀ h', Fr g L h' m → News g L h' news' → Q y ⟨h', gs, d, tk, os⟩) :
    wpAny (model prog w) A (call (.builtin "list.pop") [.ref l]) Q E ⟨h, gs, d, tk, os⟩ :=
  kl_pop (s := ⟨h, gs, d, tk, os⟩) F N (by rw [List.toList_toArray]; exact last_app vs y) U (by simp [sizeLine]; omega) hq
theorem appendL {l : Addr} {vs : List Value} {y : Value} {n : Nat} {news' : List (Addr × Obj)} {Q : Value → Shared → Prop} (F : Fr g L h m) (N : News g L h news)
    (U : Upd l (listOf vs.toArray n) (listOf (vs ++ [y]).toArray (n + 1)) news news') (hz : vs.length ≤ 100000) (hq : ∀ h', Fr g L h' m → News g L h' news' → Q .none ⟨h', gs, d, tk, os⟩) :
    wpAny (model prog w) A (call (.builtin "list.append") [.ref l, y]) Q E ⟨h, gs, d, tk, os⟩ :=
  append_K (s := ⟨h, gs, d, tk, os⟩) (its := vs.toArray) F N (by rw [List.push_toArray]; exact U) (fun h' F' N' => hq h' F' N') (by simp [sizeLine]; omega)
theorem truthyL {l : Addr} {vs : List Value} {n : Nat} {Q : Bool → Shared → Prop} (e : h.get? l = some (listOf vs.toArray n)) (hf : vs.length < 2 ^ 62) (hq : ∀ tk', Q (!vs.isEmpty) ⟨h, gs, d, tk', os⟩) :
    wpAny (model prog w) A (truthy (.ref l)) Q E ⟨h, gs, d, tk, os⟩ :=
  wpAny_truthy_list (s := ⟨h, gs, d, tk, os⟩) (PySem.IsL.isList e) (by simp; omega) (by have := hq (tk + 1 + 1); simpa using this)
end
end

section
set_option maxRecDepth 100000
set_option maxHeartbeats 4000000
open PySem PySem.W PyProof.Rows PySem.Calls
/-- heappop of a list that is not empty -/
theorem heappop_c (w : World) (mg mb : Str → Option Value) (G : Heap) (A : Around) (hp : Heap) (gs : Array GenState) (d : Drawn) (tk : Nat) (os : OsState) (l : Addr) (vs : List Value) (y : Value) (n : Nat)
   (Q E : Value → Shared → Prop)
   (hA : A.depth + 30 < recursionLimit) (hG : Kept [] G hp)
   (hl : hp.get? l = some (listOf (vs ++ [y]).toArray n)) (hgl : G.get? l = none) (hlen : vs.length < 1000) (hstr : IsStrs (vs ++ [y]))
   (hQ : ∀ h' tk', Kept [l] hp h' → h'.get? l = some (listOf (hrest vlt vs y).toArray (n + 1)) → Q (htop vs y) ⟨h', gs, d, tk', os⟩) :
   (Gd (hd.heap_1 w.params) vw (looseW vw lo) mg mb G) → 
   wpAny (model PySem.Challenge.rw_il0096_01.row.prog w) A (call (.ref 193) [.ref l]) Q E ⟨hp, gs, d, tk, os⟩ := by
  k_fill
  intro X
  refine' enter (news := [(l, listOf (vs ++ [y]).toArray n)]) (binds := [("heap", .ref l)]) X hG [l] (by simp [hgl]) (by simp [hl]) ?ho ?hcd ?hroom ?hbind ?hloc ?_ ?h1 ?h2 ?h3 ?h4
  case ho => k_dflt k_is
  case hcd => k_dflt k_is
  case hroom => first | omega | (show aD < _; omega)
  case hbind => first | exact BindsTo.of_eq rfl | exact kp_binds (X.keeps hG).X (fun _ => rfl)
  case hloc => exact locs rfl
  case h1 => rfl
  case h2 => rfl
  case h3 => rfl
  case h4 => decide
  intro g L h₁ Y hgs hgz F N hL
  simp only [List.reverse_cons, List.reverse_nil, List.nil_append, List.cons_append, updL] at F
  have hll : L ≠ l := fun q => (N _ (.head _)).2.1 q.symm
  have hgl' : g.get? l = none := (N _ (.head _)).2.2
  refine wpAny_execs_cons ?_
  refine wpAny_Assign_Name ?_
  refine MethodCall_ ?_
  walk_at "nm"
  refine methL (N _ (.head _)).1 PySem.F.slot_list_pop PySem.F.type_list_pop ?_
  refine callWith_method0 ?_
  refine popL F N (by k_upd) (by omega) ?_
  intro h1 F1 N1
  refine stL F1 N1 ?_
  intro h2 _ F2 N2
  refine wpAny_execs_cons ?_
  refine wpAny_If ?_
  refine isTrue_plain ?_
  walk_at "nm"
  refine truthyL (N2 _ (.head _)).1 (by omega) ?_
  intro _
  cases vs with
  | nil =>
    simp only [List.isEmpty_nil, Bool.not_true, Bool.false_eq_true, if_false]
    refine wpAny_execs_nil ?_
    refine wpAny_execs_cons ?_
    refine wpAny_Return_some ?_
    walk_at "nm"
    exact hQ _ _ (kept_end hgs hgz F2) (N2 _ (.head _)).1
  | cons v vs =>
    simp only [List.isEmpty_cons, Bool.not_false, if_true]
    refine wpAny_execs_cons ?_
    refine wpAny_Assign_Name ?_
    refine Subscript_ ?_
    walk_at "nm"
    refine cI ?_
    intro _ _
    refine item_any (k := 0) (N2 _ (.head _)).1 rfl (by simp) (by decide) ?_
    refine stL F2 N2 ?_
    intro h3 _ F3 N3
    refine wpAny_execs_cons ?_
    refine wpAny_Assign_Subscript ?_
    walk_at "nm"
    walk_at "nm"
    refine cI ?_
    intro _ _
    refine setItemL (k := 0) F3 N3 (by k_upd) rfl (by simp) (by decide) ?_
    intro h4 F4 N4
    refine wpAny_execs_cons ?_
    refine wpAny_Expr ?_
    refine callG F4 Y (by k_dflt k_is) (by k_dflt k_is) ?_
    refine args_cons ?_
    walk_at "nm"
    refine args_cons ?_
    refine cI ?_
    intro _ _
    refine args_nil ?_
    refine ⟨Y.X.keeps F4.keep, ?_⟩
    have hs' : IsStrs (List.set (v :: vs) 0 y) := by
      refine IsStrs.set (fun u hu => hstr u (List.mem_append_left _ hu)) (hstr y (by simp))
    refine siftup_c w mg mb g _ _ _ _ _ _ l (List.set (v :: vs) 0 y) (n + 1) 0 _ _ _ ?_ ⟨fun b o e _ => F4.keep b o e, Nat.le_trans F4.above (Nat.le_of_lt F4.ns.lt)⟩ (N4 _ (.head _)).1 hgl' (by simp) (by simp at hlen ⊢; omega) hs' ?_ Y
    · simp only [depth_deeper]; omega
    · intro h6 tk6 k6 e6
      have F6 := fr_back F4 k6 (by simp [hll]) (by simp [hgl'])
      refine wpAny_execs_cons ?_
      refine wpAny_Return_some ?_
      walk_at "nm"
      exact hQ _ _ (kept_end hgs hgz F6) e6

/-- heapify -/
theorem heapify_c (w : World) (mg mb : Str → Option Value) (G : Heap) (A : Around) (hp : Heap) (gs : Array GenState) (d : Drawn) (tk : Nat) (os : OsState) (l : Addr) (vs : List Value) (n : Nat)
   (Q E : Value → Shared → Prop)
   (hA : A.depth + 30 < recursionLimit) (hh : A.handled = none) (hG : Kept [] G hp)
   (hl : hp.get? l = some (listOf vs.toArray n)) (hgl : G.get? l = none) (hlen : vs.length ≤ 1000) (hstr : IsStrs vs)
   (hQ : ∀ h' tk', Kept [l] hp h' → h'.get? l = some (listOf (heapifyV vlt (vs.length / 2) vs).toArray n) → Q .none ⟨h', gs, d, tk', os⟩) :
   (Gd (hd.heap_1 w.params) vw (looseW vw lo) mg mb G) → 
   wpAny (model PySem.Challenge.rw_il0096_01.row.prog w) A (call (.ref 200) [.ref l]) Q E ⟨hp, gs, d, tk, os⟩ := by
  k_fill
  intro X
  refine' enter (news := [(l, listOf vs.toArray n)]) (binds := [("x", .ref l)]) X hG [l] (by simp [hgl]) (by simp [hl]) ?ho ?hcd ?hroom ?hbind ?hloc ?_ ?h1 ?h2 ?h3 ?h4
  case ho => k_dflt k_is
  case hcd => k_dflt k_is
  case hroom => first | omega | (show aD < _; omega)
  case hbind => first | exact BindsTo.of_eq rfl | exact kp_binds (X.keeps hG).X (fun _ => rfl)
  case hloc => exact locs rfl
  case h1 => rfl
  case h2 => rfl
  case h3 => rfl
  case h4 => decide
  intro g L h₁ Y hgs hgz F N hL
  simp only [List.reverse_cons, List.reverse_nil, List.nil_append, List.cons_append, updL] at F
  have hll : L ≠ l := fun q => (N _ (.head _)).2.1 q.symm
  have hgl' : g.get? l = none := (N _ (.head _)).2.2
  refine wpAny_execs_cons ?_
  refine wpAny_Assign_Name ?_
  refine callB F Y (by k_dflt k_is) (by boot_fast) (by decide +kernel) ?_
  refine args_cons ?_
  walk_at "nm"
  refine args_nil ?_
  refine lenL (N _ (.head _)).1 (by omega) ?_
  intro _ _
  refine stL F N ?_
  intro h1 _ F1 N1
  refine wpAny_execs_cons ?_
  refine wpAny_For ?_
  refine callT F1 Y (by k_dflt k_is) (by boot_fast) (by decide +kernel) ?_
  refine args_cons ?_
  refine callT F1 Y (by k_dflt k_is) (by boot_fast) (by decide +kernel) ?_
  refine args_cons ?_
  refine wpAny_BinOp ?_
  walk_at "nm"
  refine cI ?_
  intro _ _
  refine fdivI (by decide) (by decide) ?_
  intro _ _
  rw [show ((vs.length : Nat) : Int).fdiv 2 = ((vs.length / 2 : Nat) : Int) by rw [Int.fdiv_eq_ediv_of_nonneg _ (by decide)]; simp]
  refine args_nil ?_
  refine rangeL F1 N1 ?_
  intro r h2 _ _ _ _ hr F2 N2
  refine args_nil ?_
  refine reversed_range hr (by omega) F2 N2 ?_
  intro it h3 F3 N3 hne
  refine iterR N3 ?_
  refine forL (n₀ := vs.length / 2) (fun k m news => ∃ (ws : List Value), news = [(it, rangeIt ((k : Int) - 1) k (-1)), (l, listOf ws.toArray n)] ∧ ws.length = vs.length ∧ k ≤ vs.length / 2 ∧ IsStrs ws ∧ m "x" = some (.ref l) ∧ heapifyV vlt k ws = heapifyV vlt (vs.length / 2) vs)
    (fun m news => ∃ (ws : List Value), news = [(l, listOf ws.toArray n)] ∧ ws = heapifyV vlt (vs.length / 2) vs) F3 N3 ⟨vs, rfl, rfl, Nat.le_refl _, hstr, by walk_at "lk", rfl⟩ ?_ ?_
  · rintro k m news h tk F N ⟨ws, rfl, hwl, hk, hws, m1, hfin⟩
    have hil : it ≠ l := news_ne N (.head _) (.tail _ (.head _)) (by simp [PySem.W.listOf])
    cases k with
    | zero =>
      refine nextR0 hh F N (by simp [hil.symm]) (by decide) ?_
      intro h' F' N'
      exact At.mk F' N' ⟨ws, rfl, hfin⟩
    | succ k =>
      refine nextR F N (by simp [hil.symm]) (by omega) ?_
      intro h4 _ t4 F4 N4
      refine letGo_name ?_
      refine wpAny_assign_Name ?_
      rw [show ((k + 1 : Nat) : Int) - 1 = ((k : Nat) : Int) by omega] at N4 ⊢
      refine stL F4 N4 ?_
      intro h5 _ F5 N5
      refine wpAny_execs_cons ?_
      refine wpAny_Expr ?_
      refine callG F5 Y (by k_dflt k_is) (by k_dflt k_is) ?_
      refine args_cons ?_
      walk_at "nm"
      refine args_cons ?_
      walk_at "nm"
      refine args_nil ?_
      refine ⟨Y.X.keeps F5.keep, ?_⟩
      refine siftup_c w mg mb g _ _ _ _ _ _ l ws n k _ _ _ ?_ ⟨fun b o e _ => F5.keep b o e, Nat.le_trans F5.above (Nat.le_of_lt F5.ns.lt)⟩ (N5 _ (.tail _ (.head _))).1 hgl' (by omega) (by omega) hws ?_ Y
      · simp only [depth_deeper]; omega
      · intro h6 tk6 k6 e6
        have F6 := fr_back F5 k6 (by simp [hll]) (by simp [hgl'])
        have N6 : News g L h6 [(it, rangeIt ((k : Int) + -1) (k : Int) (-1)), (l, listOf (siftup vlt ws k).toArray n)] := by
          intro q hq
          rcases List.mem_cons.mp hq with rfl | hq
          · exact ⟨k6.1 _ _ (N5 _ (.head _)).1 (by simp [hil]), (N5 _ (.head _)).2⟩
          · rw [List.mem_singleton.mp hq]; exact ⟨e6, (N5 _ (.tail _ (.head _))).2⟩
        refine wpAny_execs_nil ?_
        refine At.mk F6 N6 ⟨k, Nat.lt_succ_self _, siftup vlt ws k, ?_, by rw [siftup_length]; exact hwl, by omega, siftup_strs hws (by omega), by walk_at "lk", hfin⟩
        rw [show (k : Int) + -1 = (k : Int) - 1 by omega]
  · rintro h3 tk3 m news F N ⟨ws, rfl, hfin⟩
    refine wpAny_execs_nil ?_
    rw [hfin] at N
    exact hQ _ _ (kept_end hgs hgz F) (N _ (.head _)).1

/-- heappop_max of a list that is not empty -/
theorem heappop_max_c (w : World) (mg mb : Str → Option Value) (G : Heap) (A : Around) (hp : Heap) (gs : Array GenState) (d : Drawn) (tk : Nat) (os : OsState) (l : Addr) (vs : List Value) (y : Value) (n : Nat)
   (Q E : Value → Shared → Prop)
   (hA : A.depth + 30 < recursionLimit) (hG : Kept [] G hp)
   (hl : hp.get? l = some (listOf (vs ++ [y]).toArray n)) (hgl : G.get? l = none) (hlen : vs.length < 1000) (hstr : IsStrs (vs ++ [y]))
   (hQ : ∀ h' tk', Kept [l] hp h' → h'.get? l = some (listOf (hrest vgt vs y).toArray (n + 1)) → Q (htop vs y) ⟨h', gs, d, tk', os⟩) :
   (Gd (hd.heap_1 w.params) vw (looseW vw lo) mg mb G) → 
   wpAny (model PySem.Challenge.rw_il0096_01.row.prog w) A (call (.ref 207) [.ref l]) Q E ⟨hp, gs, d, tk, os⟩ := by
  k_fill
  intro X
  refine' enter (news := [(l, listOf (vs ++ [y]).toArray n)]) (binds := [("heap", .ref l)]) X hG [l] (by simp [hgl]) (by simp [hl]) ?ho ?hcd ?hroom ?hbind ?hloc ?_ ?h1 ?h2 ?h3 ?h4
  case ho => k_dflt k_is
  case hcd => k_dflt k_is
  case hroom => first | omega | (show aD < _; omega)
  case hbind => first | exact BindsTo.of_eq rfl | exact kp_binds (X.keeps hG).X (fun _ => rfl)
  case hloc => exact locs rfl
  case h1 => rfl
  case h2 => rfl
  case h3 => rfl
  case h4 => decide
  intro g L h₁ Y hgs hgz F N hL
  simp only [List.reverse_cons, List.reverse_nil, List.nil_append, List.cons_append, updL] at F
  have hll : L ≠ l := fun q => (N _ (.head _)).2.1 q.symm
  have hgl' : g.get? l = none := (N _ (.head _)).2.2
  refine wpAny_execs_cons ?_
  refine wpAny_Assign_Name ?_
  refine MethodCall_ ?_
  walk_at "nm"
  refine methL (N _ (.head _)).1 PySem.F.slot_list_pop PySem.F.type_list_pop ?_
  refine callWith_method0 ?_
  refine popL F N (by k_upd) (by omega) ?_
  intro h1 F1 N1
  refine stL F1 N1 ?_
  intro h2 _ F2 N2
  refine wpAny_execs_cons ?_
  refine wpAny_If ?_
  refine isTrue_plain ?_
  walk_at "nm"
  refine truthyL (N2 _ (.head _)).1 (by omega) ?_
  intro _
  cases vs with
  | nil =>
    simp only [List.isEmpty_nil, Bool.not_true, Bool.false_eq_true, if_false]
    refine wpAny_execs_nil ?_
    refine wpAny_execs_cons ?_
    refine wpAny_Return_some ?_
    walk_at "nm"
    exact hQ _ _ (kept_end hgs hgz F2) (N2 _ (.head _)).1
  | cons v vs =>
    simp only [List.isEmpty_cons, Bool.not_false, if_true]
    refine wpAny_execs_cons ?_
    refine wpAny_Assign_Name ?_
    refine Subscript_ ?_
    walk_at "nm"
    refine cI ?_
    intro _ _
    refine item_any (k := 0) (N2 _ (.head _)).1 rfl (by simp) (by decide) ?_
    refine stL F2 N2 ?_
    intro h3 _ F3 N3
    refine wpAny_execs_cons ?_
    refine wpAny_Assign_Subscript ?_
    walk_at "nm"
    walk_at "nm"
    refine cI ?_
    intro _ _
    refine setItemL (k := 0) F3 N3 (by k_upd) rfl (by simp) (by decide) ?_
    intro h4 F4 N4
    refine wpAny_execs_cons ?_
    refine wpAny_Expr ?_
    refine callG F4 Y (by k_dflt k_is) (by k_dflt k_is) ?_
    refine args_cons ?_
    walk_at "nm"
    refine args_cons ?_
    refine cI ?_
    intro _ _
    refine args_nil ?_
    refine ⟨Y.X.keeps F4.keep, ?_⟩
    have hs' : IsStrs (List.set (v :: vs) 0 y) := by
      refine IsStrs.set (fun u hu => hstr u (List.mem_append_left _ hu)) (hstr y (by simp))
    refine siftup_max_c w mg mb g _ _ _ _ _ _ l (List.set (v :: vs) 0 y) (n + 1) 0 _ _ _ ?_ ⟨fun b o e _ => F4.keep b o e, Nat.le_trans F4.above (Nat.le_of_lt F4.ns.lt)⟩ (N4 _ (.head _)).1 hgl' (by simp) (by simp at hlen ⊢; omega) hs' ?_ Y
    · simp only [depth_deeper]; omega
    · intro h6 tk6 k6 e6
      have F6 := fr_back F4 k6 (by simp [hll]) (by simp [hgl'])
      refine wpAny_execs_cons ?_
      refine wpAny_Return_some ?_
      walk_at "nm"
      exact hQ _ _ (kept_end hgs hgz F6) e6

/-- heapify -/
theorem heapify_max_c (w : World) (mg mb : Str → Option Value) (G : Heap) (A : Around) (hp : Heap) (gs : Array GenState) (d : Drawn) (tk : Nat) (os : OsState) (l : Addr) (vs : List Value) (n : Nat)
   (Q E : Value → Shared → Prop)
   (hA : A.depth + 30 < recursionLimit) (hh : A.handled = none) (hG : Kept [] G hp)
   (hl : hp.get? l = some (listOf vs.toArray n)) (hgl : G.get? l = none) (hlen : vs.length ≤ 1000) (hstr : IsStrs vs)
   (hQ : ∀ h' tk', Kept [l] hp h' → h'.get? l = some (listOf (heapifyV vgt (vs.length / 2) vs).toArray n) → Q .none ⟨h', gs, d, tk', os⟩) :
   (Gd (hd.heap_1 w.params) vw (looseW vw lo) mg mb G) → 
   wpAny (model PySem.Challenge.rw_il0096_01.row.prog w) A (call (.ref 214) [.ref l]) Q E ⟨hp, gs, d, tk, os⟩ := by
  k_fill
  intro X
  refine' enter (news := [(l, listOf vs.toArray n)]) (binds := [("x", .ref l)]) X hG [l] (by simp [hgl]) (by simp [hl]) ?ho ?hcd ?hroom ?hbind ?hloc ?_ ?h1 ?h2 ?h3 ?h4
  case ho => k_dflt k_is
  case hcd => k_dflt k_is
  case hroom => first | omega | (show aD < _; omega)
  case hbind => first | exact BindsTo.of_eq rfl | exact kp_binds (X.keeps hG).X (fun _ => rfl)
  case hloc => exact locs rfl
  case h1 => rfl
  case h2 => rfl
  case h3 => rfl
  case h4 => decide
  intro g L h₁ Y hgs hgz F N hL
  simp only [List.reverse_cons, List.reverse_nil, List.nil_append, List.cons_append, updL] at F
  have hll : L ≠ l := fun q => (N _ (.head _)).2.1 q.symm
  have hgl' : g.get? l = none := (N _ (.head _)).2.2
  refine wpAny_execs_cons ?_
  refine wpAny_Assign_Name ?_
  refine callB F Y (by k_dflt k_is) (by boot_fast) (by decide +kernel) ?_
  refine args_cons ?_
  walk_at "nm"
  refine args_nil ?_
  refine lenL (N _ (.head _)).1 (by omega) ?_
  intro _ _
  refine stL F N ?_
  intro h1 _ F1 N1
  refine wpAny_execs_cons ?_
  refine wpAny_For ?_
  refine callT F1 Y (by k_dflt k_is) (by boot_fast) (by decide +kernel) ?_
  refine args_cons ?_
  refine callT F1 Y (by k_dflt k_is) (by boot_fast) (by decide +kernel) ?_
  refine args_cons ?_
  refine wpAny_BinOp ?_
  walk_at "nm"
  refine cI ?_
  intro _ _
  refine fdivI (by decide) (by decide) ?_
  intro _ _
  rw [show ((vs.length : Nat) : Int).fdiv 2 = ((vs.length / 2 : Nat) : Int) by rw [Int.fdiv_eq_ediv_of_nonneg _ (by decide)]; simp]
  refine args_nil ?_
  refine rangeL F1 N1 ?_
  intro r h2 _ _ _ _ hr F2 N2
  refine args_nil ?_
  refine reversed_range hr (by omega) F2 N2 ?_
  intro it h3 F3 N3 hne
  refine iterR N3 ?_
  refine forL (n₀ := vs.length / 2) (fun k m news => ∃ (ws : List Value), news = [(it, rangeIt ((k : Int) - 1) k (-1)), (l, listOf ws.toArray n)] ∧ ws.length = vs.length ∧ k ≤ vs.length / 2 ∧ IsStrs ws ∧ m "x" = some (.ref l) ∧ heapifyV vgt k ws = heapifyV vgt (vs.length / 2) vs)
    (fun m news => ∃ (ws : List Value), news = [(l, listOf ws.toArray n)] ∧ ws = heapifyV vgt (vs.length / 2) vs) F3 N3 ⟨vs, rfl, rfl, Nat.le_refl _, hstr, by walk_at "lk", rfl⟩ ?_ ?_
  · rintro k m news h tk F N ⟨ws, rfl, hwl, hk, hws, m1, hfin⟩
    have hil : it ≠ l := news_ne N (.head _) (.tail _ (.head _)) (by simp [PySem.W.listOf])
    cases k with
    | zero =>
      refine nextR0 hh F N (by simp [hil.symm]) (by decide) ?_
      intro h' F' N'
      exact At.mk F' N' ⟨ws, rfl, hfin⟩
    | succ k =>
      refine nextR F N (by simp [hil.symm]) (by omega) ?_
      intro h4 _ t4 F4 N4
      refine letGo_name ?_
      refine wpAny_assign_Name ?_
      rw [show ((k + 1 : Nat) : Int) - 1 = ((k : Nat) : Int) by omega] at N4 ⊢
      refine stL F4 N4 ?_
      intro h5 _ F5 N5
      refine wpAny_execs_cons ?_
      refine wpAny_Expr ?_
      refine callG F5 Y (by k_dflt k_is) (by k_dflt k_is) ?_
      refine args_cons ?_
      walk_at "nm"
      refine args_cons ?_
      walk_at "nm"
      refine args_nil ?_
      refine ⟨Y.X.keeps F5.keep, ?_⟩
      refine siftup_max_c w mg mb g _ _ _ _ _ _ l ws n k _ _ _ ?_ ⟨fun b o e _ => F5.keep b o e, Nat.le_trans F5.above (Nat.le_of_lt F5.ns.lt)⟩ (N5 _ (.tail _ (.head _))).1 hgl' (by omega) (by omega) hws ?_ Y
      · simp only [depth_deeper]; omega
      · intro h6 tk6 k6 e6
        have F6 := fr_back F5 k6 (by simp [hll]) (by simp [hgl'])
        have N6 : News g L h6 [(it, rangeIt ((k : Int) + -1) (k : Int) (-1)), (l, listOf (siftup vgt ws k).toArray n)] := by
          intro q hq
          rcases List.mem_cons.mp hq with rfl | hq
          · exact ⟨k6.1 _ _ (N5 _ (.head _)).1 (by simp [hil]), (N5 _ (.head _)).2⟩
          · rw [List.mem_singleton.mp hq]; exact ⟨e6, (N5 _ (.tail _ (.head _))).2⟩
        refine wpAny_execs_nil ?_
        refine At.mk F6 N6 ⟨k, Nat.lt_succ_self _, siftup vgt ws k, ?_, by rw [siftup_length]; exact hwl, by omega, siftup_strs hws (by omega), by walk_at "lk", hfin⟩
        rw [show (k : Int) + -1 = (k : Int) - 1 by omega]
  · rintro h3 tk3 m news F N ⟨ws, rfl, hfin⟩
    refine wpAny_execs_nil ?_
    rw [hfin] at N
    exact hQ _ _ (kept_end hgs hgz F) (N _ (.head _)).1
end

section
set_option maxRecDepth 100000
set_option maxHeartbeats 4000000
open PySem PySem.Builtin.Re
theorem plainAttrs_pat : PlainAttrs "re.Pattern" :=
  ⟨⟨"object.__getattribute__", by rw [typeLookup_type, builtinLookup_eq_fast]; kernel_rfl, by decide +kernel⟩, by rw [typeLookup_type, builtinLookup_eq_fast]; kernel_rfl⟩
theorem slot_search : Slot "re.Pattern" "search" "re.Pattern.search" :=
  .of (owner := "re.Pattern") (n := "search") (by rw [typeLookup_type, builtinLookup_eq_fast]; kernel_rfl) (by decide +kernel) (by decide +kernel) (by decide +kernel)
    (by first | exact .inl (by decide +kernel) | exact .inr (by decide +kernel)) (by rw [isSubtype_type]; kernel_rfl)
theorem type_search : typeOf (.builtin "re.Pattern.search") = pure (.type "method_descriptor") := by show builtinType _ = _; rw [builtinType_eq_fast]; kernel_rfl
theorem entry_search : entryFor table "re.Pattern.search" = some Builtin.«re.Pattern.search» := entryFor_of_tree (by kernel_rfl)
theorem args_search (a b : Value) : argsOk "re.Pattern.search" ⟨[a, b], []⟩ := by
  unfold argsOk
  kernel_rfl
noncomputable def driveN : Nat → Sre.M → Option Sre.M
  | 0, _ => none
  | k + 1, m => match (m.runFor reTurnSteps).outcome.isSome with | true => some (m.runFor reTurnSteps) | false => driveN k (m.runFor reTurnSteps)
section
variable {M : Model} {A : Around} {E : Value → Shared → Prop} {s : Shared}
theorem drive {Q : Sre.M → Shared → Prop} {m' : Sre.M} (hq : Q m' s) : ∀ (k turns : Nat) (m : Sre.M), k ≤ turns → driveN k m = some m' → wpAny M A (reDrive turns m) Q E s
  | 0, _, _, _, h => by simp [driveN] at h
  | k + 1, 0, _, hk, _ => by omega
  | k + 1, t + 1, m, hk, h => by
    unfold driveN at h
    unfold reDrive
    dsimp only
    cases ho : (m.runFor reTurnSteps).outcome.isSome with
    | true =>
      rw [ho] at h
      simp only [if_true]
      obtain rfl := Option.some.inj h
      exact wpAny_pure hq
    | false =>
      rw [ho] at h
      simp only [Bool.false_eq_true, if_false]
      exact wpAny_bind (wpAny_rule (drive hq k t _ (by omega) h))
noncomputable def noHit (code text : Array Nat) : Bool := match driveN 1000 (Sre.forSearch code text 0 0 text.size false) with
  | some m => (match m.outcome with | some .failed => true | _ => false)
  | none => false
theorem rules_in {Q : PUnit → Shared → Prop} {m : Sre.M} (hq : Q ⟨⟩ s) : ∀ l : List Nat, wpAny M A (forIn l PUnit.unit fun i _ => if m.seen.has i = true then (do rule (Sre.names.getD i ""); pure (ForInStep.yield PUnit.unit)) else pure (ForInStep.yield PUnit.unit)) Q E s
  | [] => wpAny_pure hq
  | i :: l => by
    rw [List.forIn_cons]
    split
    · exact wpAny_bind (wpAny_bind (wpAny_rule (wpAny_pure (rules_in hq l))))
    · exact wpAny_bind (wpAny_pure (rules_in hq l))
theorem runToEnd {Q : Option Sre.M → Shared → Prop} {code text : Array Nat} (hn : noHit code text = true) (hq : Q none s) :
    wpAny M A (reRunToEnd (Sre.forSearch code text 0 0 text.size false)) Q E s := by
  unfold noHit at hn
  cases hd : driveN 1000 (Sre.forSearch code text 0 0 text.size false) with
  | none => rw [hd] at hn; cases hn
  | some m =>
    rw [hd] at hn
    unfold reRunToEnd
    refine wpAny_bind (drive ?_ 1000 (2 ^ 64) _ (by decide) hd)
    refine wpAny_bind ?_
    refine rules_in ?_ _
    dsimp only at hn ⊢
    cases ho : m.outcome with
    | none => rw [ho] at hn; cases hn
    | some o =>
      rw [ho] at hn
      cases o with
      | failed => exact wpAny_pure hq
      | matched => cases hn
      | stuck _ => cases hn
end

section
variable {prog : Program} {w : World} {A : Around} {E : Value → Shared → Prop} {s : Shared}
theorem target {a c : Addr} {p1 p2 : Value} {vals : Array Value} {n : Nat} {x : Str} {t : Tok} {z : Option Addr} {sl sl' : Array (Option Value)} {cl : Value} {Q : ReTarget → Shared → Prop}
    (hp : s.heap.get? a = some { cls := .type "re.Pattern", dict := z, data := .fields #[p1, p2, .int 0 0, .none, .none, .ref c, .int 0 0], slots := sl })
    (hc : s.heap.get? c = some { cls := cl, dict := z, data := .seq vals n, slots := sl' }) (hx : x.cps.size < 2 ^ 62)
    (hq : Q { pattern := .ref a, string := .str x t, code := (vals.map reRawOf).map (·.toNat), text := x.cps, kind := 0, groups := 0, pos := 0, lim := x.cps.size } s) :
    wpAny (model prog w) A (reTarget "re.Pattern.search" "search" ⟨[.ref a, .str x t], []⟩) Q E s := by
  unfold reTarget
  dsimp only
  refine wpAny_bind (wpAny_of_eq (a := [some (.str x t), none, none]) rfl ?_)
  dsimp only
  refine wpAny_bind (wpAny_of_eq (a := (0 : Int)) rfl ?_)
  refine wpAny_bind (wpAny_of_eq (a := (2 ^ 63 - 1 : Int)) rfl ?_)
  refine wpAny_bind (wpAny_fieldsOf hp rfl ?_)
  refine wpAny_bind (wpAny_of_eq (a := (x.cps, 0)) rfl ?_)
  dsimp only
  refine wpAny_bind (wpAny_of_eq (a := ()) rfl ?_)
  refine wpAny_bind ?_
  unfold reRawItems
  refine wpAny_bind (wpAny_seqItems hc rfl ?_)
  refine wpAny_pure ?_
  refine wpAny_pure ?_
  have e : (2 ^ 63 - 1 : Int).toNat = 2 ^ 63 - 1 := by decide
  rw [e, show min (2 ^ 63 - 1) x.cps.size = x.cps.size by omega]
  simpa [reRawNat] using hq
theorem search_none {a c : Addr} {p1 p2 : Value} {vals : Array Value} {n : Nat} {x : Str} {t : Tok} {z : Option Addr} {sl sl' : Array (Option Value)} {cl : Value} {Q : Value → Shared → Prop}
    (hp : s.heap.get? a = some { cls := .type "re.Pattern", dict := z, data := .fields #[p1, p2, .int 0 0, .none, .none, .ref c, .int 0 0], slots := sl })
    (hc : s.heap.get? c = some { cls := cl, dict := z, data := .seq vals n, slots := sl' }) (hx : x.cps.size < 2 ^ 62)
    (hn : noHit ((vals.map reRawOf).map (·.toNat)) x.cps = true) (hq : Q .none s) :
    wpAny (model prog w) A (call (.builtin "re.Pattern.search") [.ref a, .str x t]) Q E s := by
  refine wpAny_call_entry slot_search ⟨_, hp, rfl⟩ entry_search ?_ (args_search _ _)
  unfold Builtin.«re.Pattern.search»
  refine wpAny_bind (target hp hc hx ?_)
  unfold reAnswer
  refine wpAny_bind (runToEnd hn ?_)
  exact wpAny_pure ⟨_, rfl, hq⟩
end
end

section
set_option maxRecDepth 100000
set_option maxHeartbeats 4000000
open PySem PySem.W PyProof.Rows PySem.Calls
noncomputable def code1 : Array Nat := #[14, 10, 4, 1, 1, 22, 0, 31, 16, 127, 0, 13, 7, 22, 0, 31, 16, 127, 0, 1]
noncomputable def code2 : Array Nat := #[14, 14, 4, 1, 1, 9, 4294966783, 0, 0, 2147483648, 0, 0, 0, 0, 0, 13, 11, 9, 4294966783, 0, 0, 2147483648, 0, 0, 0, 0, 0, 1]
/-- no character that a header bars -/
noncomputable def clean (x : Str) : Bool := noHit code1 x.cps && noHit code2 x.cps
section
variable {prog : Program} {w : World} {A : Around} {K : Frag} {g h : Heap} {gs : Array GenState} {d : Drawn} {tk : Nat} {os : OsState} {L : Addr} {m : Str → Option Value} {E : Value → Shared → Prop}
theorem pat_method {a : Addr} {pl : Sem Bool} {vs : Array Value} {sl : Array (Option Value)} {Q : Value × List Value → Shared → Prop} (KX : K.In g) (F : Fr g L h m)
    (hp : K.lookup a = some { cls := .type "re.Pattern", dict := none, data := .fields vs, slots := sl }) (hq : Q (.builtin "re.Pattern.search", [.ref a]) ⟨h, gs, d, tk, os⟩) :
    wpAny (model prog w) A (getMethod (.ref a) "search" pl) Q E ⟨h, gs, d, tk, os⟩ :=
  have z := (KX.keeps F.keep) _ _ hp
  getMethod_builtin (s := ⟨h, gs, d, tk, os⟩) ⟨_, z, rfl⟩ plainAttrs_pat slot_search type_search (fun a' e' => by cases e'; exact ⟨_, z, rfl⟩) hq
theorem pat_search {a c : Addr} {p1 p2 : Value} {vals : Array Value} {n : Nat} {x : Str} {t : Tok} {sl sl' : Array (Option Value)} {cl : Value} {Q : Value → Shared → Prop} (KX : K.In g) (F : Fr g L h m)
    (hp : K.lookup a = some { cls := .type "re.Pattern", dict := none, data := .fields #[p1, p2, .int 0 0, .none, .none, .ref c, .int 0 0], slots := sl })
    (hc : K.lookup c = some { cls := cl, dict := none, data := .seq vals n, slots := sl' }) (hx : x.cps.size < 1000)
    {cd : Array Nat} (hv : (vals.map Builtin.Re.reRawOf).map (·.toNat) = cd) (hn : noHit cd x.cps = true) (hq : Q .none ⟨h, gs, d, tk, os⟩) :
    wpAny (model prog w) A (call (.builtin "re.Pattern.search") [.ref a, .str x t]) Q E ⟨h, gs, d, tk, os⟩ :=
  have X := KX.keeps F.keep
  search_none (s := ⟨h, gs, d, tk, os⟩) (X _ _ hp) (X _ _ hc) (by omega) (hv ▸ hn) hq
end
end

section
set_option maxRecDepth 100000
set_option maxHeartbeats 4000000
open PySem PySem.W PyProof.Rows PySem.Calls
theorem convert_c (w : World) (mg mb : Str → Option Value) (G : Heap) (A : Around) (hp : Heap) (gs : Array GenState) (d : Drawn) (tk : Nat) (os : OsState) (me : Value) (x : Str) (t : Tok) (b : Bool)
   (Q E : Value → Shared → Prop)
   (hA : A.depth + 10 < recursionLimit) (hG : Kept [] G hp) (hx : x.cps.size < 1000) (hc : clean x = true)
   (hQ : ∀ h' tk', Kept [] hp h' → Q (.str x t) ⟨h', gs, d, tk', os⟩) :
   (Gd (hd.heap_1 w.params) vw (looseW vw lo) mg mb G) → 
   wpAny (model PySem.Challenge.rw_il0096_01.row.prog w) A (call (.ref 83) [me, .str x t] [("name", .bool b)]) Q E ⟨hp, gs, d, tk, os⟩ := by
  k_fill
  intro X
  refine' enter (news := []) (binds := [("self", me), ("value", .str x t), ("name", .bool b)]) X hG [] (by simp) (by simp) ?ho ?hcd ?hroom ?hbind ?hloc ?_ ?h1 ?h2 ?h3 ?h4
  case ho => k_dflt k_is
  case hcd => k_dflt k_is
  case hroom => first | omega | (show aD < _; omega)
  case hbind => first | exact BindsTo.of_eq rfl | exact kp_binds (X.keeps hG).X (fun _ => rfl)
  case hloc => exact locs rfl
  case h1 => rfl
  case h2 => rfl
  case h3 => rfl
  case h4 => decide
  intro g L h₁ Y hgs hgz F N hL
  simp only [List.reverse_cons, List.reverse_nil, List.nil_append, List.cons_append, updL] at F
  have KX := Y.X
  have TT := Y.T
  have c1 := (Bool.and_eq_true_iff.mp hc).1
  have c2 := (Bool.and_eq_true_iff.mp hc).2
  k_steps
  all_goals (
    refine pat_method KX (by assumption) (by k_dflt k_is) ?_
    refine callWith_method1 ?_
    refine args_cons ?_
    refine ldL (by assumption) (by k_dflt rfl) ?_
    refine args_nil ?_
    first
    | refine pat_search (cd := code1) KX (by assumption) (by k_dflt k_is) (by k_dflt k_is) hx (by decide +kernel) c1 ?_
    | refine pat_search (cd := code2) KX (by assumption) (by k_dflt k_is) (by k_dflt k_is) hx (by decide +kernel) c2 ?_
    k_steps
    exact hQ _ _ (kept_end hgs hgz (by assumption)))
end

section
set_option maxRecDepth 100000
set_option maxHeartbeats 4000000
open PySem PySem.W PyProof.Rows PySem.Calls
noncomputable def unS : Value → Str
  | .str x _ => x
  | _ => ⟨#[]⟩
structure SL (ss : List Str) (vs : List Value) : Prop where
  isS : IsStrs vs
  eqS : vs.map unS = ss
theorem SL.nil : SL [] [] := ⟨(fun _ h => nomatch h), rfl⟩
theorem SL.cons {s : Str} {t : Tok} {ss : List Str} {vs : List Value} (h : SL ss vs) : SL (s :: ss) (.str s t :: vs) :=
  ⟨fun v hv => by rcases List.mem_cons.mp hv with rfl | hv; exact ⟨s, t, rfl⟩; exact h.isS v hv, by rw [List.map_cons, h.eqS]; rfl⟩
theorem SL.length {ss : List Str} {vs : List Value} (h : SL ss vs) : vs.length = ss.length := by rw [← h.eqS, List.length_map]
theorem SL.append {ss ss' : List Str} {vs vs' : List Value} (h : SL ss vs) (h' : SL ss' vs') : SL (ss ++ ss') (vs ++ vs') :=
  ⟨fun v hv => (List.mem_append.mp hv).elim (h.isS v) (h'.isS v), by rw [List.map_append, h.eqS, h'.eqS]⟩
theorem SL.get {ss : List Str} {vs : List Value} (h : SL ss vs) {k : Nat} (hk : k < ss.length) : ∃ t, vs.getD k .none = .str (ss.getD k ⟨#[]⟩) t := by
  obtain ⟨x, t, e⟩ := h.isS.getD (h.length.symm ▸ hk)
  refine ⟨t, ?_⟩
  rw [e]
  have hk' : k < vs.length := h.length.symm ▸ hk
  have : ss.getD k ⟨#[]⟩ = unS (vs.getD k .none) := by
    rw [← h.eqS, List.getD_eq_getElem?_getD, List.getD_eq_getElem?_getD, List.getElem?_map, List.getElem?_eq_getElem hk']
    rfl
  rw [this, e]; rfl
/-- the pages -/
noncomputable def pagesS : List Str := ["/", "/a", "/a/b", "/c", "/c/a"]
noncomputable def pg (i : Nat) : Str := pagesS.getD i ⟨#[]⟩
theorem Kept.ofFr {g h : Heap} {L : Addr} {m : Str → Option Value} (F : Fr g L h m) : Kept [] g h := ⟨fun b o e _ => F.keep b o e, Nat.le_trans F.above (Nat.le_of_lt F.ns.lt)⟩
theorem News.back {g h h' : Heap} {L a : Addr} {m : Str → Option Value} {o : Obj} {news : List (Addr × Obj)} (F : Fr g L h m) (N : News g L h news) (k : Kept [] h h') (e : h'.get? a = some o) (hn : h.get? a = none) : News g L h' ((a, o) :: news) := by
  refine News.cons (news_back0 N k) e ?_ ?_
  · rintro rfl
    obtain ⟨oL, _, _, q, _⟩ := F.ns
    rw [hn] at q; cases q
  · cases hg : g.get? a with
    | none => rfl
    | some o' => rw [F.keep a o' hg] at hn; cases hn
theorem News.here {g h : Heap} {L a : Addr} {o : Obj} {news : List (Addr × Obj)} (N : News g L h ((a, o) :: news)) : h.get? a = some o := (N _ (.head _)).1
theorem News.fresh {g h hp : Heap} {L a : Addr} {o : Obj} {news : List (Addr × Obj)} (N : News g L h ((a, o) :: news)) (hgs : ∀ b o, hp.get? b = some o → b ∉ ([] : List Addr) → g.get? b = some o) : hp.get? a = none := by
  cases e : hp.get? a with
  | none => rfl
  | some o' =>
    have z := hgs a o' e (by simp)
    rw [(N _ (.head _)).2.2] at z
    cases z
end

section
set_option maxRecDepth 100000
set_option maxHeartbeats 4000000
open PySem PyProof.Rows
theorem kind_isn : builtinKind "issubclass.nested" = none := by decide +kernel
theorem plain_isn : plainId "issubclass.nested" = true := by decide +kernel
theorem args_isn (a b c : Value) : argsOk "issubclass.nested" ⟨[a, b, c], []⟩ := by unfold argsOk; kernel_rfl
theorem sub_ss : isSubtype (.type "str") (.type "str") = pure true := by rw [isSubtype_type]; kernel_rfl
theorem ty_s : typeOf (.type "str") = pure (.type "type") := by kernel_rfl
section
variable {prog : Program} {w : World} {A : Around} {E : Value → Shared → Prop} {s : Shared}
theorem isn_ss {dep : Int} {tk : Tok} {Q : Fin → Shared → Prop} (hq : Q (.done (.ret (.bool true))) s) : wpAny (model prog w) A (Builtin.«issubclass.nested» ⟨[.type "str", .type "str", .int dep tk], []⟩) Q E s := by
  have h1 := sub_ss
  have h2 := ty_s
  repeat (any_goals (first | assumption | (rw [h1]) | (rw [h2]) | wp_step))
theorem isn_call {i : Int} {Q : Value → Shared → Prop} (hq : Q (.bool true) s) : wpAny (model prog w) A (call (.builtin "issubclass.nested") [.type "str", .type "str", rawInt i]) Q E s :=
  call_function_meets (S := fun _ R s' => R (.ok (.ret (.bool true))) s') kind_isn plain_isn F.entry_issubclass_nested (args_isn _ _ _) (fun _ _ _ _ _ hs => isn_ss hs) hq
theorem isn_tuple {tp : Addr} {tk : Tok} {Q : Fin → Shared → Prop} (htp : s.heap.get? tp = some { cls := .type "tuple", data := .seq #[.type "str", .type "bytes"] })
    (hq : Q (.done (.ret (.bool true))) s) : wpAny (model prog w) A (Builtin.«issubclass.nested» ⟨[.type "str", .ref tp, .int 0 tk], []⟩) Q E s := by
  obtain ⟨h, g, d, t, os⟩ := s
  have hT2 : (⟨h, g, d, t, os⟩ : Shared).TypeIs (.ref tp) "tuple" := ⟨_, htp, rfl⟩
  have f1 := F.isi_sub_tuple
  obtain ⟨arr, ha⟩ : ∃ arr : Array Value, arr = #[.type "str", .type "bytes"] := ⟨_, rfl⟩
  rw [← ha] at htp
  repeat (any_goals (first | assumption | wp_step))
  refine wpAny_arrayLoop ?_
  rw [ha]
  simp only [Option.getD_some]
  rw [List.forIn_cons]
  refine wpAny_bind (wpAny_bind (isn_call ?_))
  refine wpAny_bind (m := truthy (.bool true)) (wpAny_pure ?_)
  exact wpAny_bind (wpAny_pure (wpAny_pure (wpAny_pure (wpAny_pure hq))))
theorem issub_tuple {tp : Addr} {Q : Value → Shared → Prop} (htp : s.heap.get? tp = some { cls := .type "tuple", data := .seq #[.type "str", .type "bytes"] })
    (hq : Q (.bool true) s) : wpAny (model prog w) A (call (.builtin "issubclass") [.type "str", .ref tp]) Q E s :=
  call_issubclass (S := fun _ R s' => s'.heap.get? tp = some { cls := .type "tuple", data := .seq #[.type "str", .type "bytes"] } ∧ R (.ok (.ret (.bool true))) s')
    (fun _ _ _ _ _ hs => issubclass_outer (isn_tuple hs.1 hs.2)) ⟨htp, hq⟩
end
end

section
set_option maxRecDepth 100000
set_option maxHeartbeats 4000000
open PySem PySem.W PyProof.Rows PySem.Calls
theorem pages_c (w : World) (mg mb : Str → Option Value) (G : Heap) (A : Around) (hp : Heap) (gs : Array GenState) (d : Drawn) (tk : Nat) (os : OsState)
   (Q E : Value → Shared → Prop)
   (hA : A.depth + 10 < recursionLimit) (hG : Kept [] G hp)
   (hQ : ∀ h' tk' l vs n, Kept [] hp h' → h'.get? l = some (listOf vs.toArray n) → hp.get? l = none → SL pagesS vs → Q (.ref l) ⟨h', gs, d, tk', os⟩) :
   (Gd (hd.heap_1 w.params) vw (looseW vw lo) mg mb G) → 
   wpAny (model PySem.Challenge.rw_il0096_01.row.prog w) A (call (.ref 357) []) Q E ⟨hp, gs, d, tk, os⟩ := by
  k_fill
  intro X
  refine' enter (news := []) (binds := []) X hG [] (by simp) (by simp) ?ho ?hcd ?hroom ?hbind ?hloc ?_ ?h1 ?h2 ?h3 ?h4
  case ho => k_dflt k_is
  case hcd => k_dflt k_is
  case hroom => first | omega | (show aD < _; omega)
  case hbind => first | exact BindsTo.of_eq rfl | exact kp_binds (X.keeps hG).X (fun _ => rfl)
  case hloc => exact locs rfl
  case h1 => rfl
  case h2 => rfl
  case h3 => rfl
  case h4 => decide
  intro g L h₁ Y hgs hgz F N hL
  simp only [List.reverse_cons, List.reverse_nil, List.nil_append, List.cons_append, updL] at F
  have KX := Y.X
  have TT := Y.T
  k_steps
  exact hQ _ _ _ _ _ (kept_end hgs hgz (by assumption)) (News.here (by assumption)) (News.fresh (by assumption) hgs) (.cons (.cons (.cons (.cons (.cons .nil)))))

noncomputable def wayF (page goal : Str) (r : Int) : Str := if r = 1 then goal else Txt.mul "../" (if (page == ("/" : Str)) = true then 0 else Txt.count page "/") ++ Txt.slice goal (some 1) none
theorem way_c (w : World) (mg mb : Str → Option Value) (G : Heap) (A : Around) (hp : Heap) (gs : Array GenState) (d : Drawn) (tk : Nat) (os : OsState) (page goal : Str) (t1 t2 t3 : Tok) (r : Int)
   (Q E : Value → Shared → Prop)
   (hA : A.depth + 10 < recursionLimit) (hG : Kept [] G hp) (hpl : page.length ≤ 100) (hgl : goal.length ≤ 100) (hct : Txt.count page "/" ≤ 4) (hct0 : 0 ≤ Txt.count page "/")
   (hQ : ∀ h' tk' v t, Kept [] hp h' → v = wayF page goal r → Q (.str v t) ⟨h', gs, d, tk', os⟩) :
   (Gd (hd.heap_1 w.params) vw (looseW vw lo) mg mb G) → 
   wpAny (model PySem.Challenge.rw_il0096_01.row.prog w) A (call (.ref 364) [.str page t1, .str goal t2, .int r t3]) Q E ⟨hp, gs, d, tk, os⟩ := by
  k_fill
  intro X
  refine' enter (news := []) (binds := [("page", .str page t1), ("goal", .str goal t2), ("rooted", .int r t3)]) X hG [] (by simp) (by simp) ?ho ?hcd ?hroom ?hbind ?hloc ?_ ?h1 ?h2 ?h3 ?h4
  case ho => k_dflt k_is
  case hcd => k_dflt k_is
  case hroom => first | omega | (show aD < _; omega)
  case hbind => first | exact BindsTo.of_eq rfl | exact kp_binds (X.keeps hG).X (fun _ => rfl)
  case hloc => exact locs rfl
  case h1 => rfl
  case h2 => rfl
  case h3 => rfl
  case h4 => decide
  intro g L h₁ Y hgs hgz F N hL
  simp only [List.reverse_cons, List.reverse_nil, List.nil_append, List.cons_append, updL] at F
  have KX := Y.X
  have TT := Y.T
  k_steps
  all_goals exact hQ _ _ _ _ (kept_end hgs hgz (by assumption)) (by unfold wayF; first | rw [if_pos (by assumption)] | rw [if_neg (by assumption), if_pos (by assumption)] | rw [if_neg (by assumption), if_neg (by simp [*])])
end

section

local macro_rules | `(tactic| walk_at "call builtin:issubclass") => `(tactic| (with_reducible rename News _ _ _ _ => nwL; k_dflt (refine issub_tuple (nwL _ (by first | exact .head _ | exact .tail _ (.head _))).1 ?_)))

section
set_option maxRecDepth 100000
set_option maxHeartbeats 4000000
open PySem PySem.W PyProof.Rows PySem.Calls
theorem fspath_c (w : World) (mg mb : Str → Option Value) (G : Heap) (A : Around) (hp : Heap) (gs : Array GenState) (d : Drawn) (tk : Nat) (os : OsState) (x : Str) (t : Tok)
   (Q E : Value → Shared → Prop)
   (hA : A.depth + 30 < recursionLimit) (hG : Kept [] G hp) (hx : x.length ≤ 100)
   (hQ : ∀ h' tk', Kept [] hp h' → Q (.str x t) ⟨h', gs, d, tk', os⟩) :
   (Gd (hd.heap_1 w.params) vw (looseW vw lo) mg mb G) → 
   wpAny (model PySem.Challenge.rw_il0096_01.row.prog w) A (call (.ref 315) [.str x t]) Q E ⟨hp, gs, d, tk, os⟩ := by
  k_fill
  intro X
  refine' enter (news := []) (binds := [("path", .str x t)]) X hG [] (by simp) (by simp) ?ho ?hcd ?hroom ?hbind ?hloc ?_ ?h1 ?h2 ?h3 ?h4
  case ho => k_dflt k_is
  case hcd => k_dflt k_is
  case hroom => first | omega | (show aD < _; omega)
  case hbind => first | exact BindsTo.of_eq rfl | exact kp_binds (X.keeps hG).X (fun _ => rfl)
  case hloc => exact locs rfl
  case h1 => rfl
  case h2 => rfl
  case h3 => rfl
  case h4 => decide
  intro g L h₁ Y hgs hgz F N hL
  simp only [List.reverse_cons, List.reverse_nil, List.nil_append, List.cons_append, updL] at F
  have KX := Y.X
  have TT := Y.T
  k_steps
  all_goals exact hQ _ _ (kept_end hgs hgz (by assumption))

theorem sep_c (w : World) (mg mb : Str → Option Value) (G : Heap) (A : Around) (hp : Heap) (gs : Array GenState) (d : Drawn) (tk : Nat) (os : OsState) (x : Str) (t : Tok)
   (Q E : Value → Shared → Prop)
   (hA : A.depth + 30 < recursionLimit) (hG : Kept [] G hp) (hx : x.length ≤ 100)
   (hQ : ∀ h' tk' t', Kept [] hp h' → Q (.str "/" t') ⟨h', gs, d, tk', os⟩) :
   (Gd (hd.heap_1 w.params) vw (looseW vw lo) mg mb G) → 
   wpAny (model PySem.Challenge.rw_il0096_01.row.prog w) A (call (.ref 329) [.str x t]) Q E ⟨hp, gs, d, tk, os⟩ := by
  k_fill
  intro X
  refine' enter (news := []) (binds := [("path", .str x t)]) X hG [] (by simp) (by simp) ?ho ?hcd ?hroom ?hbind ?hloc ?_ ?h1 ?h2 ?h3 ?h4
  case ho => k_dflt k_is
  case hcd => k_dflt k_is
  case hroom => first | omega | (show aD < _; omega)
  case hbind => first | exact BindsTo.of_eq rfl | exact kp_binds (X.keeps hG).X (fun _ => rfl)
  case hloc => exact locs rfl
  case h1 => rfl
  case h2 => rfl
  case h3 => rfl
  case h4 => decide
  intro g L h₁ Y hgs hgz F N hL
  simp only [List.reverse_cons, List.reverse_nil, List.nil_append, List.cons_append, updL] at F
  have KX := Y.X
  have TT := Y.T
  k_steps
  all_goals exact hQ _ _ _ (kept_end hgs hgz (by assumption))
end

local macro_rules | `(tactic| walk_at "call ref") => `(tactic| (with_reducible rename Fr _ _ _ _ => F'; with_reducible rename News _ _ _ _ => N'; with_reducible rename Gd _ _ _ _ _ _ => Y'; k_dflt (refine fspath_c _ _ _ _ _ _ _ _ _ _ _ _ _ _ (by first | (simp only [depth_deeper]; omega) | (show aD + 1 + _ < _; omega)) (Kept.ofFr F') (by first | assumption | omega) ?_ Y'); intro h' tk' k6; replace F' := fr_back0 F' k6; replace N' := news_back0 N' k6))
local macro_rules | `(tactic| walk_at "call ref") => `(tactic| (with_reducible rename Fr _ _ _ _ => F'; with_reducible rename News _ _ _ _ => N'; with_reducible rename Gd _ _ _ _ _ _ => Y'; k_dflt (refine sep_c _ _ _ _ _ _ _ _ _ _ _ _ _ _ (by first | (simp only [depth_deeper]; omega) | (show aD + 1 + _ < _; omega)) (Kept.ofFr F') (by first | assumption | omega) ?_ Y'); intro h' tk' t' k6; replace F' := fr_back0 F' k6; replace N' := news_back0 N' k6))

section
set_option maxRecDepth 100000
set_option maxHeartbeats 4000000
open PySem PySem.W PyProof.Rows PySem.Calls
theorem splitroot_c (w : World) (mg mb : Str → Option Value) (G : Heap) (A : Around) (hp : Heap) (gs : Array GenState) (d : Drawn) (tk : Nat) (os : OsState) (x : Str) (t : Tok)
   (Q E : Value → Shared → Prop)
   (hA : A.depth + 60 < recursionLimit) (hG : Kept [] G hp) (hx : x.length ≤ 100) (h1 : (Txt.slice x none (some 1) != "/") = false) (h2 : (Txt.slice x (some 1) (some 2) != "/") = true)
   (hQ : ∀ h' tk' r t1 t2 t3, Kept [] hp h' → h'.get? r = some { cls := .type "tuple", data := .seq #[.str "" t1, .str "/" t2, .str (Txt.slice x (some 1) none) t3] } → hp.get? r = none → Q (.ref r) ⟨h', gs, d, tk', os⟩) :
   (Gd (hd.heap_1 w.params) vw (looseW vw lo) mg mb G) → 
   wpAny (model PySem.Challenge.rw_il0096_01.row.prog w) A (call (.ref 343) [.str x t]) Q E ⟨hp, gs, d, tk, os⟩ := by
  k_fill
  intro X
  refine' enter (news := []) (binds := [("p", .str x t)]) X hG [] (by simp) (by simp) ?ho ?hcd ?hroom ?hbind ?hloc ?_ ?h1 ?h2 ?h3 ?h4
  case ho => k_dflt k_is
  case hcd => k_dflt k_is
  case hroom => first | omega | (show aD < _; omega)
  case hbind => first | exact BindsTo.of_eq rfl | exact kp_binds (X.keeps hG).X (fun _ => rfl)
  case hloc => exact locs rfl
  case h1 => rfl
  case h2 => rfl
  case h3 => rfl
  case h4 => decide
  intro g L h₁ Y hgs hgz F N hL
  simp only [List.reverse_cons, List.reverse_nil, List.nil_append, List.cons_append, updL] at F
  have KX := Y.X
  have TT := Y.T
  k_steps
  all_goals first
    | exact hQ _ _ _ _ _ _ (kept_end hgs hgz (by assumption)) (News.here (by assumption)) (News.fresh (by assumption) hgs)
    | exact absurd (h1.symm.trans (by assumption)) Bool.false_ne_true
    | exact absurd (h2.symm.trans (by assumption)) (Ne.symm Bool.false_ne_true)
end

section
set_option maxRecDepth 100000
set_option maxHeartbeats 4000000
open PySem PySem.W PyProof.Rows PySem.Calls
theorem wp_peek1 {α : Type} {K : Frag} {M : Model} {A : Around} {E : Value → Shared → Prop} {Q : α → Shared → Prop} {s : Shared} {o : Obj} {r : Addr → α}
    (X : K.In s.heap) (q : Q (r s.heap.objs.size) { s with heap := s.heap.push o }) :
    ∀ (t : Sem α) (g : Addr → Option α), peek1 K ⟨M.prog, M.w.params⟩ t = some (o, g) → (∀ D, g D = some (r D)) → wpAny M A t Q E s := by
  intro t
  induction t with
  | rule _ k ih => intro g e hg Γ p hΓ; exact ih () g e hg Γ p hΓ
  | point _ k ih => intro g e hg Γ p hΓ; exact ih () g e hg Γ p hΓ
  | ask k ih => intro g e hg Γ p hΓ; exact ih _ g e hg Γ p hΓ
  | load a _ k ih =>
    intro g e hg Γ p hΓ
    simp only [peek1] at e
    split at e
    · rename_i ob ho; exact ⟨ob, X _ _ ho, ih ob g e hg Γ p hΓ⟩
    · cases e
  | alloc ob k _ =>
    intro g e hg
    have e : some (ob, fun D => peek K ⟨M.prog, M.w.params⟩ (k D)) = some (o, g) := e
    obtain ⟨e1, e2⟩ := Prod.mk.inj (Option.some.inj e)
    subst e1
    subst e2
    have X' : K.In (s.heap.push ob) := X.keeps fun b x hb => Heap.get?_push_of_some _ hb
    show wpAny M A (alloc ob >>= k) Q E s
    refine wpAny_bind (wpAny_alloc ?_)
    exact (Looks.of_peek (M := M) (h := s.heap.push ob) X' (hg s.heap.objs.size)).here (s := { s with heap := s.heap.push ob }) q
  | _ => intro g e; cases e
theorem psz (h : Heap) (o : Obj) : (h.push o).objs.size = h.objs.size + 1 := by simp [Heap.push]
theorem kept_end1 {g h h' : Heap} {L : Addr} {m : Str → Option Value} {ex : List Addr} (hs : ∀ b o, h.get? b = some o → b ∉ ex → g.get? b = some o) (hz : h.objs.size ≤ g.objs.size) (F : Fr g L h' m) : Kept ex h h' :=
  ⟨fun b o e n => F.keep b o (hs b o e n), Nat.le_trans hz (Nat.le_trans F.above (Nat.le_of_lt F.ns.lt))⟩
section
variable {prog : Program} {w : World} {A : Around} {hp : Heap} {gs : Array GenState} {d : Drawn} {tk : Nat} {os : OsState} {K : Frag} {p : Program} {loose : List Str} {mg mb : Str → Option Value} {g G h₀ : Heap} {L : Addr} {m : Str → Option Value} {news : List (Addr × Obj)}

/-- the call of a def that makes one object of its arguments (a rest, a table of more) -/
theorem enter1 {f : Addr} {name qual : Str} {params : Arguments} {body : List Stmt} {scope : Scope}
    {dV kV doc pm cdv ct oc : Value} {an od : Option Addr} {osl : Array (Option Value)} {vs : List Value} {kw : List (Str × Value)} {binds : Addr → List (Str × Value)} {o : Obj} {g₁ : Addr → Option (List (Str × Value))} {Q E : Value → Shared → Prop}
    (X : Gd K p loose mg mb G) (hG : Kept [] G hp) (ex : List Addr) (hex : ∀ a ∈ ex, G.get? a = none)
    (hnews : ∀ p ∈ news, hp.get? p.1 = some p.2 ∧ p.1 ∈ ex) (hf : o.isFreed = false)
    (ho : K.lookup f = some ⟨oc, od, .func (fnOf name qual params body scope dV kV doc pm an cdv ct), osl⟩) (hcd : codeIn K cdv qual = true) (hroom : A.depth < recursionLimit)
    (hpk : peek1 K ⟨prog, w.params⟩ (bindArgs (fnOf name qual params body scope dV kV doc pm an cdv ct) ⟨vs, kw⟩) = some (o, g₁)) (hg₁ : ∀ D, g₁ D = some (binds D))
    (hloc : ∀ D, ∀ y ∈ binds D, scope.names.lookup y.1 = some .local)
    (h : ∀ D g L h₁, Gd K p loose mg mb g → (∀ b o, hp.get? b = some o → b ∉ ex → g.get? b = some o) → hp.objs.size ≤ g.objs.size → Fr g L h₁ (updL (binds D).reverse) → News g L h₁ ((D, o) :: news) → hp.get? D = none → (D == sysModules) = false →
      wpAny (model prog w) (A.deeper (envOf qual scope L f cdv)) (execs body (envOf qual scope L f cdv))
        (fun fl s' => Q (match fl with | .ret v => v | _ => .none) s') (fun _ _ => False) ⟨h₁, gs, d, tk + (binds D).length, os⟩)
    (hco : scope.isCoroutine = false := by rfl) (hgen : scope.isGenerator = false := by rfl) (hk : scope.kind = .function := by rfl)
    (hcell : ∀ x ∈ scope.names, x.2 ≠ .cell := by decide) : wpAny (model prog w) A (call (.ref f) vs kw) Q E ⟨hp, gs, d, tk, os⟩ := by
  have Y := X.keeps hG
  refine wpAny_call ?_
  refine codeAny_call_function (fd := fnOf name qual params body scope dV kV doc pm an cdv ct) (body := body) hroom (Y.X _ _ ho) rfl hco hgen rfl (codeRec_of Y.X hcd) ?_
  refine wp_peek1 (o := o) (s := ⟨hp, gs, d, tk, os⟩) Y.X (r := binds) ?_ _ g₁ hpk hg₁
  have hk0 : ∀ b x, hp.get? b = some x → (hp.push o).get? b = some x := fun b x e => Heap.get?_push_of_some _ e
  refine wpAny_newFunctionEnv (s := ⟨hp.push o, gs, d, tk, os⟩) hcell (hloc _) (fun h₁ hns hsb => ⟨(Y.T.nolimit.keeps hk0).fresh _ hsb, codeAny_func ?_⟩) hk
  have hk₁ : ∀ b x, (hp.push o).get? b = some x → h₁.get? b = some x := fun b x e => hsb.extBut b x (Nat.ne_of_lt (Heap.lt_size e)) (Heap.get?_push_of_some _ e)
  have hD : (hp.push o).get? hp.objs.size = some o := Heap.get?_push_size _ hf
  have hDn : hp.get? hp.objs.size = none := by
    cases e : hp.get? hp.objs.size with
    | none => rfl
    | some x => exact absurd (Heap.lt_size e) (Nat.lt_irrefl _)
  have hsub : ∀ b x, hp.get? b = some x → b ∉ ex → (hideAll (hp.push o) (hp.objs.size :: ex)).get? b = some x := fun b x e n =>
    hideAll_get _ (hk0 b x e) fun q => by
      rcases List.mem_cons.mp q with q | q
      · rw [q, hDn] at e; cases e
      · exact n q
  have hGg : Kept [] G (hideAll (hp.push o) (hp.objs.size :: ex)) := ⟨fun b x e _ => hsub b x (hG.get e) (fun q => by rw [hex b q] at e; exact nomatch e), (hideAll_size _ _).symm ▸ Nat.le_trans hG.2 (by rw [psz]; exact Nat.le_succ _)⟩
  have Yg := X.keeps hGg
  refine wpAny_mono (h hp.objs.size (hideAll (hp.push o) (hp.objs.size :: ex)) (hp.push o).objs.size h₁ Yg hsub (by rw [hideAll_size, psz]; exact Nat.le_succ _)
    ⟨lookup_updL (binds _).reverse ▸ hns, fun b x e => hk₁ b x (of_hideAll _ e), Nat.le_of_eq (hideAll_size _ _)⟩
    (fun q hq => ?_) hDn ?_) (fun _ _ x => x) fun _ _ x => x.elim
  · rcases List.mem_cons.mp hq with rfl | hq
    · exact ⟨hk₁ _ _ hD, Nat.ne_of_lt (Heap.lt_size hD), hideAll_none _ (.head _)⟩
    · have z := hnews q hq
      exact ⟨hk₁ _ _ (hk0 _ _ z.1), Nat.ne_of_lt (Heap.lt_size (hk0 _ _ z.1)), hideAll_none _ (.tail _ z.2)⟩
  · exact beq_eq_false_iff_ne.mpr (Nat.ne_of_gt (modules_low Y.T.nolimit))
end
end

section
set_option maxRecDepth 100000
set_option maxHeartbeats 4000000
open PySem PySem.W PyProof.Rows PySem.Calls
/-- an iterator that goes over n items -/
structure Steps (prog : Program) (w : World) (A : Around) (g : Heap) (L it : Addr) (n : Nat) (x : Nat → Value) (ok : Nat → Obj → Prop) (side : List (Addr × Obj) → Prop) : Prop where
  item : ∀ {k : Nat} {h : Heap} {gs : Array GenState} {d : Drawn} {tk : Nat} {os : OsState} {m : Str → Option Value} {nw : List (Addr × Obj)} {o : Obj} {E : Value → Shared → Prop} {Q : Option Value → Shared → Prop},
    k < n → Fr g L h m → News g L h ((it, o) :: nw) → (∀ p ∈ nw, p.1 ≠ it) → ok k o → side nw → (∀ h' o', Fr g L h' m → News g L h' ((it, o') :: nw) → ok (k + 1) o' → o'.cls = o.cls → Q (some (x k)) ⟨h', gs, d, tk, os⟩) →
    wpAny (model prog w) A (pyNext (.ref it)) Q E ⟨h, gs, d, tk, os⟩
  fin : ∀ {h : Heap} {gs : Array GenState} {d : Drawn} {tk : Nat} {os : OsState} {m : Str → Option Value} {nw : List (Addr × Obj)} {o : Obj} {E : Value → Shared → Prop} {Q : Option Value → Shared → Prop},
    Fr g L h m → News g L h ((it, o) :: nw) → (∀ p ∈ nw, p.1 ≠ it) → ok n o → side nw → (∀ h', Fr g L h' m → News g L h' nw → Q none ⟨h', gs, d, tk, os⟩) →
    wpAny (model prog w) A (pyNext (.ref it)) Q E ⟨h, gs, d, tk, os⟩
noncomputable def listItOk (l : Addr) (k : Nat) (o : Obj) : Prop := o.cls = .type "list_iterator" ∧ o.data = .fields #[.ref l, .int k 0]
noncomputable def tupItOk (l : Addr) (k : Nat) (o : Obj) : Prop := o.cls = .type "tuple_iterator" ∧ o.data = .fields #[.ref l, .int k 0]
section
variable {prog : Program} {w : World} {A : Around} {g h : Heap} {gs : Array GenState} {d : Drawn} {tk : Nat} {os : OsState} {L it : Addr} {m : Str → Option Value} {news : List (Addr × Obj)} {E : Value → Shared → Prop}
theorem list_get {xs : List Value} {k : Nat} (h : k < xs.length) : xs.toArray[k]? = some (xs.getD k .none) := by
  rw [List.getElem?_toArray, List.getElem?_eq_getElem h, List.getD_eq_getElem?_getD, List.getElem?_eq_getElem h]; rfl
theorem Steps.list {l : Addr} {xs : List Value} {side : List (Addr × Obj) → Prop} (hh : A.handled = none)
    (hl : ∀ h m nw, Fr g L h m → News g L h nw → side nw → ∃ c, h.get? l = some (listOf xs.toArray c)) : Steps prog w A g L it xs.length (fun k => xs.getD k .none) (listItOk l) side where
  item := by
    intro k h gs d tk os m nw o E Q hk F N hn ho hs hq
    obtain ⟨c, e⟩ := hl h m nw F (fun p hp => N p (.tail _ hp)) hs
    refine wpAny_pyNext_list_item (s := ⟨h, gs, d, tk, os⟩) ⟨o, (N _ (.head _)).1, ho.1, ho.2⟩ (PySem.IsL.isList e) (list_get hk) fun h' hi hb => ?_
    obtain ⟨o', e', c', d'⟩ := hi
    have z := turn1 F N hn hb e'
    exact hq h' o' z.1 z.2 ⟨c', d'⟩ (c'.trans ho.1.symm)
  fin := by
    intro h gs d tk os m nw o E Q F N hn ho hs hq
    obtain ⟨c, e⟩ := hl h m nw F (fun p hp => N p (.tail _ hp)) hs
    refine wpAny_pyNext_list_end (s := ⟨h, gs, d, tk, os⟩) hh ⟨o, (N _ (.head _)).1, ho.1, ho.2⟩ (PySem.IsL.isList e) (by simp) fun h' hb => ?_
    have z := drop1 F N hn hb
    exact hq h' z.1 z.2
theorem Steps.tuple {l : Addr} {xs : List Value} {side : List (Addr × Obj) → Prop} (hh : A.handled = none)
    (hl : ∀ h m nw, Fr g L h m → News g L h nw → side nw → h.get? l = some { cls := .type "tuple", data := .seq xs.toArray }) : Steps prog w A g L it xs.length (fun k => xs.getD k .none) (tupItOk l) side where
  item := by
    intro k h gs d tk os m nw o E Q hk F N hn ho hs hq
    have e := hl h m nw F (fun p hp => N p (.tail _ hp)) hs
    refine wpAny_pyNext_tuple_item (s := ⟨h, gs, d, tk, os⟩) ⟨o, (N _ (.head _)).1, ho.1, ho.2⟩ ⟨_, e, rfl, _, rfl⟩ (list_get hk) fun h' hi hb => ?_
    obtain ⟨o', e', c', d'⟩ := hi
    have z := turn1 F N hn hb e'
    exact hq h' o' z.1 z.2 ⟨c', d'⟩ (c'.trans ho.1.symm)
  fin := by
    intro h gs d tk os m nw o E Q F N hn ho hs hq
    have e := hl h m nw F (fun p hp => N p (.tail _ hp)) hs
    refine wpAny_pyNext_tuple_end (s := ⟨h, gs, d, tk, os⟩) hh ⟨o, (N _ (.head _)).1, ho.1, ho.2⟩ ⟨_, e, rfl, _, rfl⟩ (by simp) fun h' hb => ?_
    have z := drop1 F N hn hb
    exact hq h' z.1 z.2
theorem iterList {l : Addr} {xs : List Value} {c : Nat} {Q : Value → Shared → Prop} (F : Fr g L h m) (N : News g L h news) (e : h.get? l = some (listOf xs.toArray c))
    (hq : ∀ it h' o, Fr g L h' m → News g L h' ((it, o) :: news) → (∀ p ∈ news, p.1 ≠ it) → listItOk l 0 o → Q (.ref it) ⟨h', gs, d, tk, os⟩) : wpAny (model prog w) A (pyIter (.ref l)) Q E ⟨h, gs, d, tk, os⟩ :=
  wpAny_pyIter_list (s := ⟨h, gs, d, tk, os⟩) (PySem.IsL.isList e) (hq _ _ _ (F.push _) (News.push F N _) (fun p hp => Nat.ne_of_lt (Heap.lt_size (N p hp).1)) ⟨rfl, rfl⟩)
theorem iterTuple {l : Addr} {xs : List Value} {Q : Value → Shared → Prop} (F : Fr g L h m) (N : News g L h news) (e : h.get? l = some { cls := .type "tuple", data := .seq xs.toArray })
    (hq : ∀ it h' o, Fr g L h' m → News g L h' ((it, o) :: news) → (∀ p ∈ news, p.1 ≠ it) → tupItOk l 0 o → Q (.ref it) ⟨h', gs, d, tk, os⟩) : wpAny (model prog w) A (pyIter (.ref l)) Q E ⟨h, gs, d, tk, os⟩ :=
  wpAny_pyIter_tuple (s := ⟨h, gs, d, tk, os⟩) (items := xs.toArray) ⟨_, e, rfl, _, rfl⟩ (hq _ _ _ (F.push _) (News.push F N _) (fun p hp => Nat.ne_of_lt (Heap.lt_size (N p hp).1)) ⟨rfl, rfl⟩)
/-- a for loop over an iterator -/
theorem forS {n : Nat} {x : Nat → Value} {ok : Nat → Obj → Prop} {side : List (Addr × Obj) → Prop} (W : Steps prog w A g L it n x ok side)
    {env : Env} {target : PySem.Expr} {body : List Stmt} {o : Obj} {Q : Flow → Shared → Prop} {R' : Value → Shared → Prop}
    (I : Nat → (Str → Option Value) → List (Addr × Obj) → Prop) (P : (Str → Option Value) → List (Addr × Obj) → Prop)
    (hside : ∀ k m nw, I k m nw → side nw) (F : Fr g L h m) (N : News g L h ((it, o) :: news)) (hn : ∀ p ∈ news, p.1 ≠ it) (h0 : ok 0 o) (hI : I 0 m news)
    (turn : ∀ k o m₁ nw₁ h₁ tk₁, k < n → Fr g L h₁ m₁ → News g L h₁ ((it, o) :: nw₁) → (∀ p ∈ nw₁, p.1 ≠ it) → ok (k + 1) o → I k m₁ nw₁ →
      wpAny (model prog w) A (letOwnedTupleGo target (.ref it) (x k)) (fun _ s₁ => wpAny (model prog w) A (assign target env (x k)) (fun _ s₂ =>
        wpAny (model prog w) A (execs body env) (TurnQ g L gs d os (fun m nw => ∃ nw₂, nw = (it, o) :: nw₂ ∧ (∀ p ∈ nw₂, p.1 ≠ it) ∧ I (k + 1) m nw₂) P Q) (fun _ _ => False) s₂) (fun _ _ => False) s₁) (fun _ _ => False) ⟨h₁, gs, d, tk₁, os⟩)
    (fin : ∀ m nw, I n m nw → P m nw)
    (done : ∀ h' tk' m' news', Fr g L h' m' → News g L h' news' → P m' news' → Q .next ⟨h', gs, d, tk', os⟩) :
    codeAny (model prog w) A (.forLoop target (.ref it) body [] env) (fun r s' => match r with | .ok f => Q f s' | .error e => R' e s') ⟨h, gs, d, tk, os⟩ := by
  refine forL (n₀ := n) (fun j m nw => ∃ k o nw₂, j = n - k ∧ k ≤ n ∧ nw = (it, o) :: nw₂ ∧ (∀ p ∈ nw₂, p.1 ≠ it) ∧ ok k o ∧ I k m nw₂) P F N ⟨0, o, news, rfl, Nat.zero_le _, rfl, hn, h0, hI⟩ ?_ done
  rintro j m₁ nw₁ h₁ tk₁ F₁ N₁ ⟨k, o₁, nw₂, rfl, hk, rfl, hn₂, hok, hI₂⟩
  by_cases hlt : k < n
  · refine W.item hlt F₁ N₁ hn₂ hok (hside _ _ _ hI₂) fun h' o' F' N' ok' _ => ?_
    refine wpAny_mono (turn k o' m₁ nw₂ h' tk₁ hlt F' N' hn₂ ok' hI₂) (fun _ s₁ q => wpAny_mono q (fun _ s₂ q => wpAny_mono q (fun f s₃ q => ?_) fun _ _ x => x) fun _ _ x => x) fun _ _ x => x
    have up : ∀ s, At g L gs d os (fun m nw => ∃ nw₂, nw = (it, o') :: nw₂ ∧ (∀ p ∈ nw₂, p.1 ≠ it) ∧ I (k + 1) m nw₂) s →
        At g L gs d os (fun m nw => ∃ n', n' < n - k ∧ ∃ k o nw₂, n' = n - k ∧ k ≤ n ∧ nw = (it, o) :: nw₂ ∧ (∀ p ∈ nw₂, p.1 ≠ it) ∧ ok k o ∧ I k m nw₂) s := by
      rintro s ⟨h', tk', m', news', rfl, F', N', nw₂, rfl, a, b⟩
      exact ⟨h', tk', m', _, rfl, F', N', n - (k + 1), by omega, k + 1, o', nw₂, rfl, by omega, rfl, a, ok', b⟩
    cases f with
    | ret v => exact q
    | brk => exact q
    | next => exact up _ q
    | cont => exact up _ q
  · obtain rfl : k = n := by omega
    exact W.fin F₁ N₁ hn₂ hok (hside _ _ _ hI₂) fun h' F' N' => At.mk F' N' (fin _ _ hI₂)
end
end

local macro_rules | `(tactic| walk_at "exec For Name Name cons nil") => `(tactic| k_dflt (refine wpAny_For ?_))
local macro_rules | `(tactic| walk_at "exec For Name Call cons nil") => `(tactic| k_dflt (refine wpAny_For ?_))
local macro_rules | `(tactic| walk_at "exec For Tuple Call cons nil") => `(tactic| k_dflt (refine wpAny_For ?_))
local macro_rules | `(tactic| walk_at "exec For Tuple Name cons nil") => `(tactic| k_dflt (refine wpAny_For ?_))
local macro_rules | `(tactic| walk_at "eval Name") => `(tactic| k_dflt (refine ldL (by assumption) (by walk_at "lk") ?_))
local macro_rules | `(tactic| walk_at "loadName") => `(tactic| k_dflt (refine ldn (by assumption) (by walk_at "lk") ?_ (by kernel_rfl!) (by kernel_rfl!)))

section
set_option maxRecDepth 100000
set_option maxHeartbeats 4000000
open PySem PySem.W PyProof.Rows PySem.Calls
noncomputable def joinF (a b : Str) : Str := if Txt.startswith b "/" = true then b else if Txt.endswith a "/" = true then a ++ b else a ++ (("/" : Str) ++ b)
theorem jf1 {a b : Str} (h : Txt.startswith b "/" = true) : joinF a b = b := if_pos h
theorem jf2 {a b : Str} (h : Txt.startswith b "/" = false) (h' : Txt.endswith a "/" = true) : joinF a b = a ++ b := by unfold joinF; rw [if_neg (by rw [h]; decide), if_pos h']
theorem jf3 {a b : Str} (h : Txt.startswith b "/" = false) (h' : Txt.endswith a "/" = false) : joinF a b = a ++ (("/" : Str) ++ b) := by unfold joinF; rw [if_neg (by rw [h]; decide), if_neg (by rw [h']; decide)]
theorem join_c (w : World) (mg mb : Str → Option Value) (G : Heap) (A : Around) (hp : Heap) (gs : Array GenState) (d : Drawn) (tk : Nat) (os : OsState) (a b : Str) (t1 t2 : Tok)
   (Q E : Value → Shared → Prop)
   (hA : A.depth + 60 < recursionLimit) (hh : A.handled = none) (hG : Kept [] G hp) (ha : a.length ≤ 30) (hb : b.length ≤ 30) (ha0 : 0 < a.length)
   (hQ : ∀ h' tk' v t, Kept [] hp h' → v = joinF a b → Q (.str v t) ⟨h', gs, d, tk', os⟩) :
   (Gd (hd.heap_1 w.params) vw (looseW vw lo) mg mb G) → 
   wpAny (model PySem.Challenge.rw_il0096_01.row.prog w) A (call (.ref 336) [.str a t1, .str b t2]) Q E ⟨hp, gs, d, tk, os⟩ := by
  k_fill
  intro X
  obtain ⟨aH, aD, aF, aG, aU⟩ := A
  obtain rfl : aH = none := hh
  replace hA : aD + 60 < recursionLimit := hA
  refine' enter1 (o := { cls := .type "tuple", data := .seq #[.str b t2] }) (news := []) (binds := fun D => [("a", .str a t1), ("p", .ref D)]) X hG [] (by simp) (by simp) ?hf ?ho ?hcd ?hroom ?hpk ?hg1 ?hloc ?_ ?h1 ?h2 ?h3 ?h4
  case ho => k_dflt k_is
  case hcd => k_dflt k_is
  case hroom => first | omega | (show aD < _; omega)
  case hpk => exact rfl
  case hg1 => exact fun _ => rfl
  case hf => exact rfl
  case hloc => exact fun _ => locs rfl
  case h1 => rfl
  case h2 => rfl
  case h3 => rfl
  case h4 => decide
  intro D g L h₁ Y hgs hgz F N hD hDm
  simp only [List.reverse_cons, List.reverse_nil, List.nil_append, List.cons_append, updL] at F
  have KX := Y.X
  have TT := Y.T
  k_steps
  with_reducible rename Fr _ _ _ _ => F0
  with_reducible rename News _ _ _ _ => N0
  refine iterTuple (xs := [.str b t2]) F0 N0 (N0 _ (.head _)).1 ?_
  intro it h2 o F2 N2 hne h0
  refine forS (Steps.tuple (xs := [.str b t2]) (l := D) (side := fun nw => nw = [(D, { cls := .type "tuple", data := .seq #[.str b t2] })]) (by exact rfl) (fun h m nw F N s => (N (D, _) (by rw [s]; exact List.mem_singleton.mpr rfl)).1))
    (fun k m nw => nw = [(D, { cls := .type "tuple", data := .seq #[.str b t2] })] ∧ (∃ t, m "sep" = some (.str "/" t)) ∧ (k = 0 → m "path" = some (.str a t1)) ∧ (k = 1 → ∃ t, m "path" = some (.str (joinF a b) t)))
    (fun m nw => nw = [(D, { cls := .type "tuple", data := .seq #[.str b t2] })] ∧ ∃ t, m "path" = some (.str (joinF a b) t)) (fun _ _ _ q => q.1) F2 N2 hne h0 ⟨rfl, ⟨_, by walk_at "lk"⟩, fun _ => by walk_at "lk", fun q => absurd q (by decide)⟩ ?_ ?_ ?_
  · rintro k o m nw h tk hk F N hne hok ⟨rfl, ⟨ts, m1⟩, m2, -⟩
    obtain rfl : k = 0 := by simpa using hk
    have m2 := m2 rfl
    refine letGo_name ?_
    refine wpAny_assign_Name ?_
    refine stL F N ?_
    intro h3 _ F3 N3
    clear F N F0 N0 F2 N2
    show wpAny _ _ (execs _ _) _ _ _
    simp only [List.getD_cons_zero] at F3
    k_steps
    all_goals first
    | exact At.mk (by assumption) (by assumption) ⟨_, rfl, hne, rfl, ⟨_, by walk_at "lk"⟩, fun q => absurd q (by decide), fun _ => ⟨_, by rw [jf1 (by assumption)]; walk_at "lk"⟩⟩
    | exact At.mk (by assumption) (by assumption) ⟨_, rfl, hne, rfl, ⟨_, by walk_at "lk"⟩, fun q => absurd q (by decide), fun _ => ⟨_, by rw [jf2 (by assumption) (by assumption)]; walk_at "lk"⟩⟩
    | exact At.mk (by assumption) (by assumption) ⟨_, rfl, hne, rfl, ⟨_, by walk_at "lk"⟩, fun q => absurd q (by decide), fun _ => ⟨_, by rw [jf3 (by assumption) (by assumption)]; walk_at "lk"⟩⟩
    | (exfalso; omega)
  · rintro m nw ⟨rfl, -, -, q⟩
    exact ⟨rfl, q rfl⟩
  · rintro h3 tk3 m nw F N ⟨rfl, t, m1⟩
    k_steps
    exact hQ _ _ _ _ (kept_end1 hgs hgz (by assumption)) rfl
end

section
set_option maxRecDepth 100000
set_option maxHeartbeats 4000000
open PySem PySem.W PyProof.Rows PySem.Calls
noncomputable def UpdAt (l : Addr) (f : Obj → List (Addr × Obj)) : Prop := ∀ o1 o2, Upd l o1 o2 (f o1) (f o2)
theorem SL.ofPairs (l : List (Str × Tok)) : SL (l.map (·.1)) (strValues l) :=
  ⟨fun v hv => by obtain ⟨p, _, rfl⟩ := List.mem_map.mp hv; exact ⟨_, _, rfl⟩, by unfold strValues; rw [List.map_map]; rfl⟩
theorem SL.dropLast {ss : List Str} {vs : List Value} (h : SL ss vs) : SL ss.dropLast vs.dropLast :=
  ⟨fun v hv => h.isS v (List.dropLast_subset _ hv), by rw [List.map_dropLast, h.eqS]⟩
theorem SL.snoc {ss : List Str} {vs : List Value} {x : Str} {t : Tok} (h : SL ss vs) : SL (ss ++ [x]) (vs ++ [.str x t]) := h.append (.cons .nil)
theorem SL.strsAre : ∀ {ss : List Str} {vs : List Value}, SL ss vs → StrsAre vs ss
  | ss, [], h => by obtain rfl : ss = [] := h.eqS.symm; constructor
  | ss, v :: vs, h => by
    obtain ⟨x, t, rfl⟩ := h.isS _ (.head _)
    obtain rfl : ss = x :: vs.map unS := h.eqS.symm
    constructor
    exact SL.strsAre ⟨fun u hu => h.isS u (.tail _ hu), rfl⟩
theorem sum_le (B : Nat) : ∀ ss : List Str, (∀ s ∈ ss, s.length ≤ B) → (ss.map (·.length)).sum ≤ ss.length * B
  | [], _ => by simp
  | s :: ss, h => by
    have h1 := h s (.head _)
    have h2 := sum_le B ss fun x hx => h x (.tail _ hx)
    simp only [List.map_cons, List.sum_cons, List.length_cons, Nat.succ_mul]
    omega
theorem ne_of_empty {vs : List Value} (h : (!vs.isEmpty) = true) : vs ≠ [] := by rintro rfl; cases h
theorem SL.empty {ss : List Str} {vs : List Value} (h : SL ss vs) : vs.isEmpty = ss.isEmpty := by
  rw [← h.eqS]; cases vs <;> rfl
section
variable {prog : Program} {w : World} {A : Around} {g h : Heap} {gs : Array GenState} {d : Drawn} {tk : Nat} {os : OsState} {L : Addr} {m : Str → Option Value} {news : List (Addr × Obj)} {E : Value → Shared → Prop}
theorem getItem_last {l : Addr} {vs : List Value} {n : Nat} {t : Tok} {Q : Value → Shared → Prop} (e : h.get? l = some (listOf vs.toArray n)) (hne : vs ≠ []) (hf : vs.length < 2 ^ 62) (hq : Q (vs.getD (vs.length - 1) .none) ⟨h, gs, d, tk, os⟩) :
    wpAny (model prog w) A (getItem (.ref l) (.int (-1) t)) Q E ⟨h, gs, d, tk, os⟩ := by
  have hl : 0 < vs.length := List.length_pos_iff.mpr hne
  refine wpAny_getItem_list_neg (s := ⟨h, gs, d, tk, os⟩) (PySem.IsL.isList e) (by decide) (by simp; omega) (by decide) ?_ hq
  rw [show ((-1 : Int) + (vs.toArray.size : Nat)).toNat = vs.length - 1 by simp; omega]
  exact list_get (by omega)
theorem item_lastS {value slice : PySem.Expr} {l : Addr} {vs : List Value} {n : Nat} {t : Tok} {ss : List Str} {Q : Value → Shared → Prop} (e : h.get? l = some (listOf vs.toArray n)) (hs : SL ss vs) (hne : (!vs.isEmpty) = true) (hf : vs.length ≤ 1000)
    (hq : ∀ t, Q (.str (ss.getD (ss.length - 1) ⟨#[]⟩) t) ⟨h, gs, d, tk, os⟩)
    (hsb : subscripted slice false (.ref l) (.int (-1) t) = operate [.ref l, .int (-1) t] (getItem (.ref l) (.int (-1) t)) := by with_unfolding_all rfl) :
    wpAny (model prog w) A (subscriptTail value slice (.ref l) (.int (-1) t)) Q E ⟨h, gs, d, tk, os⟩ := by
  refine tail_any (s := ⟨h, gs, d, tk, os⟩) (PySem.IsL.isList e).typeIs slot_list_getitem.lookup (getItem_last e (ne_of_empty hne) (by omega) ?_) hsb
  have hl : 0 < vs.length := List.length_pos_iff.mpr (ne_of_empty hne)
  have hl' := hs.length
  obtain ⟨t', e'⟩ := hs.get (k := vs.length - 1) (by omega)
  rw [e', hl']
  exact hq t'
theorem truthyM {l : Addr} {vs : List Value} {n B : Nat} {Q : Bool → Shared → Prop} (N : News g L h news) (hm : (l, listOf vs.toArray n) ∈ news) (hz : vs.length ≤ B) (hq : ∀ tk', Q (!vs.isEmpty) ⟨h, gs, d, tk', os⟩) (hB : B ≤ 1000 := by decide) :
    wpAny (model prog w) A (truthy (.ref l)) Q E ⟨h, gs, d, tk, os⟩ := truthyL (N _ hm).1 (by omega) hq
theorem lastM {value slice : PySem.Expr} {l : Addr} {vs : List Value} {n B : Nat} {t : Tok} {ss : List Str} {Q : Value → Shared → Prop} (N : News g L h news) (hm : (l, listOf vs.toArray n) ∈ news) (hs : SL ss vs) (hne' : vs.isEmpty = false) (hz : vs.length ≤ B)
    (hq : ∀ t, Q (.str (ss.getD (ss.length - 1) ⟨#[]⟩) t) ⟨h, gs, d, tk, os⟩) (hB : B ≤ 1000 := by decide)
    (hsb : subscripted slice false (.ref l) (.int (-1) t) = operate [.ref l, .int (-1) t] (getItem (.ref l) (.int (-1) t)) := by with_unfolding_all rfl) :
    wpAny (model prog w) A (subscriptTail value slice (.ref l) (.int (-1) t)) Q E ⟨h, gs, d, tk, os⟩ := item_lastS (N _ hm).1 hs (by rw [hne']; rfl) (by omega) hq hsb
theorem popM {l : Addr} {vs : List Value} {n B : Nat} {news' : List (Addr × Obj)} {Q : Value → Shared → Prop} (F : Fr g L h m) (N : News g L h news) (_hm : (l, listOf vs.toArray n) ∈ news) (hne' : vs.isEmpty = false) (hz : vs.length ≤ B)
    (U : Upd l (listOf vs.toArray n) (listOf vs.dropLast.toArray (n + 1)) news news') (hq : ∀ h', Fr g L h' m → News g L h' news' → Q (vs.getD (vs.length - 1) .none) ⟨h', gs, d, tk, os⟩) (hB : B ≤ 1000 := by decide) :
    wpAny (model prog w) A (call (.builtin "list.pop") [.ref l]) Q E ⟨h, gs, d, tk, os⟩ := by
  have hne : (!vs.isEmpty) = true := by rw [hne']; rfl
  obtain ⟨us, y, rfl⟩ : ∃ us y, vs = us ++ [y] := ⟨_, _, (List.dropLast_concat_getLast (ne_of_empty hne)).symm⟩
  rw [List.dropLast_concat] at U
  refine popL F N U (by simp at hz; omega) fun h' F' N' => ?_
  have := hq h' F' N'
  rwa [List.length_append, List.length_singleton, Nat.add_sub_cancel, List.getD_eq_getElem?_getD, List.getElem?_append_right (Nat.le_refl _), Nat.sub_self] at this
theorem appendM {l : Addr} {vs : List Value} {y : Value} {n B : Nat} {news' : List (Addr × Obj)} {Q : Value → Shared → Prop} (F : Fr g L h m) (N : News g L h news) (_hm : (l, listOf vs.toArray n) ∈ news) (hz : vs.length ≤ B)
    (U : Upd l (listOf vs.toArray n) (listOf (vs ++ [y]).toArray (n + 1)) news news') (hq : ∀ h', Fr g L h' m → News g L h' news' → Q .none ⟨h', gs, d, tk, os⟩) (hB : B ≤ 1000 := by decide) :
    wpAny (model prog w) A (call (.builtin "list.append") [.ref l, y]) Q E ⟨h, gs, d, tk, os⟩ := appendL F N U (by omega) hq
end
end

local macro_rules | `(tactic| walk_at "call ref") => `(tactic| (with_reducible rename Fr _ _ _ _ => F'; with_reducible rename News _ _ _ _ => N'; with_reducible rename Gd _ _ _ _ _ _ => Y'; k_dflt (refine splitroot_c _ _ _ _ _ _ _ _ _ _ _ _ _ _ (by first | (simp only [depth_deeper]; omega) | (show aD + 1 + _ < _; omega)) (Kept.ofFr F') (by first | assumption | omega) (by assumption) (by assumption) ?_ Y'); intro h' tk' r t1 t2 t3 k6 e6 n6; replace N' := News.back F' N' k6 e6 n6; replace F' := fr_back0 F' k6; clear k6 e6 n6))
local macro_rules | `(tactic| walk_at "truthy ref") => `(tactic| (with_reducible rename News _ _ _ _ => N'; k_dflt (refine truthyM N' (by first | exact .head _ | exact .tail _ (.head _) | exact .tail _ (.tail _ (.head _))) (by assumption) ?_); intro _))
local macro_rules | `(tactic| walk_at "subscriptTail") => `(tactic| ((with_reducible show wpAny _ _ (subscriptTail _ _ (Value.ref _) (Value.int (-1) _)) _ _ _); with_reducible rename News _ _ _ _ => N'; with_reducible rename SL _ _ => sl'; k_dflt (refine lastM N' (by first | exact .head _ | exact .tail _ (.head _) | exact .tail _ (.tail _ (.head _))) sl' (by assumption) (by assumption) ?_); intro _))
local macro_rules | `(tactic| walk_at "getMethod ref") => `(tactic| ((with_reducible show wpAny _ _ (getMethod (Value.ref _) (PySem.Str.ofString "append") _) _ _ _); with_reducible rename News _ _ _ _ => N'; k_dflt (refine methL (N' _ (by first | exact .head _ | exact .tail _ (.head _) | exact .tail _ (.tail _ (.head _)))).1 PySem.F.slot_list_append PySem.F.type_list_append ?_)))
local macro_rules | `(tactic| walk_at "getMethod ref") => `(tactic| ((with_reducible show wpAny _ _ (getMethod (Value.ref _) (PySem.Str.ofString "pop") _) _ _ _); with_reducible rename News _ _ _ _ => N'; k_dflt (refine methL (N' _ (by first | exact .head _ | exact .tail _ (.head _) | exact .tail _ (.tail _ (.head _)))).1 PySem.F.slot_list_pop PySem.F.type_list_pop ?_)))
local macro_rules | `(tactic| walk_at "call builtin:list.append") => `(tactic| (with_reducible rename News _ _ _ _ => N'; with_reducible rename Fr _ _ _ _ => F'; k_dflt (refine appendM F' N' (by first | exact .head _ | exact .tail _ (.head _) | exact .tail _ (.tail _ (.head _))) (by assumption) (by first | ((with_reducible rename UpdAt _ _ => u'); k_dflt (exact u' _ _)) | k_upd) ?_); intro h' F' N'; (try dsimp only at N')))
local macro_rules | `(tactic| walk_at "call builtin:list.pop") => `(tactic| (with_reducible rename News _ _ _ _ => N'; with_reducible rename Fr _ _ _ _ => F'; k_dflt (refine popM F' N' (by first | exact .head _ | exact .tail _ (.head _) | exact .tail _ (.tail _ (.head _))) (by assumption) (by assumption) (by first | ((with_reducible rename UpdAt _ _ => u'); k_dflt (exact u' _ _)) | k_upd) ?_); intro h' F' N'; (try dsimp only at N')))

section
set_option maxRecDepth 100000
set_option maxHeartbeats 4000000
open PySem PySem.W PyProof.Rows PySem.Calls
/-- one part of a path comes onto the parts before it -/
noncomputable def stepN (ns : List Str) (c : Str) : List Str :=
  if c.length = 0 ∨ (c == ".") = true then ns
  else if (c != "..") = true ∨ (ns.isEmpty = false ∧ (ns.getD (ns.length - 1) ⟨#[]⟩ == "..") = true) then ns ++ [c]
  else ns.dropLast
noncomputable def normF (x : Str) : Str := ("/" : Str) ++ Txt.join "/" ((Txt.split (Txt.slice x (some 1) none) "/").foldl stepN [])
section
variable {ns : List Str} {c : Str}
theorem st1 (h : (c.length : Int) = 0) : stepN ns c = ns := if_pos (.inl (by omega))
theorem st2 (h : (c == ".") = true) : stepN ns c = ns := if_pos (.inr h)
theorem st0 (h : (c.length : Int) ≠ 0) (h2 : (c == ".") = false) : ¬ (c.length = 0 ∨ (c == ".") = true) := by rintro (q | q); exact h (by omega); rw [h2] at q; cases q
theorem st3 (h : (c.length : Int) ≠ 0) (h2 : (c == ".") = false) (h3 : (c != "..") = true) : stepN ns c = ns ++ [c] := by unfold stepN; rw [if_neg (st0 h h2), if_pos (.inl h3)]
theorem st4 (h : (c.length : Int) ≠ 0) (h2 : (c == ".") = false) (h4 : ns.isEmpty = false) (h5 : (ns.getD (ns.length - 1) ⟨#[]⟩ == "..") = true) : stepN ns c = ns ++ [c] := by unfold stepN; rw [if_neg (st0 h h2), if_pos (.inr ⟨h4, h5⟩)]
theorem st5 (h : (c.length : Int) ≠ 0) (h2 : (c == ".") = false) (h3 : (c != "..") = false) (h5 : (ns.getD (ns.length - 1) ⟨#[]⟩ == "..") = false) : stepN ns c = ns.dropLast := by
  unfold stepN; rw [if_neg (st0 h h2), if_neg]; rintro (q | q); rw [h3] at q; cases q; rw [h5] at q; cases q.2
theorem st6 (h : (c.length : Int) ≠ 0) (h2 : (c == ".") = false) (h3 : (c != "..") = false) (h4 : ns.isEmpty = true) : stepN ns c = ns := by
  unfold stepN; rw [if_neg (st0 h h2), if_neg]
  · cases ns with | nil => rfl | cons => cases h4
  · rintro (q | q); rw [h3] at q; cases q; rw [h4] at q; cases q.1
end
theorem stepN_mem {ns : List Str} {c s : Str} (h : s ∈ stepN ns c) : s ∈ ns ∨ s = c := by
  unfold stepN at h
  split at h
  · exact .inl h
  · split at h
    · rcases List.mem_append.mp h with q | q
      · exact .inl q
      · exact .inr (List.mem_singleton.mp q)
    · exact .inl (List.dropLast_subset _ h)
theorem fold_mem : ∀ (l ns : List Str) (s : Str), s ∈ l.foldl stepN ns → s ∈ ns ∨ s ∈ l
  | [], _, _, h => .inl h
  | c :: l, ns, s, h => by
    rcases fold_mem l _ s h with q | q
    · rcases stepN_mem q with q | rfl
      · exact .inl q
      · exact .inr (.head _)
    · exact .inr (.tail _ q)
theorem fold_take {α β : Type} (f : β → α → β) (b : β) (l : List α) (k : Nat) (d : α) (h : k < l.length) : (l.take (k + 1)).foldl f b = f ((l.take k).foldl f b) (l.getD k d) := by
  rw [List.take_succ_eq_append_getElem h, List.foldl_append, List.getD_eq_getElem?_getD, List.getElem?_eq_getElem h]; rfl
theorem normpath_c (w : World) (mg mb : Str → Option Value) (G : Heap) (A : Around) (hp : Heap) (gs : Array GenState) (d : Drawn) (tk : Nat) (os : OsState) (x : Str) (t : Tok)
   (Q E : Value → Shared → Prop)
   (hA : A.depth + 100 < recursionLimit) (hh : A.handled = none) (hG : Kept [] G hp) (hx : x.length ≤ 60) (hx0 : 0 < x.length) (h1 : (Txt.slice x none (some 1) != "/") = false) (h2 : (Txt.slice x (some 1) (some 2) != "/") = true) (hsp : (Txt.split (Txt.slice x (some 1) none) "/").length ≤ 60)
   (hQ : ∀ h' tk' v t, Kept [] hp h' → v = normF x → Q (.str v t) ⟨h', gs, d, tk', os⟩) :
   (Gd (hd.heap_1 w.params) vw (looseW vw lo) mg mb G) → 
   wpAny (model PySem.Challenge.rw_il0096_01.row.prog w) A (call (.ref 350) [.str x t]) Q E ⟨hp, gs, d, tk, os⟩ := by
  k_fill
  intro X
  obtain ⟨aH, aD, aF, aG, aU⟩ := A
  obtain rfl : aH = none := hh
  replace hA : aD + 100 < recursionLimit := hA
  refine' enter (news := []) (binds := [("path", .str x t)]) X hG [] (by simp) (by simp) ?ho ?hcd ?hroom ?hbind ?hloc ?_ ?h1 ?h2 ?h3 ?h4
  case ho => k_dflt k_is
  case hcd => k_dflt k_is
  case hroom => first | omega | (show aD < _; omega)
  case hbind => first | exact BindsTo.of_eq rfl | exact kp_binds (X.keeps hG).X (fun _ => rfl)
  case hloc => exact locs rfl
  case h1 => rfl
  case h2 => rfl
  case h3 => rfl
  case h4 => decide
  intro g L h₁ Y hgs hgz F N hL
  simp only [List.reverse_cons, List.reverse_nil, List.nil_append, List.cons_append, updL] at F
  have KX := Y.X
  have TT := Y.T
  k_steps
  rotate_left
  · exfalso; omega
  rename_i r t1' t2' t3' _ _ _ hq4 tkq l h3q kq lm la lb lc h2q nl h1q l1 hq FQ NQ
  clear la lc
  dsimp only at FQ NQ ⊢
  obtain ⟨ca, hca⟩ : ∃ ca, ca = hq4.objs.size := ⟨_, rfl⟩
  rw [← hca] at FQ NQ l1 ⊢
  clear hca
  obtain ⟨tl, htl⟩ : ∃ tl : List (Addr × Obj), tl = [(ca, { cls := .type "list", data := .seq (strValues l).toArray }), (r, { cls := .type "tuple", data := .seq #[.str "" t1', .str "/" t2', .str (Txt.slice x (some 1) none) t3'] })] := ⟨_, rfl⟩
  rw [← htl] at NQ
  have hnl : ∀ p ∈ tl, p.1 ≠ nl := by rw [htl]; intro p hp; simp only [List.mem_cons, List.not_mem_nil, or_false] at hp; rcases hp with rfl | rfl; exact Nat.ne_of_lt l1.1; exact Nat.ne_of_lt l1.2
  have hca : ∀ {g : Heap} {L : Addr} {h' : Heap}, News g L h' tl → h'.get? ca = some (listOf (strValues l).toArray 0) := fun N => (N (ca, _) (by rw [htl]; exact .head _)).1
  rw [← lm] at hsp
  have hll : (strValues l).length ≤ 60 := by simpa [strValues] using hsp
  refine iterList (xs := strValues l) FQ NQ (hca (fun p hp => NQ p (.tail _ hp))) ?_
  intro it h2 o F2 N2 hne h0
  refine forS (Steps.list (l := ca) (xs := strValues l) (side := fun nw => ∃ a, nw = a :: tl) (by exact rfl) (fun h m nw F N s => by obtain ⟨a, rfl⟩ := s; exact ⟨_, hca (fun p hp => N p (.tail _ hp))⟩))
    (fun k m nw => ∃ ns vs c, SL ns vs ∧ nw = (nl, listOf vs.toArray c) :: tl ∧ ns = ((l.map (·.1)).take k).foldl stepN [] ∧ vs.length ≤ k ∧ m "new_comps" = some (.ref nl) ∧ (∃ t, m "sep" = some (.str "/" t)) ∧ (∃ t, m "dot" = some (.str "." t)) ∧ (∃ t, m "dotdot" = some (.str ".." t)) ∧ (∃ t, m "initial_slashes" = some (.str "/" t)))
    (fun m nw => ∃ ns vs c, SL ns vs ∧ nw = (nl, listOf vs.toArray c) :: tl ∧ ns = (l.map (·.1)).foldl stepN [] ∧ vs.length ≤ 60 ∧ m "new_comps" = some (.ref nl) ∧ (∃ t, m "sep" = some (.str "/" t)) ∧ (∃ t, m "dot" = some (.str "." t)) ∧ (∃ t, m "initial_slashes" = some (.str "/" t)))
    (fun _ _ _ q => by obtain ⟨_, _, _, _, q, _⟩ := q; exact ⟨_, q⟩) F2 N2 hne h0 ⟨[], [], 0, .nil, rfl, rfl, Nat.le_refl _, by walk_at "lk", ⟨_, by walk_at "lk"⟩, ⟨_, by walk_at "lk"⟩, ⟨_, by walk_at "lk"⟩, ⟨_, by walk_at "lk"⟩⟩ ?_ ?_ ?_
  · rintro k o m nw h tk hk F N hne hok ⟨ns, vs, c, hsl, rfl, hns, hvs, m1, ⟨ts, m2⟩, ⟨td, m3⟩, ⟨te, m4⟩, ⟨ti, m5⟩⟩
    have hkl : k < (l.map (·.1)).length := by simpa [strValues] using hk
    obtain ⟨tc, hc⟩ := (SL.ofPairs l).get hkl
    have hfold := fold_take stepN [] (l.map (·.1)) k ⟨#[]⟩ hkl
    rw [← hns] at hfold
    obtain ⟨comp, hcomp⟩ : ∃ comp, comp = (l.map (·.1)).getD k ⟨#[]⟩ := ⟨_, rfl⟩
    have hcl : comp.length ≤ 60 := by
      have hm : comp ∈ l.map (·.1) := by rw [hcomp, List.getD_eq_getElem?_getD, List.getElem?_eq_getElem hkl]; exact List.getElem_mem hkl
      exact Nat.le_trans (lb _ hm) (Nat.le_trans (Txt.slice_le ..) hx)
    rw [← hcomp] at hc hfold
    rw [hc]
    refine letGo_name ?_
    refine wpAny_assign_Name ?_
    refine stL F N ?_
    intro h3 _ F3 N3
    clear F N FQ NQ F2 N2 hc hcomp
    have hem := hsl.empty
    have hun : UpdAt nl (fun o1 => (it, o) :: (nl, o1) :: tl) := fun _ _ => .tail (fun q => hne (nl, _) (.head _) q.symm) (.head hnl)
    have hvb : vs.length ≤ 60 := by omega
    show wpAny _ _ (execs _ _) _ _ _
    try clear hgs
    try clear hgz
    try clear hQ
    try clear hsp
    try clear hll
    try clear h1
    try clear X
    try clear lm
    try clear hkl
    try clear hx
    try clear hx0
    try clear lb
    try clear hok
    try clear hk
    try clear h0
    try clear hns
    try clear l1
    try clear hca
    try clear hnl
    try clear htl
    try clear hL
    try clear hG
    k_steps
    all_goals first
    | exact At.mk (by assumption) (by assumption) ⟨_, rfl, fun p hp => by
        rcases List.mem_cons.mp hp with rfl | hp
        · exact fun q => hne (nl, listOf vs.toArray c) (.head _) q
        · exact hne p (.tail _ hp), ns, vs, c, ‹SL ns vs›, rfl, by rw [hfold]; first | rw [st1 (by assumption)] | rw [st2 (by assumption)] | rw [st6 (by assumption) (by assumption) (by assumption) (by rw [← hem]; assumption)], by omega, by walk_at "lk", ⟨_, by walk_at "lk"⟩, ⟨_, by walk_at "lk"⟩, ⟨_, by walk_at "lk"⟩, ⟨_, by walk_at "lk"⟩⟩
    | exact At.mk (by assumption) (by assumption) ⟨_, rfl, fun p hp => by
        rcases List.mem_cons.mp hp with rfl | hp
        · exact fun q => hne (nl, listOf vs.toArray c) (.head _) q
        · exact hne p (.tail _ hp), ns ++ [comp], vs ++ [.str comp tc], _, (‹SL ns vs›).snoc, rfl, by rw [hfold]; first | rw [st3 (by assumption) (by assumption) (by assumption)] | rw [st4 (by assumption) (by assumption) (by rw [← hem]; assumption) (by assumption)], by simp; omega, by walk_at "lk", ⟨_, by walk_at "lk"⟩, ⟨_, by walk_at "lk"⟩, ⟨_, by walk_at "lk"⟩, ⟨_, by walk_at "lk"⟩⟩
    | exact At.mk (by assumption) (by assumption) ⟨_, rfl, fun p hp => by
        rcases List.mem_cons.mp hp with rfl | hp
        · exact fun q => hne (nl, listOf vs.toArray c) (.head _) q
        · exact hne p (.tail _ hp), ns.dropLast, vs.dropLast, _, (‹SL ns vs›).dropLast, rfl, by rw [hfold]; rw [st5 (by assumption) (by assumption) (by assumption) (by assumption)], by simp; omega, by walk_at "lk", ⟨_, by walk_at "lk"⟩, ⟨_, by walk_at "lk"⟩, ⟨_, by walk_at "lk"⟩, ⟨_, by walk_at "lk"⟩⟩
  · rintro m nw ⟨ns, vs, c, hsl, rfl, hns, hvs, m1, m2, m3, m4, m5⟩
    exact ⟨ns, vs, c, hsl, rfl, by rw [hns, List.take_of_length_le (by simp [strValues])], by omega, m1, m2, m3, m5⟩
  · rintro h3 tk3 m nw F N ⟨ns, vs, c, hsl, rfl, hns, hvs, m1, ⟨_, m2⟩, ⟨_, m3⟩, ⟨_, m4⟩⟩
    have hnb : ∀ s ∈ ns, s.length ≤ 60 := fun s hs => by
      rw [hns] at hs
      rcases fold_mem _ _ _ hs with q | q
      · cases q
      · exact Nat.le_trans (lb _ q) (Nat.le_trans (Txt.slice_le ..) hx)
    have hsum : (ns.map (·.length)).sum + ns.length * 64 ≤ 16777216 := by have := sum_le 60 ns hnb; have := hsl.length; omega
    have hj : (Txt.join "/" ns).length ≤ 4000 := by
      show (Builtin.Str.glued "/" ns).length ≤ 4000
      rw [StrLaws.glued_eq_join]
      refine Nat.le_trans (StrLaws.join_length_le _ _) ?_
      have := sum_le 60 ns hnb
      have := hsl.length
      have : (Str.ofString "/").length = 1 := by decide
      rw [this]
      omega
    clear hnb hca hnl htl lb FQ NQ F2 N2
    k_steps
    refine join_listC (s := ⟨_, _, _, _, _⟩) (PySem.IsL.isList (‹News _ _ _ _› _ (.head _)).1) (by rw [List.toList_toArray]; exact hsl.strsAre) (by decide) hsum ?_
    intro t' k'
    k_steps
    exact hQ _ _ _ _ (kept_end hgs hgz (by assumption)) (by unfold normF; rw [hns, lm])
end

section
set_option maxRecDepth 100000
set_option maxHeartbeats 4000000
open PySem PySem.W PyProof.Rows PySem.Calls

section
variable {prog : Program} {w : World} {A : Around} {hp : Heap} {gs : Array GenState} {d : Drawn} {tk : Nat} {os : OsState} {K : Frag} {p : Program} {loose : List Str} {mg mb : Str → Option Value} {g G h₀ : Heap} {L : Addr} {m : Str → Option Value} {news : List (Addr × Obj)}
theorem enterC {f : Addr} {name qual : Str} {params : Arguments} {body : List Stmt} {scope : Scope}
    {dV kV doc pm cdv ct oc : Value} {an od : Option Addr} {osl : Array (Option Value)} {vs : List Value} {kw : List (Str × Value)} {binds : List (Str × Value)} {R : Result → Shared → Prop}
    (X : Gd K p loose mg mb G) (hG : Kept [] G hp) (ex : List Addr) (hex : ∀ a ∈ ex, G.get? a = none)
    (hnews : ∀ p ∈ news, hp.get? p.1 = some p.2 ∧ p.1 ∈ ex)
    (ho : K.lookup f = some ⟨oc, od, .func (fnOf name qual params body scope dV kV doc pm an cdv ct), osl⟩) (hcd : codeIn K cdv qual = true) (hroom : A.depth < recursionLimit)
    (hbind : BindsTo ⟨hp, gs, d, tk, os⟩ (fnOf name qual params body scope dV kV doc pm an cdv ct) ⟨vs, kw⟩ binds) (hloc : ∀ y ∈ binds, scope.names.lookup y.1 = some .local)
    (h : ∀ g L h₁, Gd K p loose mg mb g → (∀ b o, hp.get? b = some o → b ∉ ex → g.get? b = some o) → g.objs.size = hp.objs.size → Fr g L h₁ (updL binds.reverse) → News g L h₁ news → L = hp.objs.size →
      wpAny (model prog w) (A.deeper (envOf qual scope L f cdv)) (execs body (envOf qual scope L f cdv))
        (fun fl s' => R (.ok (.ret (match fl with | .ret v => v | _ => .none))) s') (fun _ _ => False) ⟨h₁, gs, d, tk + binds.length, os⟩)
    (hco : scope.isCoroutine = false := by rfl) (hgen : scope.isGenerator = false := by rfl) (hk : scope.kind = .function := by rfl)
    (hcell : ∀ x ∈ scope.names, x.2 ≠ .cell := by decide) : codeAny (model prog w) A (.call (.ref f) ⟨vs, kw⟩) R ⟨hp, gs, d, tk, os⟩ := by
  have Y := X.keeps hG
  refine codeAny_call_def (fd := fnOf name qual params body scope dV kV doc pm an cdv ct) (body := body) (binds := binds) hroom (Y.X _ _ ho) rfl Y.T.nolimit (codeRec_of Y.X hcd) rfl hbind hcell hloc (fun h₁ hns hk₁ => ?_) hco hgen hk
  have hsub : ∀ b o, hp.get? b = some o → b ∉ ex → (hideAll hp ex).get? b = some o := fun b o e n => hideAll_get ex e n
  have hGg : Kept [] G (hideAll hp ex) := ⟨fun b o e _ => hsub b o (hG.get e) (fun q => by rw [hex b q] at e; exact nomatch e), (hideAll_size ex hp).symm ▸ hG.2⟩
  refine wpAny_mono (h (hideAll hp ex) hp.objs.size h₁ (X.keeps hGg) hsub (hideAll_size _ _) ⟨lookup_updL binds.reverse ▸ hns, fun b o e => hk₁ b o (of_hideAll _ e), Nat.le_of_eq (hideAll_size _ _)⟩
    (fun p hp => ⟨hk₁ _ _ (hnews p hp).1, Nat.ne_of_lt (Heap.lt_size (hnews p hp).1), hideAll_none ex (hnews p hp).2⟩) rfl) (fun _ _ x => x) fun _ _ x => x.elim

end
end

section
set_option maxRecDepth 100000
set_option maxHeartbeats 4000000
open PySem PySem.W PyProof.Rows PySem.Calls
abbrev hdrD (P : Params) (l : Addr) (t : Tok) : Obj := dictOf [⟨PyData.keyHash P "_headers", .str "_headers" t, .ref l⟩] 1
theorem init_c (w : World) (mg mb : Str → Option Value) (G : Heap) (A : Around) (hp : Heap) (gs : Array GenState) (d : Drawn) (tk : Nat) (os : OsState) (x dx l : Addr)
   (R : Result → Shared → Prop)
   (hA : A.depth + 30 < recursionLimit) (hh : A.handled = none) (hG : Kept [] G hp) (hl : hp.get? l = some (listOf #[] 0)) (hgl : G.get? l = none) (hx : hp.get? x = some (instObj 182 dx)) (hgx : G.get? x = none) (hdx : hp.get? dx = some (dictOf [] 0)) (hgdx : G.get? dx = none) (hld : l ≠ dx) (hxdx : x ≠ dx)
   (hQ : ∀ h' tk' t, Kept [dx] hp h' → h'.get? dx = some (hdrD w.params l t) → R (.ok (.ret .none)) ⟨h', gs, d, tk', os⟩) :
   (Gd (hd.heap_1 w.params) vw (looseW vw lo) mg mb G) → 
   codeAny (model PySem.Challenge.rw_il0096_01.row.prog w) A (.call (.ref 76) ⟨[.ref x, .ref l], []⟩) R ⟨hp, gs, d, tk, os⟩ := by
  k_fill
  intro X
  obtain ⟨aH, aD, aF, aG, aU⟩ := A
  obtain rfl : aH = none := hh
  replace hA : aD + 30 < recursionLimit := hA
  refine' enterC (news := [(x, instObj 182 dx), (dx, dictOf [] 0), (l, listOf #[] 0)]) (binds := [("self", .ref x), ("headers", .ref l)]) X hG [x, dx, l] (by simp [hgl, hgx, hgdx]) (by simp [hl, hx, hdx]) ?ho ?hcd ?hroom ?hbind ?hloc ?_ ?h1 ?h2 ?h3 ?h4
  case ho => k_dflt k_is
  case hcd => k_dflt k_is
  case hroom => first | omega | (show aD < _; omega)
  case hbind => first | exact BindsTo.of_eq rfl | exact kp_binds (X.keeps hG).X (fun _ => rfl)
  case hloc => exact locs rfl
  case h1 => rfl
  case h2 => rfl
  case h3 => rfl
  case h4 => decide
  intro g L h₁ Y hgs hgz F N hL
  simp only [List.reverse_cons, List.reverse_nil, List.nil_append, List.cons_append, updL] at F
  have KX := Y.X
  have TT := Y.T
  k_steps
  (with_reducible rename Fr _ _ _ _ => F3)
  (with_reducible rename News _ _ _ _ => N3)
  refine iterList (xs := []) F3 N3 (N3 _ (.tail _ (.tail _ (.head _)))).1 ?_
  intro it h4 o F4 N4 hne h0
  refine Exists.elim (p := fun S => News g L h4 ((it, o) :: S) ∧ (∀ p ∈ S, p.1 ≠ it) ∧ ∃ t, S = [(x, instObj 182 dx), (dx, hdrD w.params l t), (l, listOf #[] 0)]) ⟨_, N4, hne, _, rfl⟩ ?_
  clear N4 hne
  rintro S ⟨N4, hne, t, hS⟩
  refine forS (Steps.list (xs := []) (l := l) (side := fun nw => nw = S) (by exact rfl) (fun h m nw F N s => ⟨0, (N (l, _) (by rw [s, hS]; exact .tail _ (.tail _ (.head _)))).1⟩))
    (fun _ _ nw => nw = S) (fun _ nw => nw = S) (fun _ _ _ q => q) F4 N4 hne h0 rfl ?_ (fun _ _ q => q) ?_
  · intro k o m nw h tk hk
    exact absurd hk (Nat.not_lt_zero _)
  · rintro h5 tk5 m nw F N rfl
    k_steps
    have F := ‹Fr g L h5 m›
    rw [hS] at N
    refine hQ _ _ _ ⟨fun b o e nb => ?_, (kept_end hgs hgz F).2⟩ (N (dx, _) (.tail _ (.head _))).1
    by_cases hbx : b = x
    · subst hbx; rw [hx] at e; cases e; exact (N _ (.head _)).1
    · by_cases hbl : b = l
      · subst hbl; rw [hl] at e; cases e; exact (N (b, _) (.tail _ (.tail _ (.head _)))).1
      · exact F.keep b o (hgs b o e (by simp at nb; simp [hbx, hbl, nb]))
end

section
set_option maxRecDepth 100000
set_option maxHeartbeats 4000000
open PySem PySem.W PyProof.Rows PySem.Calls
theorem plainAttrs_dict' : PlainAttrs "dict" :=
  ⟨⟨"dict.__getattribute__", by rw [typeLookup_type, builtinLookup_eq_fast]; kernel_rfl, by decide +kernel⟩, by rw [typeLookup_type, builtinLookup_eq_fast]; kernel_rfl⟩
section
variable {prog : Program} {w : World} {A : Around} {g h : Heap} {gs : Array GenState} {d : Drawn} {tk : Nat} {os : OsState} {L D it v : Addr} {m : Str → Option Value} {news : List (Addr × Obj)} {E : Value → Shared → Prop}
theorem empty_at (e : h.get? D = some (dictOf [] 0)) : h.DictAt (PySem.strKind prog w) D [] 0 := by
  have z : (dictOf [] 0).IsDictOf (PySem.strKind prog w) [] := kp_isDict (prog := prog) (w := w) (ex := []) 0 0 .nil
  obtain ⟨es, ep, z1, z2, z3⟩ := z
  obtain ⟨rfl, rfl⟩ : es = #[] ∧ ep = 0 := by
    have : Data.dict #[] 0 = Data.dict es ep := z2
    injection this with a b
    exact ⟨a.symm, b.symm⟩
  exact ⟨_, #[], e, z1, rfl, z3⟩
theorem dictMeth {x : Str} {id : String} {pl : Sem Bool} {ob : Obj} {Q : Value × List Value → Shared → Prop} (e : h.get? D = some ob) (hc : ob.cls = .type "dict") (hd : ob.dict = none) (slot : Slot "dict" x id) (hty : typeOf (.builtin id) = pure (.type "method_descriptor"))
    (hq : Q (.builtin id, [.ref D]) ⟨h, gs, d, tk, os⟩) : wpAny (model prog w) A (getMethod (.ref D) x pl) Q E ⟨h, gs, d, tk, os⟩ :=
  getMethod_builtin (s := ⟨h, gs, d, tk, os⟩) ⟨_, e, hc⟩ plainAttrs_dict' slot hty (fun a e' => by cases e'; exact ⟨_, e, hd⟩) hq
theorem dictItems0 {Q : Value → Shared → Prop} (F : Fr g L h m) (N : News g L h news) (e : h.get? D = some (dictOf [] 0)) (hD : (D == sysModules) = false)
    (hq : ∀ v h', Fr g L h' m → News g L h' ((v, { cls := .type "dict_items", data := .fields #[.ref D] }) :: news) → (∀ p ∈ news, p.1 ≠ v) → Q (.ref v) ⟨h', gs, d, tk, os⟩) :
    wpAny (model prog w) A (call (.builtin "dict.items") [.ref D]) Q E ⟨h, gs, d, tk, os⟩ := by
  obtain ⟨o, es, r⟩ := empty_at (prog := prog) (w := w) e
  refine call_meetsIn PySem.F.slot_dict_items ⟨_, e, rfl⟩ PySem.F.entry_dict_items (PySem.F.args_dict_items_1 _) (meets_dict_items (PySem.strKind prog w) D hD) ⟨⟨[], o, es, 0, r⟩, ?_⟩
  exact hq _ _ (F.push _) (News.push F N _) fun p hp => Nat.ne_of_lt (Heap.lt_size (N p hp).1)
theorem iterItems0 {Q : Value → Shared → Prop} (F : Fr g L h m) (N : News g L h news) (e : h.get? D = some (dictOf [] 0)) (ev : h.get? v = some { cls := .type "dict_items", data := .fields #[.ref D] })
    (hq : ∀ it h', Fr g L h' m → News g L h' ((it, { cls := .type "dict_itemiterator", data := .fields #[.none, .bool false, .ref D, .int 0 0, .int 0 0, .int 0 0, .none, .none] }) :: news) → (∀ p ∈ news, p.1 ≠ it) → Q (.ref it) ⟨h', gs, d, tk, os⟩) :
    wpAny (model prog w) A (pyIter (.ref v)) Q E ⟨h, gs, d, tk, os⟩ :=
  wpAny_pyIter_items (s := ⟨h, gs, d, tk, os⟩) (knd := PySem.strKind prog w) (kvs := []) ⟨_, ev, rfl, rfl⟩ (empty_at e) (hq _ _ (F.push _) (News.push F N _) fun p hp => Nat.ne_of_lt (Heap.lt_size (N p hp).1))
theorem nextItems0 {Q : Option Value → Shared → Prop} (hh : A.handled = none) (F : Fr g L h m) (N : News g L h ((it, { cls := .type "dict_itemiterator", data := .fields #[.none, .bool false, .ref D, .int 0 0, .int 0 0, .int 0 0, .none, .none] }) :: news)) (hn : ∀ p ∈ news, p.1 ≠ it)
    (e : h.get? D = some (dictOf [] 0)) (hq : ∀ h', Fr g L h' m → News g L h' news → Q none ⟨h', gs, d, tk, os⟩) :
    wpAny (model prog w) A (pyNext (.ref it)) Q E ⟨h, gs, d, tk, os⟩ :=
  wpAny_pyNext_items_end (s := ⟨h, gs, d, tk, os⟩) (knd := PySem.strKind prog w) (kvs := []) hh (N _ (.head _)).1 (empty_at e) rfl fun h' hb => have z := drop1 F N hn hb; hq h' z.1 z.2
/-- a for loop over nothing -/
theorem forItems0 {env : Env} {target : PySem.Expr} {body : List Stmt} {Q : Flow → Shared → Prop} {R' : Value → Shared → Prop} (hh : A.handled = none) (F : Fr g L h m) (N : News g L h ((it, { cls := .type "dict_itemiterator", data := .fields #[.none, .bool false, .ref D, .int 0 0, .int 0 0, .int 0 0, .none, .none] }) :: news)) (hn : ∀ p ∈ news, p.1 ≠ it)
    (hD : (D, dictOf [] 0) ∈ news) (hq : ∀ h' tk', Fr g L h' m → News g L h' news → Q .next ⟨h', gs, d, tk', os⟩) :
    codeAny (model prog w) A (.forLoop target (.ref it) body [] env) (fun r s' => match r with | .ok f => Q f s' | .error e => R' e s') ⟨h, gs, d, tk, os⟩ := by
  refine forL (n₀ := 0) (fun _ m' nw => m' = m ∧ nw = (it, { cls := .type "dict_itemiterator", data := .fields #[.none, .bool false, .ref D, .int 0 0, .int 0 0, .int 0 0, .none, .none] }) :: news) (fun m' nw => m' = m ∧ nw = news) F N ⟨rfl, rfl⟩ ?_ ?_
  · rintro n m₁ nw h₁ tk₁ F₁ N₁ ⟨rfl, rfl⟩
    exact nextItems0 hh F₁ N₁ hn (N₁ _ (.tail _ hD)).1 fun h' F' N' => At.mk F' N' ⟨rfl, rfl⟩
  · rintro h' tk' m' nw F' N' ⟨rfl, rfl⟩
    exact hq h' tk' F' N'
end
end

section
set_option maxRecDepth 100000
set_option maxHeartbeats 4000000
open PySem PySem.W PyProof.Rows PySem.Calls
section
variable {prog : Program} {w : World} {A : Around} {R : Result → Shared → Prop} {s : Shared}
/-- the tests of a comprehension, one after the other -/
noncomputable def testsOf (ifs : List PySem.Expr) (env : Env) : Sem Bool := forIn ifs true fun c r => if r = true then do let ok ← isTrue c env (eval c env); pure (ForInStep.yield ok) else pure (ForInStep.yield r)
theorem compLoopG {elt target iter : PySem.Expr} {ifs : List PySem.Expr} {scope : Scope} {pos : Pos} {it acc : Value} {env : Env} (I : Nat → Shared → Prop)
    (turn : ∀ n s, I n s → wpAny (model prog w) A (pyNext it) (fun r s₁ => match r with
      | none => R (.ok .next) s₁
      | some v => wpAny (model prog w) A (letOwnedTupleGo target it v) (fun _ s₁' => wpAny (model prog w) A (assign target env v) (fun _ s₂ =>
          wpAny (model prog w) A (testsOf ifs env) (fun ok s₃ =>
            if ok = true then wpAny (model prog w) A (eval elt env) (fun x s₄ =>
              wpAny (model prog w) A (call (.builtin "list.append") [acc, x]) (fun _ s₅ => ∃ m, m < n ∧ I m s₅) (fun _ _ => False) s₄) (fun _ _ => False) s₃
            else ∃ m, m < n ∧ I m s₃) (fun _ _ => False) s₂) (fun _ _ => False) s₁') (fun _ _ => False) s₁) (fun _ _ => False) s)
    (n : Nat) (h : I n s) :
    codeAny (model prog w) A (.compLoop (.ListComp elt [⟨target, iter, ifs, 0⟩] scope pos) 0 it acc env) R s := by
  refine codeAny_loop rfl I (fun n s hI => ?_) n h
  show wpAny _ A ((compTurn (.ListComp elt [⟨target, iter, ifs, 0⟩] scope pos) 0 it acc env).onRaise (fun x => do noteFrame x env; theTreesLotGoes x)) _ _ s
  refine wpAny_noted ?_
  rw [compTurn_list]
  refine wpAny_bind (wpAny_standAt (wpAny_bind (wpAny_mono (turn n s hI) (fun r s₁ h₁ => ?_) fun _ _ x => x.elim)))
  cases r with
  | none => exact wpAny_pure h₁
  | some v =>
    refine wpAny_bind (wpAny_mono h₁ (fun _ s₁' h₁' => ?_) fun _ _ x => x.elim)
    refine wpAny_bind (wpAny_mono h₁' (fun _ s₂ h₂ => wpAny_bind (wpAny_mono h₂ (fun ok s₃ h₃ => ?_) fun _ _ x => x.elim)) fun _ _ x => x.elim)
    cases ok with
    | false => exact wpAny_pure ⟨rfl, h₃⟩
    | true => exact wpAny_bind (wpAny_bind (wpAny_mono h₃ (fun x s₄ h₄ => wpAny_bind (wpAny_mono h₄ (fun _ s₅ h₅ => wpAny_pure (wpAny_pure ⟨rfl, h₅⟩)) fun _ _ x => x.elim)) fun _ _ x => x.elim))
end
end

section
set_option maxRecDepth 100000
set_option maxHeartbeats 4000000
open PySem PySem.W PyProof.Rows PySem.Calls
section
variable {M : Model} {A : Around} {E : Value → Shared → Prop} {K : Frag} {p : Program} {loose : List Str} {mg mb : Str → Option Value} {g h : Heap} {gs : Array GenState} {d : Drawn} {tk : Nat} {os : OsState} {L : Addr} {m : Str → Option Value} {news : List (Addr × Obj)} {env : Env} {x : Str} {pos : Pos} {v : Value}
/-- names in any surroundings -/
theorem gName {Q : Value → Shared → Prop} (F : Fr g L h m) (Y : Gd K p loose mg mb g) (ek : nsIn K mainGlobals x = some (some v)) (hq : Q v ⟨h, gs, d, tk, os⟩)
    (hk : env.scope.kind = .function) (hx : env.kindOf x = some .globalImplicit) (hgl : env.globals = mainGlobals) (hd : (x == ("__debug__" : Str)) = false) :
    wpAny M A (eval (.Name x pos) env) Q E ⟨h, gs, d, tk, os⟩ :=
  Calls.Name_function_global hk hx (Calls.loadGlobal_global (env := env) (hgl ▸ (Y.T.g.keeps F.keep)) (mg_of Y.X Y.T.g ek) hq) hd
theorem bName {Q : Value → Shared → Prop} (F : Fr g L h m) (Y : Gd K p loose mg mb g) (ek : nsIn K mainGlobals x = some none) (hv : bootBuiltins x = some v) (hn : x ≠ "__name__") (hq : Q v ⟨h, gs, d, tk, os⟩)
    (hk : env.scope.kind = .function) (hx : env.kindOf x = some .globalImplicit) (hgl : env.globals = mainGlobals) (hbl : env.builtins = builtinsNs) (hd : (x == ("__debug__" : Str)) = false) :
    wpAny M A (eval (.Name x pos) env) Q E ⟨h, gs, d, tk, os⟩ :=
  Calls.Name_function_global hk hx (Calls.loadGlobal_builtin (env := env) (hgl ▸ (Y.T.g.keeps F.keep)) (mg_none_of Y.X Y.T.g ek) (hbl ▸ (Y.T.b.keeps F.keep)) ((Y.T.builtins x hn).trans hv) hq) hd
theorem lName {Q : Value → Shared → Prop} (F : Fr g env.locals h m) (hv : m x = some v) (hq : Q v ⟨h, gs, d, tk, os⟩)
    (hk : env.scope.kind = .function) (hl : env.kindOf x = some .local) (hd : (x == ("__debug__" : Str)) = false) :
    wpAny M A (eval (.Name x pos) env) Q E ⟨h, gs, d, tk, os⟩ := wpAny_Name (wpAny_loadName_local hk hl F.ns hv hq) hd
theorem cName {c : Addr} {o : Obj} {Q : Value → Shared → Prop} (e : h.get? c = some o) (ho : o.data = .cell (some v)) (hq : Q v ⟨h, gs, d, tk, os⟩)
    (hk : env.scope.kind = .function) (hl : env.kindOf x = some .cell) (hc : env.cells.lookup x = some c) (hd : (x == ("__debug__" : Str)) = false) :
    wpAny M A (eval (.Name x pos) env) Q E ⟨h, gs, d, tk, os⟩ := wpAny_Name (wpAny_loadName_cell (s := ⟨h, gs, d, tk, os⟩) hk hl hc ⟨o, e, ho⟩ hq) hd
theorem fName {c : Addr} {o : Obj} {Q : Value → Shared → Prop} (e : h.get? c = some o) (ho : o.data = .cell (some v)) (hq : Q v ⟨h, gs, d, tk, os⟩)
    (hk : env.scope.kind = .function) (hl : env.kindOf x = some .free) (hc : env.cells.lookup x = some c) (hd : (x == ("__debug__" : Str)) = false) (hn : (x == ("__classdict__" : Str)) = false) :
    wpAny M A (eval (.Name x pos) env) Q E ⟨h, gs, d, tk, os⟩ := wpAny_Name (wpAny_loadName_free (s := ⟨h, gs, d, tk, os⟩) hk hl hc ⟨o, e, ho⟩ hq hn) hd
end
end

section
set_option maxRecDepth 100000
set_option maxHeartbeats 4000000
open PySem PySem.W PyProof.Rows PySem.Calls
section
variable {prog : Program} {w : World} {A : Around} {E : Value → Shared → Prop} {K : Frag} {p : Program} {loose : List Str} {mg mb : Str → Option Value} {G h : Heap} {gs : Array GenState} {d : Drawn} {tk : Nat} {os : OsState} {news : List (Addr × Obj)} {env : Env}
theorem compBlockS {elt iter target : PySem.Expr} {ifs : List PySem.Expr} {scope : Scope} {cl : List (Str × Addr)} {pos : Pos} {I : Addr} {Q : Value → Shared → Prop}
    (hcell : ∀ y ∈ scope.names, y.2 ≠ .cell) (hkind : scope.kind = .function) (X : Gd K p loose mg mb G) (hG : Kept [] G h) (ex : List Addr) (hex : ∀ a ∈ ex, G.get? a = none)
    (hnews : ∀ q ∈ news, h.get? q.1 = some q.2 ∧ q.1 ∈ ex)
    (hself : ∀ (h' : Heap) (tk' : Nat) (E' : Value → Shared → Prop) (Q' : Value → Shared → Prop), (∀ b o, h.get? b = some o → h'.get? b = some o) → Q' (.ref I) ⟨h', gs, d, tk', os⟩ → wpAny (model prog w) A (pyIter (.ref I)) Q' E' ⟨h', gs, d, tk', os⟩)
    (loop : ∀ D C g h₁ tk₁, Gd K p loose mg mb g → (∀ b o, h.get? b = some o → b ∉ ex → g.get? b = some o) → h.objs.size ≤ g.objs.size → Fr g C h₁ none0 → News g C h₁ ((D, listOf #[] 0) :: news) → h.get? D = none →
      codeAny (model prog w) A (.compLoop (.ListComp elt [⟨target, iter, ifs, 0⟩] scope pos) 0 (.ref I) (.ref D) (compEnvC scope cl C env)) (fun r s' => r = .ok .next ∧ ∃ h' tk' m' nw, s' = ⟨h', gs, d, tk', os⟩ ∧ Fr g C h' m' ∧ News g C h' nw ∧
        ∀ h'' tk'', (∀ q ∈ nw, h''.get? q.1 = some q.2) → Kept ex h h'' → Q (.ref D) ⟨h'', gs, d, tk'', os⟩) ⟨h₁, gs, d, tk₁, os⟩) :
    wpAny (model prog w) A (newList []) (fun acc s₃ => wpAny (model prog w) A (newFunctionEnv scope env.globals cl [] env.qual none .none (some env)) (fun cenv s₄ =>
      codeAny (model prog w) A (.compStart (.ListComp elt [⟨target, iter, ifs, 0⟩] scope pos) 0 (.ref I) acc { cenv with scope := relabel scope env }) (compPost (model prog w) A E none Q acc cenv.locals) s₄) E s₃) E ⟨h, gs, d, tk, os⟩ := by
  refine wpAny_newObj_type (wpAny_newFunctionEnv hcell (by intro y hy; simp at hy) (fun h₁ hns₁ hsb₁ => ?_) hkind)
  dsimp only at hns₁ hsb₁ ⊢
  generalize hH2 : h.push { cls := .type "list", dict := none, data := .seq ([] : List Value).toArray } = H2 at hns₁ hsb₁ ⊢
  have hsz : H2.objs.size = h.objs.size + 1 := by rw [← hH2, psz]
  have hk0 : ∀ b x, h.get? b = some x → H2.get? b = some x := fun b x e => hH2 ▸ Heap.get?_push_of_some _ e
  have hD : H2.get? h.objs.size = some (listOf #[] 0) := hH2 ▸ Heap.get?_push_size _ rfl
  have hDn : h.get? h.objs.size = none := by
    cases e : h.get? h.objs.size with
    | none => rfl
    | some x => exact absurd (Heap.lt_size e) (Nat.lt_irrefl _)
  have hk₁ : ∀ b x, H2.get? b = some x → h₁.get? b = some x := fun b x e => hsb₁.extBut b x (Nat.ne_of_lt (Heap.lt_size e)) (Heap.get?_push_of_some _ e)
  have hsub : ∀ b x, h.get? b = some x → b ∉ ex → (hideAll H2 (h.objs.size :: ex)).get? b = some x := fun b x e n =>
    hideAll_get _ (hk0 b x e) fun q => by
      rcases List.mem_cons.mp q with q | q
      · rw [q, hDn] at e; cases e
      · exact n q
  have hle : h.objs.size ≤ (hideAll H2 (h.objs.size :: ex)).objs.size := by rw [hideAll_size, hsz]; exact Nat.le_succ _
  have hGg : Kept [] G (hideAll H2 (h.objs.size :: ex)) := ⟨fun b x e _ => hsub b x (hG.get e) (fun q => by rw [hex b q] at e; exact nomatch e), Nat.le_trans hG.2 hle⟩
  have F : Fr (hideAll H2 (h.objs.size :: ex)) H2.objs.size h₁ none0 := ⟨hns₁, fun b x e => hk₁ b x (of_hideAll _ e), Nat.le_of_eq (hideAll_size _ _)⟩
  have N : News (hideAll H2 (h.objs.size :: ex)) H2.objs.size h₁ ((h.objs.size, listOf #[] 0) :: news) := fun q hq => by
    rcases List.mem_cons.mp hq with rfl | hq
    · exact ⟨hk₁ _ _ hD, Nat.ne_of_lt (Heap.lt_size hD), hideAll_none _ (.head _)⟩
    · have z := hnews q hq
      exact ⟨hk₁ _ _ (hk0 _ _ z.1), Nat.ne_of_lt (Heap.lt_size (hk0 _ _ z.1)), hideAll_none _ (.tail _ z.2)⟩
  have L := loop h.objs.size H2.objs.size (hideAll H2 (h.objs.size :: ex)) h₁ (tk + ([] : List (Str × Value)).length) (X.keeps hGg) hsub hle F N hDn
  have L' : codeAny (model prog w) A (.compLoop (.ListComp elt [⟨target, iter, ifs, 0⟩] scope pos) 0 (.ref I) (.ref h.objs.size) (compEnvC scope cl H2.objs.size env)) (compPost (model prog w) A E none Q (.ref h.objs.size) H2.objs.size) ⟨h₁, gs, d, tk + ([] : List (Str × Value)).length, os⟩ := by
    refine codeAny_mono L fun r s' q => ?_
    obtain ⟨rfl, h', tk', m', nw, rfl, F', N', hq⟩ := q
    refine ⟨m', F'.ns, fun h'' hs => ?_⟩
    refine hq h'' tk' (fun q hq => (hs.2 q.1 (N' q hq).2.1).trans (N' q hq).1) ⟨fun b o e n => ?_, ?_⟩
    · refine (hs.2 b ?_).trans (F'.keep b o (hsub b o e n))
      rintro rfl
      exact absurd (Heap.lt_size e) (by rw [hsz]; exact Nat.not_lt.mpr (Nat.le_succ _))
    · refine Nat.le_trans hle (Nat.le_trans F'.above ?_)
      exact Nat.le_trans (Nat.le_of_lt F'.ns.lt) (Nat.le_of_eq hs.1.symm)
  exact codeAny_compStart_list L' (hself _ _ _ _ (fun b o e => hk₁ b o (hk0 b o e)) L')
end
end

section
set_option maxRecDepth 100000
set_option maxHeartbeats 4000000
open PySem PySem.W PyProof.Rows PySem.Calls
section
variable {prog : Program} {w : World} {A : Around} {g h : Heap} {gs : Array GenState} {d : Drawn} {tk : Nat} {os : OsState} {L it : Addr} {m : Str → Option Value} {news : List (Addr × Obj)} {E : Value → Shared → Prop} {env : Env}
theorem listComp {M : Model} {s : Shared} {elt iter target : PySem.Expr} {ifs : List PySem.Expr} {scope : Scope} {cl : List (Str × Addr)} {pos : Pos} {Q : Value → Shared → Prop}
    (hclos : closureFor scope env = pure cl) (hkind : scope.kind = .function) (hnames : ∀ x ∈ scope.names, x.2 = .local → scope.names.lookup x.1 = some .local)
    (h : wpAny M A (eval iter env) (fun x s₁ => wpAny M A (pyIter x) (fun it s₂ => wpAny M A (newList []) (fun acc s₃ => wpAny M A (newFunctionEnv scope env.globals cl [] env.qual none .none (some env)) (fun cenv s₄ =>
      codeAny M A (.compStart (.ListComp elt [⟨target, iter, ifs, 0⟩] scope pos) 0 it acc { cenv with scope := relabel scope env }) (compPost M A E none Q acc cenv.locals) s₄) E s₃) E s₂) E s₁) E s)
    (hs : ∀ x, foldedSetIterable iter env x = pure x := by intro _; rfl) :
    wpAny M A (eval (.ListComp elt [⟨target, iter, ifs, 0⟩] scope pos) env) Q E s := by
  rw [eval_ListComp]
  exact wpAny_comprehension_free (use := none) rfl hs hclos hkind hnames h
/-- a local name is set, in any surroundings -/
theorem stE {M : Model} {x : Str} {v : Value} {Q : Unit → Shared → Prop} (F : Fr g env.locals h m) (N : News g env.locals h news)
    (hq : ∀ h' tk', Fr g env.locals h' (upd m x v) → News g env.locals h' news → Q () ⟨h', gs, d, tk', os⟩)
    (hl : env.kindOf x = some .local) (hk : (env.scope.kind == .class || (env.scope.kind == .module && env.locals != env.globals)) = false) :
    wpAny M A (storeName env x v) Q E ⟨h, gs, d, tk, os⟩ :=
  wpAny_storeName_local (s := ⟨h, gs, d, tk, os⟩) hl F.ns (fun h' hn hs => hq h' _ (F.set hn hs) (N.set hs)) hk
end
end

section
set_option maxRecDepth 100000
set_option maxHeartbeats 4000000
open PySem PySem.W PyProof.Rows PySem.Calls
section
variable {prog : Program} {w : World} {A : Around} {hp : Heap} {gs : Array GenState} {d : Drawn} {tk : Nat} {os : OsState} {K : Frag} {p : Program} {loose : List Str} {mg mb : Str → Option Value} {G : Heap} {news : List (Addr × Obj)}
/-- the call of a def some of whose names are cells -/
theorem enterK {f : Addr} {name qual : Str} {params : Arguments} {body : List Stmt} {scope : Scope}
    {dV kV doc pm cdv ct oc : Value} {an od : Option Addr} {osl : Array (Option Value)} {vs : List Value} {kw : List (Str × Value)} {binds : List (Str × Value)} {Q E : Value → Shared → Prop}
    (X : Gd K p loose mg mb G) (hG : Kept [] G hp) (ex : List Addr) (hex : ∀ a ∈ ex, G.get? a = none)
    (hnews : ∀ p ∈ news, hp.get? p.1 = some p.2 ∧ p.1 ∈ ex)
    (ho : K.lookup f = some ⟨oc, od, .func (fnOf name qual params body scope dV kV doc pm an cdv ct), osl⟩) (hcd : codeIn K cdv qual = true) (hroom : A.depth < recursionLimit)
    (hbind : BindsTo ⟨hp, gs, d, tk, os⟩ (fnOf name qual params body scope dV kV doc pm an cdv ct) ⟨vs, kw⟩ binds)
    (hkind : ∀ n, ∀ x ∈ binds, scope.names.lookup x.1 = some .local ∨ (scope.names.lookup x.1 = some .cell ∧ ((cellsFrom n scope.names []).lookup x.1).isSome = true))
    (hnd : ((cellsFrom 0 scope.names []).map (·.1)).Nodup)
    (h : ∀ g L h₁ tk₁ cells, Gd K p loose mg mb g → (∀ b o, hp.get? b = some o → b ∉ ex → g.get? b = some o) → g.objs.size = hp.objs.size → Fr g L h₁ (bindL (envOfC qual scope L f cdv).kindOf binds fun _ => none) →
      News g L h₁ (cells ++ news) → CellsAre (bindC (envOfC qual scope L f cdv).kindOf binds fun _ => none) (cellsFrom (L + 1) scope.names []) cells → (∀ p ∈ news, p.1 < L) →
      wpAny (model prog w) (A.deeper (envOfC qual scope L f cdv)) (execs body (envOfC qual scope L f cdv))
        (fun fl s' => Q (match fl with | .ret v => v | _ => .none) s') (fun _ _ => False) ⟨h₁, gs, d, tk₁, os⟩)
    (hco : scope.isCoroutine = false := by rfl) (hgen : scope.isGenerator = false := by rfl) (hk : scope.kind = .function := by rfl) :
    wpAny (model prog w) A (call (.ref f) vs kw) Q E ⟨hp, gs, d, tk, os⟩ := by
  have Y := X.keeps hG
  refine wpAny_call ?_
  refine codeAny_call_function (fd := fnOf name qual params body scope dV kV doc pm an cdv ct) (body := body) hroom (Y.X _ _ ho) rfl hco hgen rfl (codeRec_of Y.X hcd) (hbind _ _ _ _ ?_)
  refine wpAny_newFunctionEnv_cells hk (hkind _) fun env' he s' x => ?_
  subst he
  refine ⟨Y.T.nolimit.keeps x.toInCall.keep, codeAny_func ?_⟩
  obtain ⟨h₁, tk₁, rfl, _⟩ := x.done
  have hk₁ := x.toInCall.keep
  have hsub : ∀ b o, hp.get? b = some o → b ∉ ex → (hideAll hp ex).get? b = some o := fun b o e n => hideAll_get ex e n
  have hGg : Kept [] G (hideAll hp ex) := ⟨fun b o e _ => hsub b o (hG.get e) (fun q => by rw [hex b q] at e; exact nomatch e), (hideAll_size ex hp).symm ▸ hG.2⟩
  obtain ⟨cells, NC, Z⟩ := Cl.news (h₀ := hp) (Nat.le_refl _) fun n c hm => ⟨x.cell n c (lookup_of_mem_nodup (cellsFrom_names scope.names 0 (hp.objs.size + 1) [] [] rfl ▸ hnd) hm), x.above n c hm⟩
  refine wpAny_mono (h (hideAll hp ex) hp.objs.size h₁ tk₁ cells (X.keeps hGg) hsub (hideAll_size _ _) ⟨x.toInCall.ns, fun b o e => hk₁ b o (of_hideAll _ e), Nat.le_of_eq (hideAll_size _ _)⟩ (fun q hq => ?_) Z (fun q hq => Heap.lt_size (hnews q hq).1)) (fun _ _ x => x) fun _ _ x => x.elim
  rcases List.mem_append.mp hq with hq | hq
  · refine ⟨(NC q hq).1, (NC q hq).2.1, ?_⟩
    cases e : (hideAll hp ex).get? q.1 with
    | none => rfl
    | some o =>
      have z := (NC q hq).2.2
      rw [of_hideAll _ e] at z
      cases z
  · exact ⟨hk₁ _ _ (hnews q hq).1, Nat.ne_of_lt (Heap.lt_size (hnews q hq).1), hideAll_none _ (hnews q hq).2⟩
end
end

section
set_option maxRecDepth 100000
set_option maxHeartbeats 4000000
open PySem PySem.W PyProof.Rows PySem.Calls
/-- the headers: refs to pairs of strs -/
noncomputable def Rows (h : Heap) : List (Str × Str) → List Value → Prop
  | [], [] => True
  | (a, b) :: hs, v :: vs => (∃ r t t', v = .ref r ∧ h.get? r = some { cls := .type "tuple", data := .seq #[.str a t, .str b t'] }) ∧ Rows h hs vs
  | _, _ => False
theorem Rows.length {h : Heap} : ∀ {hs : List (Str × Str)} {vs : List Value}, Rows h hs vs → vs.length = hs.length
  | [], [], _ => rfl
  | (_, _) :: hs, _ :: vs, x => by simp [Rows.length x.2]
theorem Rows.mono {h h' : Heap} (hk : ∀ b o, o.cls = .type "tuple" → h.get? b = some o → h'.get? b = some o) : ∀ {hs : List (Str × Str)} {vs : List Value}, Rows h hs vs → Rows h' hs vs
  | [], [], _ => trivial
  | (_, _) :: hs, _ :: vs, ⟨⟨r, t, t', e, e'⟩, x⟩ => ⟨⟨r, t, t', e, hk r _ rfl e'⟩, Rows.mono hk x⟩
theorem Rows.snoc {h : Heap} {a b : Str} {r : Addr} {t t' : Tok} (e : h.get? r = some { cls := .type "tuple", data := .seq #[.str a t, .str b t'] }) : ∀ {hs : List (Str × Str)} {vs : List Value}, Rows h hs vs → Rows h (hs ++ [(a, b)]) (vs ++ [.ref r])
  | [], [], _ => ⟨⟨r, t, t', rfl, e⟩, trivial⟩
  | (_, _) :: _, _ :: _, x => ⟨x.1, Rows.snoc e x.2⟩
theorem Rows.get {h : Heap} : ∀ {hs : List (Str × Str)} {vs : List Value} {k : Nat}, Rows h hs vs → (hk : k < hs.length) →
    ∃ r t t', vs.getD k .none = .ref r ∧ h.get? r = some { cls := .type "tuple", data := .seq #[.str (hs.getD k default).1 t, .str (hs.getD k default).2 t'] }
  | (a, b) :: hs, v :: vs, 0, x, _ => by obtain ⟨r, t, t', e, e'⟩ := x.1; exact ⟨r, t, t', e, e'⟩
  | (a, b) :: hs, v :: vs, k + 1, x, hk => Rows.get (k := k) x.2 (by simpa using hk)
end

section
set_option maxRecDepth 100000
set_option maxHeartbeats 4000000
open PySem PySem.W PyProof.Rows PySem.Calls
section
variable {M : Model} {A : Around} {E : Value → Shared → Prop} {s : Shared}
theorem tests0 {env : Env} {Q : Bool → Shared → Prop} (h : Q true s) : wpAny M A (testsOf [] env) Q E s := wpAny_pure h
theorem tests1 {env : Env} {c : PySem.Expr} {Q : Bool → Shared → Prop} (h : wpAny M A (isTrue c env (eval c env)) Q E s) : wpAny M A (testsOf [c] env) Q E s := by
  unfold testsOf
  rw [List.forIn_cons]
  simp only [if_true]
  refine wpAny_bind (wpAny_bind (wpAny_mono h (fun b s' hb => wpAny_pure ?_) fun _ _ x => x))
  dsimp only
  rw [List.forIn_nil]
  exact wpAny_pure hb
end
end

section
set_option maxRecDepth 100000
set_option maxHeartbeats 4000000
open PySem PySem.W PyProof.Rows PySem.Calls
/-- an iterator that goes over n items, each told by a property -/
structure StepsR (prog : Program) (w : World) (A : Around) (g : Heap) (L it : Addr) (n : Nat) (x : Nat → Value → Prop) (ok : Nat → Obj → Prop) : Prop where
  item : ∀ {k : Nat} {h : Heap} {gs : Array GenState} {d : Drawn} {tk : Nat} {os : OsState} {m : Str → Option Value} {nw : List (Addr × Obj)} {o : Obj} {E : Value → Shared → Prop} {Q : Option Value → Shared → Prop},
    k < n → Fr g L h m → News g L h ((it, o) :: nw) → (∀ p ∈ nw, p.1 ≠ it) → ok k o → (∀ v h' tk' o', x k v → Fr g L h' m → News g L h' ((it, o') :: nw) → ok (k + 1) o' → Q (some v) ⟨h', gs, d, tk', os⟩) →
    wpAny (model prog w) A (pyNext (.ref it)) Q E ⟨h, gs, d, tk, os⟩
  fin : ∀ {h : Heap} {gs : Array GenState} {d : Drawn} {tk : Nat} {os : OsState} {m : Str → Option Value} {nw : List (Addr × Obj)} {o : Obj} {E : Value → Shared → Prop} {Q : Option Value → Shared → Prop},
    Fr g L h m → News g L h ((it, o) :: nw) → (∀ p ∈ nw, p.1 ≠ it) → ok n o → (∀ h', Fr g L h' m → News g L h' nw → Q none ⟨h', gs, d, tk, os⟩) →
    wpAny (model prog w) A (pyNext (.ref it)) Q E ⟨h, gs, d, tk, os⟩
section
variable {prog : Program} {w : World} {A : Around} {g h : Heap} {gs : Array GenState} {d : Drawn} {tk : Nat} {os : OsState} {L it : Addr} {m : Str → Option Value} {news rest : List (Addr × Obj)} {E : Value → Shared → Prop} {env : Env}
  {K : Frag} {p : Program} {loose : List Str} {mg mb : Str → Option Value}
theorem Steps.toR {n : Nat} {x : Nat → Value} {ok : Nat → Obj → Prop} (W : Steps prog w A g L it n x ok fun _ => True) : StepsR prog w A g L it n (fun k v => v = x k) ok where
  item := fun hk F N hn ho hq => W.item hk F N hn ho trivial fun h' o' F' N' ok' _ => hq _ h' _ o' rfl F' N' ok'
  fin := fun F N hn ho hq => W.fin F N hn ho trivial hq
noncomputable def rangeOk (k : Nat) (n : Nat) (o : Obj) : Prop := o = rangeIt (k : Int) ((n : Int) - k) 1
theorem StepsR.range {n : Nat} (hh : A.handled = none) : StepsR prog w A g L it n (fun k v => ∃ t, v = .int k t) (fun k o => rangeOk k n o) where
  item := by
    intro k h gs d tk os m nw o E Q hk F N hn ho hq
    subst ho
    refine nextR F N hn (by omega) fun h' tk' t F' N' => ?_
    exact hq _ h' tk' _ ⟨t, rfl⟩ F' N' (by unfold rangeOk; congr 1; omega)
  fin := by
    intro h gs d tk os m nw o E Q F N hn ho hq
    subst ho
    exact nextR0 hh F N hn (by omega) hq

theorem compTurns {g2 h3 : Heap} {C D : Addr} {m3 : Str → Option Value} {tk3 : Nat} {elt iter target : PySem.Expr} {ifs : List PySem.Expr} {scope : Scope} {pos : Pos} {o : Obj} {n : Nat} {x : Nat → Value → Prop} {ok : Nat → Obj → Prop}
    (V : StepsR prog w A g2 C it n x ok) (hDi : D ≠ it) (F3 : Fr g2 C h3 m3) (N4 : News g2 C h3 [(it, o), (D, listOf #[] 0)]) (h0 : ok 0 o) (hsz : n ≤ 1000) (R : Nat → List Value → Prop) (hR : R 0 [])
    (turn : ∀ k v us h6 tk6 m6 o' nw, k < n → x k v → Fr g2 C h6 m6 → News g2 C h6 nw → (it, o') ∈ nw → ok (k + 1) o' → R k us →
      wpAny (model prog w) A (letOwnedTupleGo target (.ref it) v) (fun _ s₁ => wpAny (model prog w) A (assign target env v) (fun _ s₂ =>
        wpAny (model prog w) A (testsOf ifs env) (fun b s₃ => if b = true then wpAny (model prog w) A (eval elt env) (fun v s₄ => At g2 C gs d os (fun _ nw' => nw' = nw ∧ R (k + 1) (us ++ [v])) s₄) (fun _ _ => False) s₃
          else At g2 C gs d os (fun _ nw' => nw' = nw ∧ R (k + 1) us) s₃) (fun _ _ => False) s₂) (fun _ _ => False) s₁) (fun _ _ => False) ⟨h6, gs, d, tk6, os⟩) :
    codeAny (model prog w) A (.compLoop (.ListComp elt [⟨target, iter, ifs, 0⟩] scope pos) 0 (.ref it) (.ref D) env) (fun r s' => r = .ok .next ∧ At g2 C gs d os (fun _ nw => ∃ us c, nw = [(D, listOf us.toArray c)] ∧ R n us ∧ us.length ≤ n) s') ⟨h3, gs, d, tk3, os⟩ := by
  refine compLoopG (fun j s => At g2 C gs d os (fun m nw => ∃ k o us c, j = n - k ∧ k ≤ n ∧ nw = [(it, o), (D, listOf us.toArray c)] ∧ ok k o ∧ R k us ∧ us.length ≤ k) s) ?_ n (At.mk F3 N4 ⟨0, o, [], 0, rfl, Nat.zero_le _, rfl, h0, hR, Nat.le_refl _⟩)
  rintro j s ⟨h₁, tk₁, m₁, nw₁, rfl, F₁, N₁, k, o₁, us, c, rfl, hk, rfl, hok, hI, hul⟩
  have hne : ∀ p ∈ [(D, listOf us.toArray c)], p.1 ≠ it := fun q hq => by rw [List.mem_singleton.mp hq]; exact hDi
  by_cases hlt : k < n
  · refine V.item hlt F₁ N₁ hne hok fun v h' tk' o' hv F' N' ok' => ?_
    refine wpAny_mono (turn k v us h' tk' m₁ o' _ hlt hv F' N' (.head _) ok' hI) (fun _ s₁ q => wpAny_mono q (fun _ s₂ q => wpAny_mono q (fun b s₃ q => ?_) fun _ _ x => x) fun _ _ x => x) fun _ _ x => x
    cases b with
    | false =>
      simp only [Bool.false_eq_true, if_false] at q ⊢
      obtain ⟨h', tk', m', nw, rfl, F', N', rfl, hr⟩ := q
      exact ⟨n - (k + 1), by omega, h', tk', m', _, rfl, F', N', k + 1, o', us, c, rfl, by omega, rfl, ok', hr, by omega⟩
    | true =>
      simp only [if_true] at q ⊢
      refine wpAny_mono q (fun v s₄ q => ?_) fun _ _ x => x
      obtain ⟨h', tk', m', nw, rfl, F', N', rfl, hr⟩ := q
      refine appendM (B := 1000) F' N' (.tail _ (.head _)) (by omega) (.tail (Ne.symm hDi) (.head (by simp))) fun h'' F'' N'' => ?_
      exact ⟨n - (k + 1), by omega, h'', _, m', _, rfl, F'', N'', k + 1, o', us ++ [v], c + 1, rfl, by omega, rfl, ok', hr, by simp; omega⟩
  · obtain rfl : k = n := by omega
    exact V.fin F₁ N₁ hne hok fun h' F' N' => ⟨rfl, At.mk F' N' ⟨us, c, rfl, hI, hul⟩⟩
theorem compG {elt iter target : PySem.Expr} {ifs : List PySem.Expr} {scope : Scope} {cl : List (Str × Addr)} {pos : Pos} {o : Obj} {Q : Value → Shared → Prop} {n : Nat} {x : Nat → Value → Prop} {ok : Nat → Obj → Prop}
    (hcell : ∀ y ∈ scope.names, y.2 ≠ .cell) (hkind : scope.kind = .function) (Y : Gd K p loose mg mb g) (F : Fr g L h m) (N : News g L h ((it, o) :: rest)) (hn : ∀ p ∈ rest, p.1 ≠ it)
    (hself : ∀ (h' : Heap) (tk' : Nat) (E' : Value → Shared → Prop) (Q' : Value → Shared → Prop), (∀ b o, h.get? b = some o → h'.get? b = some o) → Q' (.ref it) ⟨h', gs, d, tk', os⟩ → wpAny (model prog w) A (pyIter (.ref it)) Q' E' ⟨h', gs, d, tk', os⟩)
    (W : ∀ g2 C, (∀ b o, h.get? b = some o → b ≠ it → g2.get? b = some o) → StepsR prog w A g2 C it n x ok) (h0 : ok 0 o) (hsz : n ≤ 1000)
    (R : Nat → List Value → Prop) (hR : R 0 [])
    (turn : ∀ k v us g2 C h6 tk6 m6 o' nw, k < n → x k v → Gd K p loose mg mb g2 → (∀ b o, h.get? b = some o → b ≠ it → g2.get? b = some o) → h.objs.size ≤ g2.objs.size → Fr g2 C h6 m6 → News g2 C h6 nw → (it, o') ∈ nw → ok (k + 1) o' → R k us →
      wpAny (model prog w) A (letOwnedTupleGo target (.ref it) v) (fun _ s₁ => wpAny (model prog w) A (assign target (compEnvC scope cl C env) v) (fun _ s₂ =>
        wpAny (model prog w) A (testsOf ifs (compEnvC scope cl C env)) (fun b s₃ => if b = true then wpAny (model prog w) A (eval elt (compEnvC scope cl C env)) (fun v s₄ => At g2 C gs d os (fun _ nw' => nw' = nw ∧ R (k + 1) (us ++ [v])) s₄) (fun _ _ => False) s₃
          else At g2 C gs d os (fun _ nw' => nw' = nw ∧ R (k + 1) us) s₃) (fun _ _ => False) s₂) (fun _ _ => False) s₁) (fun _ _ => False) ⟨h6, gs, d, tk6, os⟩)
    (hQ : ∀ h' tk' D us c, Fr g L h' m → News g L h' ((D, listOf us.toArray c) :: rest) → R n us → us.length ≤ n → (∀ p ∈ rest, p.1 ≠ D) → h.get? D = none → Q (.ref D) ⟨h', gs, d, tk', os⟩) :
    wpAny (model prog w) A (newList []) (fun acc s₃ => wpAny (model prog w) A (newFunctionEnv scope env.globals cl [] env.qual none .none (some env)) (fun cenv s₄ =>
      codeAny (model prog w) A (.compStart (.ListComp elt [⟨target, iter, ifs, 0⟩] scope pos) 0 (.ref it) acc { cenv with scope := relabel scope env }) (compPost (model prog w) A E none Q acc cenv.locals) s₄) E s₃) E ⟨h, gs, d, tk, os⟩ := by
  have z := N _ (.head _)
  refine compBlockS (news := [(it, o)]) hcell hkind Y (Kept.ofFr F) [it] ?_ ?_ hself ?_
  · intro a ha
    rw [List.mem_singleton.mp ha]; exact z.2.2
  · exact fun q hq => by rw [List.mem_singleton.mp hq]; exact ⟨z.1, .head _⟩
  · intro D C g2 h3 tk3 Y2 hgs2 hgz2 F3 N3 hD
    have hgs' : ∀ b o, h.get? b = some o → b ≠ it → g2.get? b = some o := fun b o e n => hgs2 b o e (by simp [n])
    have hDi : D ≠ it := fun e => by rw [e, z.1] at hD; cases hD
    have N4 : News g2 C h3 [(it, o), (D, listOf #[] 0)] := fun q hq => by
      rcases List.mem_cons.mp hq with rfl | hq
      · exact N3 _ (.tail _ (.head _))
      · rw [List.mem_singleton.mp hq]; exact N3 _ (.head _)
    have V := W g2 C hgs'
    refine codeAny_mono (compTurns V hDi F3 N4 h0 hsz R hR fun k v us h6 tk6 m6 o' nw hk hv F6 N6 hm ok6 hr => turn k v us g2 C h6 tk6 m6 o' nw hk hv Y2 hgs' hgz2 F6 N6 hm ok6 hr) ?_
    · rintro r s' ⟨rfl, h', tk', m', nw, rfl, F', N', us, c, rfl, hr, hul⟩
      refine ⟨rfl, h', tk', m', _, rfl, F', N', fun h'' tk'' hh'' k'' => ?_⟩
      have hLi : L ∉ [it] := by simpa using Ne.symm z.2.1
      refine hQ h'' tk'' D us c (fr_back F k'' hLi (fun a ha => by rw [List.mem_singleton.mp ha]; exact z.2.2)) ?_ hr hul ?_ hD
      · intro q hq
        rcases List.mem_cons.mp hq with rfl | hq
        · refine ⟨hh'' _ (.head _), ?_, ?_⟩
          · rintro rfl
            obtain ⟨oL, _, _, q, _⟩ := F.ns
            rw [hD] at q; cases q
          · cases hg : g.get? D with
            | none => rfl
            | some o' => rw [F.keep D o' hg] at hD; cases hD
        · have zq := N q (.tail _ hq)
          exact ⟨k''.1 _ _ zq.1 (by simpa using hn q hq), zq.2⟩
      · intro q hq e
        have zq := (N q (.tail _ hq)).1
        rw [e, hD] at zq; cases zq
/-- over a list -/
theorem compList {elt iter target : PySem.Expr} {ifs : List PySem.Expr} {scope : Scope} {cl : List (Str × Addr)} {pos : Pos} {l : Addr} {xs : List Value} {c : Nat} {Q : Value → Shared → Prop}
    (Y : Gd K p loose mg mb g) (F : Fr g L h m) (N : News g L h rest) (e : h.get? l = some (listOf xs.toArray c)) (hsz : xs.length ≤ 1000)
    (R : Nat → List Value → Prop) (hR : R 0 [])
    (turn : ∀ k us g2 C h6 tk6 m6 o' nw it, k < xs.length → Gd K p loose mg mb g2 → (∀ b o, h.get? b = some o → g2.get? b = some o) → h.objs.size ≤ g2.objs.size → Fr g2 C h6 m6 → News g2 C h6 nw → (it, o') ∈ nw → listItOk l (k + 1) o' → R k us →
      wpAny (model prog w) A (letOwnedTupleGo target (.ref it) (xs.getD k .none)) (fun _ s₁ => wpAny (model prog w) A (assign target (compEnvC scope cl C env) (xs.getD k .none)) (fun _ s₂ =>
        wpAny (model prog w) A (testsOf ifs (compEnvC scope cl C env)) (fun b s₃ => if b = true then wpAny (model prog w) A (eval elt (compEnvC scope cl C env)) (fun v s₄ => At g2 C gs d os (fun _ nw' => nw' = nw ∧ R (k + 1) (us ++ [v])) s₄) (fun _ _ => False) s₃
          else At g2 C gs d os (fun _ nw' => nw' = nw ∧ R (k + 1) us) s₃) (fun _ _ => False) s₂) (fun _ _ => False) s₁) (fun _ _ => False) ⟨h6, gs, d, tk6, os⟩)
    (hQ : ∀ h' tk' D us c, Fr g L h' m → News g L h' ((D, listOf us.toArray c) :: rest) → R xs.length us → us.length ≤ xs.length → (∀ p ∈ rest, p.1 ≠ D) → h.get? D = none → Q (.ref D) ⟨h', gs, d, tk', os⟩)
    (hh : A.handled = none := by exact rfl) (hcell : ∀ y ∈ scope.names, y.2 ≠ .cell := by decide) (hkind : scope.kind = .function := by rfl) :
    wpAny (model prog w) A (pyIter (.ref l)) (fun itv s₂ => wpAny (model prog w) A (newList []) (fun acc s₃ => wpAny (model prog w) A (newFunctionEnv scope env.globals cl [] env.qual none .none (some env)) (fun cenv s₄ =>
      codeAny (model prog w) A (.compStart (.ListComp elt [⟨target, iter, ifs, 0⟩] scope pos) 0 itv acc { cenv with scope := relabel scope env }) (compPost (model prog w) A E none Q acc cenv.locals) s₄) E s₃) E s₂) E ⟨h, gs, d, tk, os⟩ := by
  refine wpAny_pyIter_list (s := ⟨h, gs, d, tk, os⟩) (PySem.IsL.isList e) ?_
  have hpush : ∀ b o, h.get? b = some o → (h.push { cls := .type "list_iterator", data := .fields #[.ref l, .int 0 0] }).get? b = some o := fun b o e => Heap.get?_push_of_some _ e
  have hne : ∀ b o, h.get? b = some o → b ≠ h.objs.size := fun b o e => Nat.ne_of_lt (Heap.lt_size e)
  refine compG (n := xs.length) (x := fun k v => v = xs.getD k .none) (ok := listItOk l) hcell hkind Y (F.push _) (News.push F N _) (fun p hp => hne _ _ (N p hp).1) ?_ ?_ ⟨rfl, rfl⟩ hsz R hR ?_ ?_
  · intro h' tk' E' Q' hk hq
    exact wpAny_pyIter_listiter (s := ⟨h', _, _, _, _⟩) ⟨_, hk _ _ (Heap.get?_push_size _ rfl), rfl, rfl⟩ hq
  · exact fun g2 C hgs2 => Steps.toR (Steps.list hh fun h1 m1 nw F1 _ _ => ⟨c, F1.keep _ _ (hgs2 _ _ (hpush _ _ e) (hne _ _ e))⟩)
  · rintro k v us g2 C h6 tk6 m6 o' nw hk rfl Y2 hgs2 hz F6 N6 hm ok6 hr
    exact turn k us g2 C h6 tk6 m6 o' nw _ hk Y2 (fun b o e => hgs2 b o (hpush _ _ e) (hne _ _ e)) (Nat.le_trans (Nat.le_of_lt (by rw [psz]; exact Nat.lt_succ_self _)) hz) F6 N6 hm ok6 hr
  · intro h' tk' D us c' F' N' hr hul hD hn
    refine hQ h' tk' D us c' F' N' hr hul hD ?_
    cases e' : h.get? D with
    | none => rfl
    | some o' => rw [hpush _ _ e'] at hn; cases hn
end
end

section
set_option maxRecDepth 100000
set_option maxHeartbeats 4000000
open PySem PySem.W PyProof.Rows PySem.Calls
abbrev tup (a b : Value) : Obj := { cls := .type "tuple", data := .seq #[a, b] }
/-- what an env tells of its function and a local name -/
structure FnEnv (env : Env) : Prop where
  k : env.scope.kind = .function
  c : (env.scope.kind == .class || (env.scope.kind == .module && env.locals != env.globals)) = false
  gl : env.globals = mainGlobals
  bl : env.builtins = builtinsNs
section
variable {prog : Program} {w : World} {A : Around} {g h : Heap} {gs : Array GenState} {d : Drawn} {tk : Nat} {os : OsState} {L it : Addr} {m : Str → Option Value} {news rest : List (Addr × Obj)} {E : Value → Shared → Prop} {env : Env}
  {K : Frag} {p : Program} {loose : List Str} {mg mb : Str → Option Value}
theorem kept_all {hp h' : Heap} (news0 : List (Addr × Obj)) {nw : List (Addr × Obj)} (h0 : ∀ p ∈ news0, hp.get? p.1 = some p.2) (hs : ∀ b o, hp.get? b = some o → b ∉ news0.map (·.1) → g.get? b = some o) (F : Fr g L h' m) (N : News g L h' nw) (sub : ∀ p ∈ news0, p ∈ nw) :
    ∀ b o, hp.get? b = some o → h'.get? b = some o := fun b o e => by
  by_cases hb : b ∈ news0.map (·.1)
  · obtain ⟨p, hp', rfl⟩ := List.mem_map.mp hb
    have := h0 p hp'
    rw [e] at this
    rw [Option.some.inj this]
    exact (N p (sub p hp')).1
  · exact F.keep b o (hs b o e hb)
theorem pair0 {value slice : PySem.Expr} {r : Addr} {a b : Value} {t : Tok} {Q : Value → Shared → Prop} (e : h.get? r = some (tup a b)) (hq : Q a ⟨h, gs, d, tk, os⟩)
    (hs : subscripted slice false (.ref r) (.int 0 t) = operate [.ref r, .int 0 t] (getItem (.ref r) (.int 0 t)) := by with_unfolding_all rfl) (hg : ∀ x, letTemporaryGo value (.ref r) x = pure () := by intro _; rfl) :
    wpAny (model prog w) A (subscriptTail value slice (.ref r) (.int 0 t)) Q E ⟨h, gs, d, tk, os⟩ :=
  item_tuple (s := ⟨h, gs, d, tk, os⟩) (j := 0) ⟨_, e, rfl, _, rfl⟩ (by decide) (by decide) rfl rfl hq hs hg
theorem pair1 {value slice : PySem.Expr} {r : Addr} {a b : Value} {t : Tok} {Q : Value → Shared → Prop} (e : h.get? r = some (tup a b)) (hq : Q b ⟨h, gs, d, tk, os⟩)
    (hs : subscripted slice false (.ref r) (.int 1 t) = operate [.ref r, .int 1 t] (getItem (.ref r) (.int 1 t)) := by with_unfolding_all rfl) (hg : ∀ x, letTemporaryGo value (.ref r) x = pure () := by intro _; rfl) :
    wpAny (model prog w) A (subscriptTail value slice (.ref r) (.int 1 t)) Q E ⟨h, gs, d, tk, os⟩ :=
  item_tuple (s := ⟨h, gs, d, tk, os⟩) (j := 1) ⟨_, e, rfl, _, rfl⟩ (by decide) (by decide) rfl rfl hq hs hg
theorem lN {x : Str} {v : Value} {pos : Pos} {M : Model} {Q : Value → Shared → Prop} (V : FnEnv env) (F : Fr g env.locals h m) (hl : env.kindOf x = some .local) (hv : m x = some v) (hq : Q v ⟨h, gs, d, tk, os⟩) (hd : (x == ("__debug__" : Str)) = false := by decide +kernel) :
    wpAny M A (eval (.Name x pos) env) Q E ⟨h, gs, d, tk, os⟩ := lName F hv hq V.k hl hd
theorem sN {M : Model} {x : Str} {v : Value} {pos : Pos} {Q : Unit → Shared → Prop} (V : FnEnv env) (F : Fr g env.locals h m) (N : News g env.locals h news) (hl : env.kindOf x = some .local)
    (hq : ∀ h' tk', Fr g env.locals h' (upd m x v) → News g env.locals h' news → Q () ⟨h', gs, d, tk', os⟩) : wpAny M A (assign (.Name x pos) env v) Q E ⟨h, gs, d, tk, os⟩ :=
  wpAny_assign_Name (stE F N hq hl V.c)
theorem cN {M : Model} {x : Str} {c : Addr} {o : Obj} {v : Value} {pos : Pos} {Q : Value → Shared → Prop} (V : FnEnv env) (hl : env.kindOf x = some .cell) (hc : env.cells.lookup x = some c) (e : h.get? c = some o) (ho : o.data = .cell (some v)) (hq : Q v ⟨h, gs, d, tk, os⟩) (hd : (x == ("__debug__" : Str)) = false := by decide +kernel) :
    wpAny M A (eval (.Name x pos) env) Q E ⟨h, gs, d, tk, os⟩ := cName e ho hq V.k hl hc hd
/-- the turn of get_all's comprehension -/
theorem getall_turn {p1 p2 p3 p4 p7 p8 p9 p10 p11 : Pos} {i1 i2 : Nat} {r c : Addr} {co : Obj} {a b nm : Str} {t1 t2 t3 : Tok} {P : (Str → Option Value) → List (Addr × Obj) → Prop} {P2 : Value → (Str → Option Value) → List (Addr × Obj) → Prop}
    (V : FnEnv env) (F : Fr g env.locals h m) (N : News g env.locals h news) (k1 : env.kindOf "kv" = some .local) (k2 : env.kindOf "name" = some .cell) (k3 : env.cells.lookup ("name" : Str) = some c)
    (hc : g.get? c = some co) (hco : co.data = .cell (some (.str nm t3))) (e : g.get? r = some (tup (.str a t1) (.str b t2))) (hal : a.length ≤ 30)
    (h1 : ∀ m', (Txt.lower a == nm) = true → P2 (.str b t2) m' news) (h2 : ∀ m', (Txt.lower a == nm) = false → P m' news) :
    wpAny (model prog w) A (letOwnedTupleGo (.Name "kv" p1) (.ref it) (.ref r)) (fun _ s₁ => wpAny (model prog w) A (assign (.Name "kv" p1) env (.ref r)) (fun _ s₂ =>
        wpAny (model prog w) A (testsOf [.Compare (.Call (.Attribute (.Subscript (.Name "kv" p2) (.Constant (.int 0) i1 p3) p4) "lower" ⟨57, 49, 57, 60⟩) [] [] ⟨57, 49, 57, 62⟩) [.Eq] [.Name "name" p7] p8] env) (fun b s₃ => if b = true then wpAny (model prog w) A (eval (.Subscript (.Name "kv" p9) (.Constant (.int 1) i2 p10) p11) env) (fun v s₄ => At g env.locals gs d os (P2 v) s₄) (fun _ _ => False) s₃
          else At g env.locals gs d os P s₃) (fun _ _ => False) s₂) (fun _ _ => False) s₁) (fun _ _ => False) ⟨h, gs, d, tk, os⟩ := by
  refine letGo_name ?_
  refine sN V F N k1 ?_
  intro h7 tk7 F7 N7
  refine tests1 ?_
  refine wpAny_isTrue_Compare1 ?_
  refine MethodCall_ ?_
  refine Subscript_ ?_
  refine lN V F7 k1 (by walk_at "lk") ?_
  refine cI ?_
  intro _ _
  refine pair0 (F7.keep _ _ e) ?_
  refine GM.lower ?_
  refine callWith_method0 ?_
  refine PyProof.Rows.SCL.lower (by omega) ?_
  intro _
  refine cN V k2 k3 (F7.keep _ _ hc) hco ?_
  refine PyProof.Rows.eq_str ?_
  refine wpAny_truthy_bool ?_
  cases hb : (Txt.lower a == nm) with
  | false =>
    simp only [Bool.false_eq_true, if_false]
    exact At.mk F7 N7 (h2 _ hb)
  | true =>
    simp only [if_true]
    refine Subscript_ ?_
    refine lN V F7 k1 (by walk_at "lk") ?_
    refine cI ?_
    intro _ _
    refine pair1 (F7.keep _ _ e) ?_
    exact At.mk F7 N7 (h1 _ hb)
end
end

section
set_option maxRecDepth 100000
set_option maxHeartbeats 4000000
set_option linter.unusedVariables false
open PySem PySem.W PyProof.Rows PySem.Calls PySem.SeqAt
/-- refs to pairs of ints -/
noncomputable def Edges (h : Heap) : List (Int × Int) → List Value → Prop
  | [], [] => True
  | (a, b) :: es, v :: vs => (∃ r t t', v = .ref r ∧ h.get? r = some (tup (.int a t) (.int b t'))) ∧ Edges h es vs
  | _, _ => False
theorem Edges.length {h : Heap} : ∀ {es : List (Int × Int)} {vs : List Value}, Edges h es vs → vs.length = es.length
  | [], [], _ => rfl
  | (_, _) :: es, _ :: vs, x => by simp [Edges.length x.2]
theorem Edges.mono {h h' : Heap} (hk : ∀ b o, o.cls = .type "tuple" → h.get? b = some o → h'.get? b = some o) : ∀ {es : List (Int × Int)} {vs : List Value}, Edges h es vs → Edges h' es vs
  | [], [], _ => trivial
  | (_, _) :: es, _ :: vs, ⟨⟨r, t, t', e, e'⟩, x⟩ => ⟨⟨r, t, t', e, hk r _ rfl e'⟩, Edges.mono hk x⟩
theorem Edges.get {h : Heap} : ∀ {es : List (Int × Int)} {vs : List Value} {k : Nat}, Edges h es vs → (hk : k < es.length) →
    ∃ r t t', vs.getD k .none = .ref r ∧ h.get? r = some (tup (.int (es.getD k default).1 t) (.int (es.getD k default).2 t'))
  | (a, b) :: es, v :: vs, 0, x, _ => by obtain ⟨r, t, t', e, e'⟩ := x.1; exact ⟨r, t, t', e, e'⟩
  | (a, b) :: es, v :: vs, k + 1, x, hk => Edges.get (k := k) x.2 (by simpa using hk)
theorem Edges.take {h : Heap} : ∀ {es : List (Int × Int)} {vs : List Value} (k : Nat), Edges h es vs → Edges h (es.take k) (vs.take k)
  | [], [], 0, _ => trivial
  | [], [], _ + 1, _ => trivial
  | (_, _) :: es, _ :: vs, 0, _ => trivial
  | (_, _) :: es, _ :: vs, k + 1, x => ⟨x.1, Edges.take k x.2⟩
theorem Edges.drop {h : Heap} : ∀ {es : List (Int × Int)} {vs : List Value} (k : Nat), Edges h es vs → Edges h (es.drop k) (vs.drop k)
  | [], [], 0, _ => trivial
  | [], [], _ + 1, _ => trivial
  | (_, _) :: es, _ :: vs, 0, x => x
  | (_, _) :: es, _ :: vs, k + 1, x => Edges.drop k x.2
theorem Edges.append {h : Heap} : ∀ {es : List (Int × Int)} {vs : List Value} {es' : List (Int × Int)} {vs' : List Value}, Edges h es vs → Edges h es' vs' → Edges h (es ++ es') (vs ++ vs')
  | [], [], _, _, _, y => y
  | (_, _) :: es, _ :: vs, _, _, x, y => ⟨x.1, Edges.append x.2 y⟩
theorem erase_idx (e : Int × Int) : ∀ es : List (Int × Int), e ∈ es → es.erase e = es.take (es.idxOf e) ++ es.drop (es.idxOf e + 1)
  | x :: es, h => by
    by_cases hx : x = e
    · subst hx; simp [List.idxOf_cons_self]
    · have hm : e ∈ es := by rcases List.mem_cons.mp h with q | q; exact absurd q.symm hx; exact q
      have hb : (x == e) = false := by simpa using hx
      rw [List.erase_cons_tail (by simpa using hx), List.idxOf_cons, hb, erase_idx e es hm]
      rfl
/-- which edge a value is, in a heap -/
noncomputable def intV : Value → Int
  | .int a _ => a
  | _ => 0
noncomputable def pairV : List Value → Option (Int × Int)
  | [a, b] => some (intV a, intV b)
  | _ => none
noncomputable def objEdge (o : Obj) : Option (Int × Int) := match o.data with
  | .seq xs _ => pairV xs.toList
  | _ => none
noncomputable def edgeOf (h : Heap) : Value → Option (Int × Int)
  | .ref r => (h.get? r).bind objEdge
  | _ => none
theorem edgeOf_tup {h : Heap} {r : Addr} {a b : Int} {t t' : Tok} (e : h.get? r = some (tup (.int a t) (.int b t'))) : edgeOf h (.ref r) = some (a, b) := by
  show (h.get? r).bind objEdge = _; rw [e]; rfl
theorem Edges.of_mem {h : Heap} : ∀ {es : List (Int × Int)} {vs : List Value}, Edges h es vs → ∀ v ∈ vs, ∃ r a b t t', v = .ref r ∧ h.get? r = some (tup (.int a t) (.int b t'))
  | [], [], _, u, hu => nomatch hu
  | (a, b) :: es, v :: vs, x, u, hu => by
    rcases List.mem_cons.mp hu with rfl | hu
    · obtain ⟨r, t, t', e, e'⟩ := x.1; exact ⟨r, a, b, t, t', e, e'⟩
    · exact Edges.of_mem x.2 u hu
theorem Edges.any {h : Heap} (c : Int × Int) : ∀ {es : List (Int × Int)} {vs : List Value}, Edges h es vs → vs.any (fun v => edgeOf h v == some c) = es.contains c
  | [], [], _ => rfl
  | (a, b) :: es, v :: vs, x => by
    obtain ⟨r, t, t', rfl, e'⟩ := x.1
    rw [List.any_cons, Edges.any c x.2, edgeOf_tup e', List.contains_cons]
    congr 1
    show (some (a, b) == some c) = (c == (a, b))
    rw [Bool.eq_iff_iff, beq_iff_eq, beq_iff_eq]; exact ⟨fun h => (Option.some.inj h).symm, fun h => by rw [h]⟩
section
variable {prog : Program} {w : World} {A : Around} {g h : Heap} {gs : Array GenState} {d : Drawn} {tk : Nat} {os : OsState} {L it : Addr} {m : Str → Option Value} {news rest : List (Addr × Obj)} {E : Value → Shared → Prop} {env : Env} {s : Shared}
theorem eqEdge {r r' : Addr} {a b c e : Int} {t1 t2 t3 t4 : Tok} (h1 : s.heap.get? r = some (tup (.int a t1) (.int b t2))) (h2 : s.heap.get? r' = some (tup (.int c t3) (.int e t4))) (hu : A.units < cLine) :
    EqAt A s (.ref r) (.ref r') ((some (a, b) : Option (Int × Int)) == some (c, e)) := by
  by_cases hr : r = r'
  · subst hr
    rw [h1] at h2
    have : (a, b) = (c, e) := by
      have h3 := Option.some.inj h2
      injection h3 with _ _ h4
      injection h4 with h5
      injection h5 with h6
      injection h6 with h7 h8
      injection h8 with h9
      injection h7 with h10
      injection h9 with h11
      rw [h10, h11]
    rw [this]
    simpa using EqAt.same (A := A) (s := s) (.ref r)
  · refine EqAt.of_refs hr ?_
    have := RcAt.tuples (A := A) (s := s) (l := r) (b := r') (items := #[.int a t1, .int b t2]) (items2 := #[.int c t3, .int e t4]) (e := fun j => if j = 0 then a == c else b == e) ⟨_, h1, rfl, _, rfl⟩ ⟨_, h2, rfl, _, rfl⟩ hu ?_
    · have hb : ((List.range (min (#[Value.int a t1, .int b t2] : Array Value).size (#[Value.int c t3, .int e t4] : Array Value).size)).all (fun j => if j = 0 then a == c else b == e) && (#[Value.int a t1, .int b t2] : Array Value).size == (#[Value.int c t3, .int e t4] : Array Value).size) = ((some (a, b) : Option (Int × Int)) == some (c, e)) := by
        show ((List.range 2).all _ && true) = _
        rw [show List.range 2 = [0, 1] from rfl]
        rw [Bool.eq_iff_iff]; simp
      rw [hb] at this
      exact this
    · intro j h1 h2
      match j, h1, h2 with
      | 0, _, _ => exact EqAt.int_int _ _ _ _
      | 1, _, _ => exact EqAt.int_int _ _ _ _
theorem in_edges {l r : Addr} {vs : List Value} {n : Nat} {es : List (Int × Int)} {a b : Int} {t1 t2 : Tok} {Q : Value → Shared → Prop} (hl : h.get? l = some (listOf vs.toArray n)) (he : Edges h es vs) (hr : h.get? r = some (tup (.int a t1) (.int b t2))) (hu : A.units + 1 < cLine)
    (hq : Q (.bool (es.contains (a, b))) ⟨h, gs, d, tk, os⟩) : wpAny (model prog w) A (compareOp .In (.ref r) (.ref l)) Q E ⟨h, gs, d, tk, os⟩ := by
  refine in_listAt (s := ⟨h, gs, d, tk, os⟩) (fun v => edgeOf h v == some (a, b)) (PySem.IsL.isList hl) (fun y hy => ?_) ?_
  · obtain ⟨r', a', b', t, t', rfl, e⟩ := he.of_mem y (by simpa using hy)
    rw [edgeOf_tup e]
    exact eqEdge (s := ⟨h, gs, d, tk, os⟩) e hr (by exact hu)
  · rw [← Array.any_toList, List.toList_toArray, he.any (a, b)]; exact hq
theorem index_edges {l r : Addr} {vs : List Value} {n : Nat} {es : List (Int × Int)} {a b : Int} {t1 t2 : Tok} {Q : Value → Shared → Prop} (hl : h.get? l = some (listOf vs.toArray n)) (he : Edges h es vs) (hr : h.get? r = some (tup (.int a t1) (.int b t2))) (hu : A.units + 10 < cLine) (hm : (a, b) ∈ es) (hz : es.length ≤ 1000)
    (hq : ∀ t tk', Q (.int (es.idxOf (a, b) : Nat) t) ⟨h, gs, d, tk', os⟩) : wpAny (model prog w) A (call (.builtin "list.index") [.ref l, .ref r]) Q E ⟨h, gs, d, tk, os⟩ := by
  have hj : es.idxOf (a, b) < es.length := List.idxOf_lt_length_iff.mpr hm
  have hlen := he.length
  have hval : ∀ j (hj : j < vs.length), edgeOf h vs[j] = es[j]? := fun j hjv => by
    obtain ⟨r', t, t', e1, e2⟩ := he.get (k := j) (by omega)
    rw [List.getD_eq_getElem?_getD, List.getElem?_eq_getElem hjv] at e1
    have e1 : vs[j] = .ref r' := e1
    rw [e1, edgeOf_tup e2, List.getElem?_eq_getElem (by omega), List.getD_eq_getElem?_getD, List.getElem?_eq_getElem (by omega)]
    rfl
  refine call_meets (s := ⟨h, gs, d, tk, os⟩) PySem.F.slot_list_index ⟨_, hl, rfl⟩ PySem.F.entry_list_index (PySem.F.args_list_index_2 _ _)
    (list_indexAt l vs.toArray n none #[] (.ref r) (fun v => edgeOf h v == some (a, b)) (es.idxOf (a, b)) (by simp; omega) (by omega) ?_ ?_) ⟨hl, fun y hy => ?_, hq _ _⟩
  · show (edgeOf h vs[es.idxOf (a, b)] == some (a, b)) = true
    rw [hval _ (by omega), List.getElem?_eq_getElem hj]
    simp
  · intro j hjs hlt
    show (edgeOf h vs[j] == some (a, b)) = false
    rw [hval _ (by simpa using hjs), List.getElem?_eq_getElem (by omega)]
    have := List.not_of_lt_findIdx (p := fun x => x == (a, b)) (xs := es) (i := j) hlt
    simpa using this
  · obtain ⟨r', a', b', t, t', rfl, e⟩ := he.of_mem y (by simpa using hy)
    rw [edgeOf_tup e]
    exact eqEdge (s := ⟨h, gs, d, tk, os⟩) e hr (by show A.units + _ < cLine; omega)

/-! list + list, slices -/
theorem addL {l l' : Addr} {vs ws : List Value} {n n' : Nat} {Q : Value → Shared → Prop} (F : Fr g L h m) (N : News g L h news) (hl : h.get? l = some (listOf vs.toArray n)) (hb : h.get? l' = some (listOf ws.toArray n'))
    (hq : ∀ D h', Fr g L h' m → News g L h' ((D, listOf (vs ++ ws).toArray 0) :: news) → (∀ p ∈ news, p.1 ≠ D) → h.get? D = none → (∀ b o, h.get? b = some o → h'.get? b = some o) → Q (.ref D) ⟨h', gs, d, tk, os⟩) (hsz : vs.length + ws.length ≤ 1000) :
    wpAny (model prog w) A (binaryOp .Add (.ref l) (.ref l')) Q E ⟨h, gs, d, tk, os⟩ := by
  refine concat_meets (s := ⟨h, gs, d, tk, os⟩) ⟨_, hl, rfl⟩ ⟨_, hb, rfl⟩ noFill_list_add seq_list_add PySem.F.slot_list_add PySem.F.entry_list_add (PySem.F.args_list_add_2 _ _) (list_addW l l' vs.toArray ws.toArray n n' none none #[] #[] (by simp [sizeLine]; omega)) ⟨hl, hb, ?_⟩
  rw [show vs.toArray ++ ws.toArray = (vs ++ ws).toArray by simp]
  refine hq _ _ (F.push _) (News.push F N _) (fun p hp => Nat.ne_of_lt (Heap.lt_size (N p hp).1)) ?_ fun b o e => Heap.get?_push_of_some _ e
  cases e : h.get? h.objs.size with
  | none => rfl
  | some o => exact absurd (Heap.lt_size e) (Nat.lt_irrefl _)
theorem sliceL {value slice : PySem.Expr} {l : Addr} {vs : List Value} {n : Nat} {vl vu : Value} {lo hi : Option Int} {Q : Value → Shared → Prop} (F : Fr g L h m) (N : News g L h news) (hl : h.get? l = some (listOf vs.toArray n)) (pl : IsPart vl lo) (pu : IsPart vu hi)
    (hq : ∀ D h', Fr g L h' m → News g L h' ((D, listOf (kms_pick vs lo hi).toArray 0) :: news) → (∀ p ∈ news, p.1 < D) → h.get? D = none → (∀ b o, h.get? b = some o → h'.get? b = some o) → Q (.ref D) ⟨h', gs, d, tk, os⟩) (hz : vs.length ≤ 1000)
    (hs : subscripted slice false (.ref l) (.ref h.objs.size) = operate [.ref h.objs.size, .ref l] (getItem (.ref l) (.ref h.objs.size)) := by with_unfolding_all rfl) (ht : ∀ r, letTemporaryGo value (.ref l) r = pure () := by intro _; rfl) :
    wpAny (model prog w) A (subscriptTail value slice (.ref l) (.ref h.objs.size)) Q E { heap := h.push { cls := .type "slice", data := .fields #[vl, vu, .none] }, gens := gs, drawn := d, toks := tk, os := os } := by
  refine slice_listK (s := ⟨h, gs, d, tk, os⟩) (PySem.IsL.isList hl) pl pu ?_ hs ht (by simp [sizeLine]; omega)
  have e1 : ∀ b o, h.get? b = some o → ((h.push { cls := .type "slice", data := .fields #[vl, vu, .none] }).push { cls := .type "list", data := .seq (slicePick vs.toArray lo hi none) }).get? b = some o := fun b o e => Heap.get?_push_of_some _ (Heap.get?_push_of_some _ e)
  have Fp := (F.push { cls := .type "slice", data := .fields #[vl, vu, .none] })
  have Np : News g L (h.push { cls := .type "slice", data := .fields #[vl, vu, .none] }) news := fun p hp => ⟨Heap.get?_push_of_some _ (N p hp).1, (N p hp).2⟩
  have q := hq (h.objs.size + 1) _ (Fp.push { cls := .type "list", data := .seq (slicePick vs.toArray lo hi none) }) ?_ (fun p hp => Nat.lt_succ_of_lt (Heap.lt_size (N p hp).1)) ?_ e1
  · exact q
  · have z := News.push Fp Np { cls := .type "list", data := .seq (slicePick vs.toArray lo hi none) }
    rw [psz] at z
    rw [kms_pick_eq] at z ⊢
    exact z
  · cases e : h.get? (h.objs.size + 1) with
    | none => rfl
    | some o => exact absurd (Heap.lt_size e) (Nat.not_lt.mpr (Nat.le_succ _))
theorem ne_nilL {l l' : Addr} {vs : List Value} {n n' : Nat} {Q : Value → Shared → Prop} (hl : h.get? l = some (listOf vs.toArray n)) (hb : h.get? l' = some (listOf #[] n')) (hu : A.units < cLine)
    (hq : Q (.bool (!vs.isEmpty)) ⟨h, gs, d, tk, os⟩) : wpAny (model prog w) A (compareOp .NotEq (.ref l) (.ref l')) Q E ⟨h, gs, d, tk, os⟩ := by
  cases vs with
  | nil => exact RcNeAt.lists (s := ⟨h, gs, d, tk, os⟩) (e := fun _ => true) (PySem.IsL.isList hl) (PySem.IsL.isList hb) rfl hu (fun j h1 _ => absurd h1 (Nat.not_lt_zero _)) _ _ _ _ hq
  | cons v vs => exact RcNeAt.lists_lengths (s := ⟨h, gs, d, tk, os⟩) (PySem.IsL.isList hl) (PySem.IsL.isList hb) (by simp) hu _ _ _ _ hq
theorem eq_nilL {l l' : Addr} {vs : List Value} {n n' : Nat} {Q : Value → Shared → Prop} (hl : h.get? l = some (listOf vs.toArray n)) (hb : h.get? l' = some (listOf #[] n')) (hu : A.units < cLine)
    (hq : Q (.bool vs.isEmpty) ⟨h, gs, d, tk, os⟩) : wpAny (model prog w) A (compareOp .Eq (.ref l) (.ref l')) Q E ⟨h, gs, d, tk, os⟩ := by
  cases vs with
  | nil => exact RcAt.lists (s := ⟨h, gs, d, tk, os⟩) (e := fun _ => true) (PySem.IsL.isList hl) (PySem.IsL.isList hb) rfl hu (fun j h1 _ => absurd h1 (Nat.not_lt_zero _)) _ _ _ _ hq
  | cons v vs => exact RcAt.lists_lengths (s := ⟨h, gs, d, tk, os⟩) (PySem.IsL.isList hl) (PySem.IsL.isList hb) (by simp) hu _ _ _ _ hq
/-- two lists of the same strs -/
theorem eq_strsL {l l' : Addr} {vs us : List Value} {n n' : Nat} {ss : List Str} {Q : Value → Shared → Prop} (hl : h.get? l = some (listOf vs.toArray n)) (hb : h.get? l' = some (listOf us.toArray n')) (h1 : SL ss vs) (h2 : SL ss us) (hu : A.units + 1 < cLine)
    (hq : Q (.bool true) ⟨h, gs, d, tk, os⟩) : wpAny (model prog w) A (compareOp .Eq (.ref l) (.ref l')) Q E ⟨h, gs, d, tk, os⟩ := by
  refine RcAt.lists (s := ⟨h, gs, d, tk, os⟩) (e := fun _ => true) (PySem.IsL.isList hl) (PySem.IsL.isList hb) (by simp [h1.length, h2.length]) (by omega) (fun j j1 j2 => ?_) _ _ _ _ (by rw [show (List.range vs.toArray.size).all (fun _ => true) = true from List.all_eq_true.mpr fun _ _ => rfl]; exact hq)
  simp only [List.size_toArray] at j1 j2
  obtain ⟨t1, e1⟩ := h1.get (k := j) (by have := h1.length; omega)
  obtain ⟨t2, e2⟩ := h2.get (k := j) (by have := h1.length; omega)
  rw [List.getD_eq_getElem?_getD, List.getElem?_eq_getElem j1] at e1
  rw [List.getD_eq_getElem?_getD, List.getElem?_eq_getElem j2] at e2
  have e1 : vs[j] = .str (ss.getD j ⟨#[]⟩) t1 := e1
  have e2 : us[j] = .str (ss.getD j ⟨#[]⟩) t2 := e2
  simp only [List.getElem_toArray]
  rw [e1, e2]
  simpa using EqAt.str_str (A := A.in1) (s := ⟨h, gs, d, tk, os⟩) (ss.getD j ⟨#[]⟩) t1 (ss.getD j ⟨#[]⟩) t2
end
end

section
set_option maxRecDepth 100000
set_option maxHeartbeats 4000000
set_option linter.unusedVariables false
open PySem PySem.W PyProof.Rows PySem.Calls PySem.SeqAt
section
variable {prog : Program} {w : World} {A : Around} {g h : Heap} {gs : Array GenState} {d : Drawn} {tk : Nat} {os : OsState} {L it : Addr} {m : Str → Option Value} {news rest : List (Addr × Obj)} {E : Value → Shared → Prop} {env : Env} {s : Shared}
  {K : Frag} {p : Program} {loose : List Str} {mg mb : Str → Option Value}
theorem News.sub {nw nw' : List (Addr × Obj)} (N : News g L h nw) (hs : ∀ p ∈ nw', p ∈ nw) : News g L h nw' := fun p hp => N p (hs p hp)
/-- a cell is set -/
theorem sC {M : Model} {x : Str} {c : Addr} {o : Obj} {v₀ : Option Value} {v : Value} {Q : Unit → Shared → Prop} (F : Fr g L h m) (N : News g L h ((c, o) :: rest)) (hn : ∀ p ∈ rest, p.1 ≠ c) (hd : o.data = .cell v₀)
    (hq : ∀ h' o', Fr g L h' m → News g L h' ((c, o') :: rest) → o'.data = .cell (some v) → Q () ⟨h', gs, d, tk, os⟩)
    (hk : env.scope.kind = .function) (hl : env.kindOf x = some .cell) (hc : env.cells.lookup x = some c) : wpAny M A (storeName env x v) Q E ⟨h, gs, d, tk, os⟩ := by
  refine wpAny_storeName_cell (s := ⟨h, gs, d, tk, os⟩) hk hl hc ⟨o, (N _ (.head _)).1, hd⟩ fun h' hv hs => ?_
  obtain ⟨o', e', hd'⟩ := hv
  have z := turn1 F N hn hs e'
  exact hq h' o' z.1 z.2 hd'
/-- the target a, b of a comprehension or a loop over a list of pairs -/
theorem pairT {x y : Str} {p1 p2 p3 : Pos} {k : Nat} {r l : Addr} {j : Nat} {o : Obj} {va vb : Value} {Q : Unit → Shared → Prop} (V : FnEnv env) (F : Fr g env.locals h m) (N : News g env.locals h news) (hm : (it, o) ∈ news) (ok : listItOk l j o)
    (hh : A.handled = none) (e : g.get? r = some (tup va vb)) (hx : env.kindOf x = some .local) (hy : env.kindOf y = some .local)
    (hq : ∀ h' tk', Fr g env.locals h' (upd (upd m x va) y vb) → News g env.locals h' news → Q () ⟨h', gs, d, tk', os⟩) :
    wpAny (model prog w) A (letOwnedTupleGo (.Tuple [.Name x p1, .Name y p2] k p3) (.ref it) (.ref r)) (fun _ s₁ => wpAny (model prog w) A (assign (.Tuple [.Name x p1, .Name y p2] k p3) env (.ref r)) Q E s₁) E ⟨h, gs, d, tk, os⟩ := by
  refine wpAny_letOwnedTupleGo_listiter (s := ⟨_, _, _, _, _⟩) ⟨o, (N _ hm).1, ok.1, ok.2⟩ ?_
  refine unpackN_ (s := ⟨_, _, _, _, _⟩) F N ⟨_, F.keep _ _ e, rfl, _, rfl⟩ hh rfl rfl ?_
  intro h5 F5 N5
  refine assignInOrder_cons ?_
  refine wpAny_assign_Name ?_
  refine stE F5 N5 ?_ hx V.c
  intro h6 tk6 F6 N6
  refine assignInOrder_cons ?_
  refine wpAny_assign_Name ?_
  refine stE F6 N6 ?_ hy V.c
  intro h7 tk7 F7 N7
  exact assignInOrder_nil (hq _ _ F7 N7)
/-- [b for a, b in left if a in met and b not in met]: a turn -/
theorem met_turn1 {p1 p2 p3 p4 p5 p6 p7 p8 p9 p10 p11 : Pos} {k : Nat} {r l c D : Addr} {j n : Nat} {o co : Obj} {a b : Int} {t1 t2 : Tok} {us : List Value} {ms : List Int} {P : (Str → Option Value) → List (Addr × Obj) → Prop} {P2 : Value → (Str → Option Value) → List (Addr × Obj) → Prop}
    (V : FnEnv env) (F : Fr g env.locals h m) (N : News g env.locals h news) (hm : (it, o) ∈ news) (ok : listItOk l j o) (hh : A.handled = none)
    (e : g.get? r = some (tup (.int a t1) (.int b t2))) (k1 : env.kindOf "a" = some .local) (k2 : env.kindOf "b" = some .local) (k3 : env.kindOf "met" = some .cell) (k4 : env.cells.lookup ("met" : Str) = some c)
    (hc : g.get? c = some co) (hco : co.data = .cell (some (.ref D))) (hD : g.get? D = some (listOf us.toArray n)) (hi : IntsAre us ms)
    (h1 : ∀ m', (ms.any (· == a) && !ms.any (· == b)) = true → P2 (.int b t2) m' news) (h2 : ∀ m', (ms.any (· == a) && !ms.any (· == b)) = false → P m' news) :
    wpAny (model prog w) A (letOwnedTupleGo (.Tuple [.Name "a" p1, .Name "b" p2] k p3) (.ref it) (.ref r)) (fun _ s₁ => wpAny (model prog w) A (assign (.Tuple [.Name "a" p1, .Name "b" p2] k p3) env (.ref r)) (fun _ s₂ =>
        wpAny (model prog w) A (testsOf [.BoolOp .And [.Compare (.Name "a" p4) [.In] [.Name "met" p5] p6, .Compare (.Name "b" p7) [.NotIn] [.Name "met" p8] p9] p10] env) (fun b s₃ => if b = true then wpAny (model prog w) A (eval (.Name "b" p11) env) (fun v s₄ => At g env.locals gs d os (P2 v) s₄) (fun _ _ => False) s₃
          else At g env.locals gs d os P s₃) (fun _ _ => False) s₂) (fun _ _ => False) s₁) (fun _ _ => False) ⟨h, gs, d, tk, os⟩ := by
  refine pairT V F N hm ok hh e k1 k2 ?_
  intro h7 tk7 F7 N7
  refine tests1 ?_
  refine isTrue_and ?_
  refine wpAny_isTrue_Compare1 ?_
  refine lN V F7 k1 (by walk_at "lk") ?_
  refine cN V k3 k4 (F7.keep _ _ hc) hco ?_
  refine in_list_ints (s := ⟨_, _, _, _, _⟩) (PySem.IsL.isList (F7.keep _ _ hD)) hi ?_
  refine wpAny_truthy_bool ?_
  cases ha : ms.any (· == a) with
  | false =>
    simp only [Bool.false_eq_true, if_false]
    exact At.mk F7 N7 (h2 _ (by rw [ha]; rfl))
  | true =>
    simp only [if_true]
    refine isTrue_and ?_
    refine wpAny_isTrue_Compare1 ?_
    refine lN V F7 k2 (by walk_at "lk") ?_
    refine cN V k3 k4 (F7.keep _ _ hc) hco ?_
    refine notin_list_ints (s := ⟨_, _, _, _, _⟩) (PySem.IsL.isList (F7.keep _ _ hD)) hi ?_
    refine wpAny_truthy_bool ?_
    cases hb : ms.any (· == b) with
    | true =>
      simp only [Bool.not_true, Bool.false_eq_true, if_false]
      exact At.mk F7 N7 (h2 _ (by rw [ha, hb]; rfl))
    | false =>
      simp only [Bool.not_false, if_true]
      refine isTrue_and_nil ?_
      simp only [if_true]
      refine lN V F7 k2 (by walk_at "lk") ?_
      exact At.mk F7 N7 (h1 _ (by rw [ha, hb]; rfl))
/-- [a for a, b in left if a not in met]: a turn -/
theorem met_turn2 {p1 p2 p3 p4 p5 p6 p7 : Pos} {k : Nat} {r l c D : Addr} {j n : Nat} {o co : Obj} {a b : Int} {t1 t2 : Tok} {us : List Value} {ms : List Int} {P : (Str → Option Value) → List (Addr × Obj) → Prop} {P2 : Value → (Str → Option Value) → List (Addr × Obj) → Prop}
    (V : FnEnv env) (F : Fr g env.locals h m) (N : News g env.locals h news) (hm : (it, o) ∈ news) (ok : listItOk l j o) (hh : A.handled = none)
    (e : g.get? r = some (tup (.int a t1) (.int b t2))) (k1 : env.kindOf "a" = some .local) (k2 : env.kindOf "b" = some .local) (k3 : env.kindOf "met" = some .cell) (k4 : env.cells.lookup ("met" : Str) = some c)
    (hc : g.get? c = some co) (hco : co.data = .cell (some (.ref D))) (hD : g.get? D = some (listOf us.toArray n)) (hi : IntsAre us ms)
    (h1 : ∀ m', (!ms.any (· == a)) = true → P2 (.int a t1) m' news) (h2 : ∀ m', (!ms.any (· == a)) = false → P m' news) :
    wpAny (model prog w) A (letOwnedTupleGo (.Tuple [.Name "a" p1, .Name "b" p2] k p3) (.ref it) (.ref r)) (fun _ s₁ => wpAny (model prog w) A (assign (.Tuple [.Name "a" p1, .Name "b" p2] k p3) env (.ref r)) (fun _ s₂ =>
        wpAny (model prog w) A (testsOf [.Compare (.Name "a" p4) [.NotIn] [.Name "met" p5] p6] env) (fun b s₃ => if b = true then wpAny (model prog w) A (eval (.Name "a" p7) env) (fun v s₄ => At g env.locals gs d os (P2 v) s₄) (fun _ _ => False) s₃
          else At g env.locals gs d os P s₃) (fun _ _ => False) s₂) (fun _ _ => False) s₁) (fun _ _ => False) ⟨h, gs, d, tk, os⟩ := by
  refine pairT V F N hm ok hh e k1 k2 ?_
  intro h7 tk7 F7 N7
  refine tests1 ?_
  refine wpAny_isTrue_Compare1 ?_
  refine lN V F7 k1 (by walk_at "lk") ?_
  refine cN V k3 k4 (F7.keep _ _ hc) hco ?_
  refine notin_list_ints (s := ⟨_, _, _, _, _⟩) (PySem.IsL.isList (F7.keep _ _ hD)) hi ?_
  refine wpAny_truthy_bool ?_
  cases ha : ms.any (· == a) with
  | true =>
    simp only [Bool.not_true, Bool.false_eq_true, if_false]
    exact At.mk F7 N7 (h2 _ (by rw [ha]; rfl))
  | false =>
    simp only [Bool.not_false, if_true]
    refine lN V F7 k1 (by walk_at "lk") ?_
    exact At.mk F7 N7 (h1 _ (by rw [ha]; rfl))
end
/-! what all_met answers -/
noncomputable def grow (es : List (Int × Int)) (ms : List Int) : List Int := ms ++ (es.filter fun e => ms.any (· == e.1) && !ms.any (· == e.2)).map (·.2)
noncomputable def growN (es : List (Int × Int)) : Nat → List Int → List Int
  | 0, ms => ms
  | n + 1, ms => grow es (growN es n ms)
noncomputable def allMet (p : Int) (es : List (Int × Int)) : Bool := (es.filter fun e => !(growN es 4 [p]).any (· == e.1)).isEmpty
theorem grow_length (es : List (Int × Int)) (ms : List Int) : (grow es ms).length ≤ ms.length + es.length := by
  unfold grow
  rw [List.length_append, List.length_map]
  exact Nat.add_le_add_left (List.length_filter_le _ _) _
theorem growN_length (es : List (Int × Int)) (ms : List Int) : ∀ n, (growN es n ms).length ≤ ms.length + n * es.length
  | 0 => by simp [growN]
  | n + 1 => by
    have := grow_length es (growN es n ms)
    have := growN_length es ms n
    unfold growN
    rw [Nat.succ_mul]
    omega
end

section
set_option maxRecDepth 100000
set_option maxHeartbeats 4000000
open PySem PySem.W PyProof.Rows PySem.Calls
theorem keys_c (w : World) (mg mb : Str → Option Value) (G : Heap) (A : Around) (hp : Heap) (gs : Array GenState) (d : Drawn) (tk : Nat) (os : OsState) (x dx l : Addr) (t : Tok) (vs : List Value) (n : Nat) (hs : List (Str × Str))
   (Q E : Value → Shared → Prop)
   (hA : A.depth + 60 < recursionLimit) (hh : A.handled = none) (hG : Kept [] G hp) (hl : hp.get? l = some (listOf vs.toArray n)) (hgl : G.get? l = none) (hx : hp.get? x = some (instObj 182 dx)) (hgx : G.get? x = none) (hdx : hp.get? dx = some (hdrD w.params l t)) (hgdx : G.get? dx = none) (hld : l ≠ dx) (hxdx : x ≠ dx) (hxl : x ≠ l) (hvs : vs.length ≤ 60) (hrows : Rows hp hs vs)
   (hQ : ∀ h' tk' r us c, Kept [] hp h' → h'.get? r = some (listOf us.toArray c) → hp.get? r = none → SL (hs.map (·.1)) us → Q (.ref r) ⟨h', gs, d, tk', os⟩) :
   (Gd (hd.heap_1 w.params) vw (looseW vw lo) mg mb G) → 
   wpAny (model PySem.Challenge.rw_il0096_01.row.prog w) A (call (.ref 134) [.ref x]) Q E ⟨hp, gs, d, tk, os⟩ := by
  k_fill
  intro X
  obtain ⟨aH, aD, aF, aG, aU⟩ := A
  obtain rfl : aH = none := hh
  replace hA : aD + 60 < recursionLimit := hA
  refine' enter (news := [(x, instObj 182 dx), (dx, hdrD w.params l t), (l, listOf vs.toArray n)]) (binds := [("self", .ref x)]) X hG [x, dx, l] (by simp [hgl, hgx, hgdx]) (by simp [hl, hx, hdx]) ?ho ?hcd ?hroom ?hbind ?hloc ?_ ?h1 ?h2 ?h3 ?h4
  case ho => k_dflt k_is
  case hcd => k_dflt k_is
  case hroom => first | omega | (show aD < _; omega)
  case hbind => first | exact BindsTo.of_eq rfl | exact kp_binds (X.keeps hG).X (fun _ => rfl)
  case hloc => exact locs rfl
  case h1 => rfl
  case h2 => rfl
  case h3 => rfl
  case h4 => decide
  intro g L h₁ Y hgs hgz F N hL
  simp only [List.reverse_cons, List.reverse_nil, List.nil_append, List.cons_append, updL] at F
  have KX := Y.X
  have TT := Y.T
  refine wpAny_execs_cons ?_
  refine wpAny_Return_some ?_
  refine listComp (cl := []) rfl rfl (by decide) ?_
  k_steps
  have hrg : Rows g hs vs := hrows.mono fun b o hc e => hgs b o e (by
    simp only [List.mem_cons, List.not_mem_nil, or_false]
    rintro (rfl | rfl | rfl)
    · rw [hx] at e; cases e; cases hc
    · rw [hdx] at e; cases e; exact absurd hc (by simp)
    · rw [hl] at e; cases e; exact absurd hc (by simp [PySem.W.listOf]))
  refine compList (xs := vs) Y F N (N _ (.tail _ (.tail _ (.head _)))).1 (by omega) (fun k us => SL ((hs.map (·.1)).take k) us) .nil ?_ ?_
  · intro k us g2 C h6 tk6 m6 o' nw it hk Y2 hgs2 hz2 F6 N6 hm ok6 hsl
    have hkh : k < hs.length := by rw [← hrows.length]; exact hk
    obtain ⟨r, t1, t2, e1, e2⟩ := hrg.get hkh
    have e3 := hgs2 _ _ (F.keep _ _ e2)
    rw [e1]
    refine pairT ⟨rfl, by kernel_rfl!, rfl, rfl⟩ F6 N6 hm ok6 (by exact rfl) e3 (by kernel_rfl!) (by kernel_rfl!) ?_
    intro h7 tk7 F7 N7
    refine tests0 ?_
    simp only [if_true]
    refine lName F7 (by walk_at "lk") ?_ (by kernel_rfl!) (by kernel_rfl!) (by decide +kernel)
    refine At.mk F7 N7 ⟨rfl, ?_⟩
    have hkm : k < (hs.map (·.1)).length := by simpa using hkh
    rw [List.take_succ_eq_append_getElem hkm, show (hs.map (·.1))[k] = (hs.getD k default).1 by simp [List.getD_eq_getElem?_getD, hkh]]
    exact hsl.snoc
  · intro h' tk' D us c F' N' hr hul hD hn
    have h0 : ∀ p ∈ [(x, instObj 182 dx), (dx, hdrD w.params l t), (l, PySem.W.listOf vs.toArray n)], hp.get? p.1 = some p.2 := by simp [hx, hdx, hl]
    have old1 := kept_all _ h0 hgs F N (fun p hp => hp)
    have old2 := kept_all _ h0 hgs F' N' (fun p hp => .tail _ hp)
    rw [List.take_of_length_le (by rw [List.length_map, hrows.length]; exact Nat.le_refl _)] at hr
    refine hQ h' tk' D us c ⟨fun b o e _ => old2 b o e, ?_⟩ (N' _ (.head _)).1 ?_ hr
    · rw [← hgz]; exact Nat.le_trans F'.above (Nat.le_of_lt F'.ns.lt)
    · cases e : hp.get? D with
      | none => rfl
      | some o' => rw [old1 D o' e] at hn; cases hn
end

local macro_rules | `(tactic| walk_at "call ref") => `(tactic| ((with_reducible rename Fr _ _ _ _ => F'); (with_reducible rename News _ _ _ _ => N'); (with_reducible rename Gd _ _ _ _ _ _ => Y'); k_dflt (refine convert_c _ _ _ _ _ _ _ _ _ _ _ _ _ _ _ _ (by first | (simp only [depth_deeper]; omega) | (show aD + 1 + _ < _; omega)) (Kept.ofFr F') (by assumption) (by assumption) ?_ Y'); intro h' tk' k6; replace F' := fr_back0 F' k6; replace N' := news_back0 N' k6))
local macro_rules | `(tactic| walk_at "getMethod ref") => `(tactic| ((with_reducible show wpAny _ _ (getMethod (Value.ref _) (PySem.Str.ofString "items") _) _ _ _); (with_reducible rename News _ _ _ _ => N'); k_dflt (refine dictMeth (N' (_, dictOf [] 0) (by first | exact .head _ | exact .tail _ (.head _) | exact .tail _ (.tail _ (.head _)) | exact .tail _ (.tail _ (.tail _ (.head _))))).1 rfl rfl PySem.F.slot_dict_items PySem.F.type_dict_items ?_)))
local macro_rules | `(tactic| walk_at "call builtin:dict.items") => `(tactic| ((with_reducible rename News _ _ _ _ => N'); (with_reducible rename Fr _ _ _ _ => F'); k_dflt (refine dictItems0 F' N' (N' (_, dictOf [] 0) (by first | exact .head _ | exact .tail _ (.head _) | exact .tail _ (.tail _ (.head _)) | exact .tail _ (.tail _ (.tail _ (.head _))))).1 (by assumption) ?_); intro v' h' F' N' nv'))
local macro_rules | `(tactic| walk_at "pyIter ref") => `(tactic| ((with_reducible rename News _ _ _ _ => N'); (with_reducible rename Fr _ _ _ _ => F'); k_dflt (refine iterItems0 F' N' (N' (_, dictOf [] 0) (by first | exact .head _ | exact .tail _ (.head _) | exact .tail _ (.tail _ (.head _)) | exact .tail _ (.tail _ (.tail _ (.head _))))).1 (N' _ (.head _)).1 ?_); intro v' h' F' N' nv'))

section
set_option maxRecDepth 100000
set_option maxHeartbeats 4000000
open PySem PySem.W PyProof.Rows PySem.Calls
theorem add_c (w : World) (mg mb : Str → Option Value) (G : Heap) (A : Around) (hp : Heap) (gs : Array GenState) (d : Drawn) (tk : Nat) (os : OsState) (x dx l : Addr) (t : Tok) (vs : List Value) (n : Nat) (a b : Str) (t1 t2 : Tok)
   (Q E : Value → Shared → Prop)
   (hA : A.depth + 60 < recursionLimit) (hh : A.handled = none) (hG : Kept [] G hp) (hl : hp.get? l = some (listOf vs.toArray n)) (hgl : G.get? l = none) (hx : hp.get? x = some (instObj 182 dx)) (hgx : G.get? x = none) (hdx : hp.get? dx = some (hdrD w.params l t)) (hgdx : G.get? dx = none) (hld : l ≠ dx) (hxdx : x ≠ dx) (hxl : x ≠ l) (hvs : vs.length ≤ 60) (ha : a.cps.size < 1000) (hac : clean a = true) (hb : b.cps.size < 1000) (hbc : clean b = true)
   (hQ : ∀ h' tk' r t', Kept [l] hp h' → h'.get? l = some (listOf (vs ++ [Value.ref r]).toArray (n + 1)) → h'.get? r = some { cls := .type "tuple", data := .seq #[.str a t1, .str b t'] } → hp.get? r = none → Q .none ⟨h', gs, d, tk', os⟩) :
   (Gd (hd.heap_1 w.params) vw (looseW vw lo) mg mb G) → 
   wpAny (model PySem.Challenge.rw_il0096_01.row.prog w) A (call (.ref 179) [.ref x, .str a t1, .str b t2]) Q E ⟨hp, gs, d, tk, os⟩ := by
  k_fill
  intro X
  obtain ⟨aH, aD, aF, aG, aU⟩ := A
  obtain rfl : aH = none := hh
  replace hA : aD + 60 < recursionLimit := hA
  refine' enter1 (o := dictOf [] 0) (news := [(x, instObj 182 dx), (dx, hdrD w.params l t), (l, listOf vs.toArray n)]) (binds := fun D => [("self", .ref x), ("_name", .str a t1), ("_value", .str b t2), ("_params", .ref D)]) X hG [x, dx, l] (by simp [hgl, hgx, hgdx]) (by simp [hl, hx, hdx]) ?hf ?ho ?hcd ?hroom ?hpk ?hg1 ?hloc ?_ ?h1 ?h2 ?h3 ?h4
  case ho => k_dflt k_is
  case hcd => k_dflt k_is
  case hroom => first | omega | (show aD < _; omega)
  case hpk => exact rfl
  case hg1 => exact fun _ => rfl
  case hf => exact rfl
  case hloc => exact fun _ => locs rfl
  case h1 => rfl
  case h2 => rfl
  case h3 => rfl
  case h4 => decide
  intro D g L h₁ Y hgs hgz F N hD hDm
  simp only [List.reverse_cons, List.reverse_nil, List.nil_append, List.cons_append, updL] at F
  have KX := Y.X
  have TT := Y.T
  k_steps
  (with_reducible rename News _ _ _ _ => N')
  (with_reducible rename Fr _ _ _ _ => F')
  refine forItems0 (by exact rfl) F' N' (by assumption) (.tail _ (.tail _ (.head _))) ?_
  intro h5 tk5 F5 N5
  clear F' N'
  k_steps
  (with_reducible rename News _ _ _ _ => N')
  refine join_listC (s := ⟨_, _, _, _, _⟩) (ys := [b]) (PySem.IsL.isList (N' _ (.tail _ (.head _))).1) (.cons _ _ .nil) (by decide) (by have : b.length = b.cps.size := rfl; simp; omega) ?_
  intro tj _
  rw [show Txt.join "; " [b] = b from rfl]
  k_steps
  (with_reducible rename News _ _ _ _ => N')
  (with_reducible rename Fr _ _ _ _ => F')
  have q1 := ‹D < _ ∧ x < _ ∧ dx < _ ∧ l < _›
  have lD : D ≠ l := fun q => by rw [← q, hD] at hl; cases hl
  refine appendM F' N' (.tail _ (.tail _ (.tail _ (.tail _ (.tail _ (.tail _ (.head _))))))) hvs
    (.tail (news_ne N' (.head _) (.tail _ (.tail _ (.tail _ (.tail _ (.tail _ (.tail _ (.head _))))))) (by simp [PySem.W.listOf])) (.tail (news_ne N' (.tail _ (.head _)) (.tail _ (.tail _ (.tail _ (.tail _ (.tail _ (.tail _ (.head _))))))) (by simp [PySem.W.listOf])) (.tail (Nat.ne_of_gt q1.2.2.2) (.tail lD (.tail hxl (.tail (Ne.symm hld) (.head (by simp)))))))) ?_
  intro h6 F6 N6
  k_steps
  refine hQ _ _ _ tj ⟨fun b' o e nb => ?_, (kept_end1 hgs hgz F6).2⟩ (N6 _ (.tail _ (.tail _ (.tail _ (.tail _ (.tail _ (.tail _ (.head _)))))))).1 (N6 _ (.head _)).1 ?_
  · by_cases hbx : b' = x
    · subst hbx; rw [hx] at e; cases e; exact (N6 _ (.tail _ (.tail _ (.tail _ (.tail _ (.head _)))))).1
    · by_cases hbd : b' = dx
      · subst hbd; rw [hdx] at e; cases e; exact (N6 _ (.tail _ (.tail _ (.tail _ (.tail _ (.tail _ (.head _))))))).1
      · exact F6.keep b' o (hgs b' o e (by simp at nb; simp [hbx, hbd, nb]))
  · have gn := (N6 _ (.head _)).2.2
    have l1 := ‹_ < _ ∧ _ < _ ∧ D < _ ∧ x < _ ∧ dx < _ ∧ l < _›
    cases e : hp.get? _ with
    | none => rfl
    | some o' =>
      rw [hgs _ o' e (by simp; exact ⟨Nat.ne_of_gt l1.2.2.2.1, Nat.ne_of_gt l1.2.2.2.2.1, Nat.ne_of_gt l1.2.2.2.2.2⟩)] at gn
      cases gn
end

local macro_rules | `(tactic| walk_at "eval ListComp") => `(tactic| k_dflt (refine listComp (by with_unfolding_all rfl) rfl (by decide) ?_))

section
set_option maxRecDepth 100000
set_option maxHeartbeats 4000000
open PySem PySem.W PyProof.Rows PySem.Calls
theorem getall_c (w : World) (mg mb : Str → Option Value) (G : Heap) (A : Around) (hp : Heap) (gs : Array GenState) (d : Drawn) (tk : Nat) (os : OsState) (x dx l : Addr) (t : Tok) (vs : List Value) (n : Nat) (hs : List (Str × Str)) (nm : Str) (t0 : Tok)
   (Q E : Value → Shared → Prop)
   (hA : A.depth + 60 < recursionLimit) (hh : A.handled = none) (hG : Kept [] G hp) (hl : hp.get? l = some (listOf vs.toArray n)) (hgl : G.get? l = none) (hx : hp.get? x = some (instObj 182 dx)) (hgx : G.get? x = none) (hdx : hp.get? dx = some (hdrD w.params l t)) (hgdx : G.get? dx = none) (hld : l ≠ dx) (hxdx : x ≠ dx) (hxl : x ≠ l) (hvs : vs.length ≤ 60) (hrows : Rows hp hs vs) (hnm : nm.length ≤ 30) (hal : ∀ q ∈ hs, q.1.length ≤ 30) (hlo : (Txt.lower nm).cps.size < 1000) (hcl : clean (Txt.lower nm) = true)
   (hQ : ∀ h' tk' r us c, Kept [] hp h' → h'.get? r = some (listOf us.toArray c) → hp.get? r = none → SL (((hs.filter fun q => Txt.lower q.1 == Txt.lower nm)).map (·.2)) us → Q (.ref r) ⟨h', gs, d, tk', os⟩) :
   (Gd (hd.heap_1 w.params) vw (looseW vw lo) mg mb G) → 
   wpAny (model PySem.Challenge.rw_il0096_01.row.prog w) A (call (.ref 121) [.ref x, .str nm t0]) Q E ⟨hp, gs, d, tk, os⟩ := by
  k_fill
  intro X
  obtain ⟨aH, aD, aF, aG, aU⟩ := A
  obtain rfl : aH = none := hh
  replace hA : aD + 60 < recursionLimit := hA
  refine' enterK (news := [(x, instObj 182 dx), (dx, hdrD w.params l t), (l, listOf vs.toArray n)]) (binds := [("self", .ref x), ("name", .str nm t0)]) X hG [x, dx, l] (by simp [hgl, hgx, hgdx]) (by simp [hl, hx, hdx]) ?ho ?hcd ?hroom ?hbind ?hkind ?hnd ?_ ?h1 ?h2 ?h3
  case ho => k_dflt k_is
  case hcd => k_dflt k_is
  case hroom => first | omega | (show aD < _; omega)
  case hbind => first | exact BindsTo.of_eq rfl | exact kp_binds (X.keeps hG).X (fun _ => rfl)
  case hkind => exact kindsX rfl
  case hnd => decide +kernel
  case h1 => rfl
  case h2 => rfl
  case h3 => rfl
  intro g L h₁ tk1 cells Y hgs hgz F N hcells hL
  have KX := Y.X
  have TT := Y.T
  obtain ⟨co, rfl, hco⟩ := hcells.one
  k_steps
  (with_reducible rename Fr _ _ _ _ => F)
  (with_reducible rename News _ _ _ _ => N)
  rename_i co2 hco2
  (with_reducible rename Gd _ _ _ _ _ _ => Y)
  simp only [List.nil_append] at N
  have hrg : Rows g hs vs := hrows.mono fun b o hc e => hgs b o e (by
    simp only [List.mem_cons, List.not_mem_nil, or_false]
    rintro (rfl | rfl | rfl)
    · rw [hx] at e; cases e; cases hc
    · rw [hdx] at e; cases e; exact absurd hc (by simp)
    · rw [hl] at e; cases e; exact absurd hc (by simp [PySem.W.listOf]))
  refine compList (xs := vs) Y F N (N _ (.tail _ (.tail _ (.tail _ (.head _))))).1 (by omega) (fun k us => SL (((hs.take k).filter fun q => Txt.lower q.1 == Txt.lower nm).map (·.2)) us) .nil ?_ ?_
  · intro k us g2 C h6 tk6 m6 o' nw it hk Y2 hgs2 hz2 F6 N6 hm ok6 hsl
    have hkh : k < hs.length := by rw [← hrows.length]; exact hk
    obtain ⟨r, t1, t2, e1, e2⟩ := hrg.get hkh
    have e3 := hgs2 _ _ (F.keep _ _ e2)
    rw [e1]
    refine getall_turn ⟨rfl, by kernel_rfl!, rfl, rfl⟩ F6 N6 (by kernel_rfl!) (by kernel_rfl!) (by rfl) (hgs2 _ _ (N _ (.head _)).1) hco2 e3 (hal _ (by rw [List.getD_eq_getElem?_getD, List.getElem?_eq_getElem hkh]; exact List.getElem_mem hkh)) ?_ ?_
    · intro m' hb
      refine ⟨rfl, ?_⟩
      rw [List.take_succ_eq_append_getElem hkh, List.filter_append, List.map_append]
      have : hs[k] = hs.getD k default := by simp [List.getD_eq_getElem?_getD, hkh]
      rw [this, List.filter_cons, hb]
      exact hsl.snoc
    · intro m' hb
      refine ⟨rfl, ?_⟩
      rw [List.take_succ_eq_append_getElem hkh, List.filter_append, List.map_append]
      have : hs[k] = hs.getD k default := by simp [List.getD_eq_getElem?_getD, hkh]
      rw [this, List.filter_cons, hb]
      simpa using hsl
  · intro h' tk' D us c F' N' hr hul hD hn
    have h0 : ∀ p ∈ [(x, instObj 182 dx), (dx, hdrD w.params l t), (l, PySem.W.listOf vs.toArray n)], hp.get? p.1 = some p.2 := by simp [hx, hdx, hl]
    have old1 := kept_all _ h0 hgs F N (fun p hp => .tail _ hp)
    have old2 := kept_all _ h0 hgs F' N' (fun p hp => .tail _ (.tail _ hp))
    rw [List.take_of_length_le (by rw [hrows.length]; exact Nat.le_refl _)] at hr
    refine hQ h' tk' D us c ⟨fun b o e _ => old2 b o e, ?_⟩ (N' _ (.head _)).1 ?_ hr
    · rw [← hgz]; exact Nat.le_trans F'.above (Nat.le_of_lt F'.ns.lt)
    · cases e : hp.get? D with
      | none => rfl
      | some o' => rw [old1 D o' e] at hn; cases hn
end

end

section
set_option maxRecDepth 100000
set_option maxHeartbeats 4000000
set_option linter.unusedVariables false
open PySem PySem.W PyProof.Rows PySem.Calls PySem.SeqAt
section
variable {prog : Program} {w : World} {A : Around} {g h : Heap} {gs : Array GenState} {d : Drawn} {tk : Nat} {os : OsState} {L it : Addr} {m : Str → Option Value} {news rest : List (Addr × Obj)} {E : Value → Shared → Prop} {env : Env}
  {K : Frag} {p : Program} {loose : List Str} {mg mb : Str → Option Value}
theorem newL {M : Model} {vs : List Value} {Q : Value → Shared → Prop} (F : Fr g L h m) (N : News g L h news) (hz : vs.length ≤ 1000)
    (hq : ∀ D h', Fr g L h' m → News g L h' ((D, listOf vs.toArray 0) :: news) → (∀ p ∈ news, p.1 ≠ D) → h.get? D = none → (∀ b o, h.get? b = some o → h'.get? b = some o) → Q (.ref D) ⟨h', gs, d, tk, os⟩) :
    wpAny M A (newList vs) Q E ⟨h, gs, d, tk, os⟩ := by
  refine wpAny_newObj_type (hq _ _ (F.push _) (News.push F N _) (fun p hp => Nat.ne_of_lt (Heap.lt_size (N p hp).1)) ?_ fun b o e => Heap.get?_push_of_some _ e) (by simp [sizeOk, sizeLine]; omega)
  cases e : h.get? h.objs.size with
  | none => rfl
  | some o => exact absurd (Heap.lt_size e) (Nat.lt_irrefl _)
theorem rangeSmall {n : Nat} (hs : n ≤ 1000) : Builtin.Range.small 0 (n : Int) 1 = true := by
  have : Builtin.Range.rangeFitsLong (n : Int) = true := by
    unfold Builtin.Range.rangeFitsLong
    simp only [Bool.and_eq_true, decide_eq_true_eq]
    omega
  unfold Builtin.Range.small
  have h0 : Builtin.Range.rangeFitsLong 0 = true := by decide
  have h1 : Builtin.Range.rangeFitsLong 1 = true := by decide
  rw [rangeSize_up, this, h0, h1]
  simp [this]
theorem iterRange {r : Addr} {n : Nat} {t u v : Tok} {Q : Value → Shared → Prop} (F : Fr g L h m) (N : News g L h news) (hr : IsRange h r 0 n 1 t u v) (hs : n ≤ 1000)
    (hq : ∀ it h', Fr g L h' m → News g L h' ((it, rangeIt 0 n 1) :: news) → (∀ p ∈ news, p.1 ≠ it) → Q (.ref it) ⟨h', gs, d, tk, os⟩) : wpAny (model prog w) A (pyIter (.ref r)) Q E ⟨h, gs, d, tk, os⟩ := by
  refine wpAny_pyIter_range (s := ⟨h, gs, d, tk, os⟩) hr (rangeSmall hs) ?_
  rw [rangeSize_up]
  exact hq _ _ (F.push _) (News.push F N _) fun p hp => Nat.ne_of_lt (Heap.lt_size (N p hp).1)
/-- a for loop over an iterator told by a property -/
theorem forR {n : Nat} {x : Nat → Value → Prop} {ok : Nat → Obj → Prop} (W : StepsR prog w A g L it n x ok)
    {env : Env} {target : PySem.Expr} {body : List Stmt} {o : Obj} {Q : Flow → Shared → Prop} {R' : Value → Shared → Prop}
    (I : Nat → (Str → Option Value) → List (Addr × Obj) → Prop)
    (F : Fr g L h m) (N : News g L h ((it, o) :: news)) (hn : ∀ p ∈ news, p.1 ≠ it) (h0 : ok 0 o) (hI : I 0 m news)
    (turn : ∀ k v o m₁ nw₁ h₁ tk₁, k < n → x k v → Fr g L h₁ m₁ → News g L h₁ ((it, o) :: nw₁) → (∀ p ∈ nw₁, p.1 ≠ it) → ok (k + 1) o → I k m₁ nw₁ →
      wpAny (model prog w) A (letOwnedTupleGo target (.ref it) v) (fun _ s₁ => wpAny (model prog w) A (assign target env v) (fun _ s₂ =>
        wpAny (model prog w) A (execs body env) (TurnQ g L gs d os (fun m nw => ∃ nw₂, nw = (it, o) :: nw₂ ∧ (∀ p ∈ nw₂, p.1 ≠ it) ∧ I (k + 1) m nw₂) (I n) Q) (fun _ _ => False) s₂) (fun _ _ => False) s₁) (fun _ _ => False) ⟨h₁, gs, d, tk₁, os⟩)
    (done : ∀ h' tk' m' news', Fr g L h' m' → News g L h' news' → I n m' news' → Q .next ⟨h', gs, d, tk', os⟩) :
    codeAny (model prog w) A (.forLoop target (.ref it) body [] env) (fun r s' => match r with | .ok f => Q f s' | .error e => R' e s') ⟨h, gs, d, tk, os⟩ := by
  refine forL (n₀ := n) (fun j m nw => ∃ k o nw₂, j = n - k ∧ k ≤ n ∧ nw = (it, o) :: nw₂ ∧ (∀ p ∈ nw₂, p.1 ≠ it) ∧ ok k o ∧ I k m nw₂) (I n) F N ⟨0, o, news, rfl, Nat.zero_le _, rfl, hn, h0, hI⟩ ?_ done
  rintro j m₁ nw₁ h₁ tk₁ F₁ N₁ ⟨k, o₁, nw₂, rfl, hk, rfl, hn₂, hok, hI₂⟩
  by_cases hlt : k < n
  · refine W.item hlt F₁ N₁ hn₂ hok fun v h' tk' o' hv F' N' ok' => ?_
    refine wpAny_mono (turn k v o' m₁ nw₂ h' tk' hlt hv F' N' hn₂ ok' hI₂) (fun _ s₁ q => wpAny_mono q (fun _ s₂ q => wpAny_mono q (fun f s₃ q => ?_) fun _ _ x => x) fun _ _ x => x) fun _ _ x => x
    have up : ∀ s, At g L gs d os (fun m nw => ∃ nw₂, nw = (it, o') :: nw₂ ∧ (∀ p ∈ nw₂, p.1 ≠ it) ∧ I (k + 1) m nw₂) s →
        At g L gs d os (fun m nw => ∃ n', n' < n - k ∧ ∃ k o nw₂, n' = n - k ∧ k ≤ n ∧ nw = (it, o) :: nw₂ ∧ (∀ p ∈ nw₂, p.1 ≠ it) ∧ ok k o ∧ I k m nw₂) s := by
      rintro s ⟨h', tk', m', news', rfl, F', N', nw₂, rfl, a, b⟩
      exact ⟨h', tk', m', _, rfl, F', N', n - (k + 1), by omega, k + 1, o', nw₂, rfl, by omega, rfl, a, ok', b⟩
    cases f with
    | ret v => exact q
    | brk => exact q
    | next => exact up _ q
    | cont => exact up _ q
  · obtain rfl : k = n := by omega
    exact W.fin F₁ N₁ hn₂ hok fun h' F' N' => At.mk F' N' hI₂
/-- a comprehension over range(n) -/
theorem compRange {elt iter target : PySem.Expr} {ifs : List PySem.Expr} {scope : Scope} {cl : List (Str × Addr)} {pos : Pos} {r : Addr} {n : Nat} {t u v : Tok} {Q : Value → Shared → Prop}
    (Y : Gd K p loose mg mb g) (F : Fr g L h m) (N : News g L h rest) (hr : IsRange h r 0 n 1 t u v) (hsz : n ≤ 1000)
    (R : Nat → List Value → Prop) (hR : R 0 [])
    (turn : ∀ k t us g2 C h6 tk6 m6 nw it, k < n → Gd K p loose mg mb g2 → (∀ b o, h.get? b = some o → g2.get? b = some o) → h.objs.size ≤ g2.objs.size → Fr g2 C h6 m6 → News g2 C h6 nw → R k us →
      wpAny (model prog w) A (letOwnedTupleGo target (.ref it) (.int (k : Nat) t)) (fun _ s₁ => wpAny (model prog w) A (assign target (compEnvC scope cl C env) (.int (k : Nat) t)) (fun _ s₂ =>
        wpAny (model prog w) A (testsOf ifs (compEnvC scope cl C env)) (fun b s₃ => if b = true then wpAny (model prog w) A (eval elt (compEnvC scope cl C env)) (fun v s₄ => At g2 C gs d os (fun _ nw' => nw' = nw ∧ R (k + 1) (us ++ [v])) s₄) (fun _ _ => False) s₃
          else At g2 C gs d os (fun _ nw' => nw' = nw ∧ R (k + 1) us) s₃) (fun _ _ => False) s₂) (fun _ _ => False) s₁) (fun _ _ => False) ⟨h6, gs, d, tk6, os⟩)
    (hQ : ∀ h' tk' D us c, Fr g L h' m → News g L h' ((D, listOf us.toArray c) :: rest) → R n us → us.length ≤ n → (∀ p ∈ rest, p.1 ≠ D) → h.get? D = none → Q (.ref D) ⟨h', gs, d, tk', os⟩)
    (hh : A.handled = none := by exact rfl) (hcell : ∀ y ∈ scope.names, y.2 ≠ .cell := by decide) (hkind : scope.kind = .function := by rfl) :
    wpAny (model prog w) A (pyIter (.ref r)) (fun itv s₂ => wpAny (model prog w) A (newList []) (fun acc s₃ => wpAny (model prog w) A (newFunctionEnv scope env.globals cl [] env.qual none .none (some env)) (fun cenv s₄ =>
      codeAny (model prog w) A (.compStart (.ListComp elt [⟨target, iter, ifs, 0⟩] scope pos) 0 itv acc { cenv with scope := relabel scope env }) (compPost (model prog w) A E none Q acc cenv.locals) s₄) E s₃) E s₂) E ⟨h, gs, d, tk, os⟩ := by
  refine wpAny_pyIter_range (s := ⟨h, gs, d, tk, os⟩) hr (rangeSmall hsz) ?_
  rw [rangeSize_up]
  have hpush : ∀ b o, h.get? b = some o → (h.push (rangeIt 0 n 1)).get? b = some o := fun b o e => Heap.get?_push_of_some _ e
  have hne : ∀ b o, h.get? b = some o → b ≠ h.objs.size := fun b o e => Nat.ne_of_lt (Heap.lt_size e)
  refine compG (n := n) (x := fun k v => ∃ t, v = .int k t) (ok := fun k o => rangeOk k n o) hcell hkind Y (F.push _) (News.push F N _) (fun p hp => hne _ _ (N p hp).1) ?_ ?_ ?_ hsz R hR ?_ ?_
  · intro h' tk' E' Q' hk hq
    exact wpAny_pyIter_rangeiter (s := ⟨h', _, _, _, _⟩) (hk _ _ (Heap.get?_push_size _ rfl)) hq
  · exact fun g2 C hgs2 => StepsR.range hh
  · show rangeIt 0 n 1 = rangeIt ((0 : Nat) : Int) ((n : Int) - ((0 : Nat) : Int)) 1
    rw [show (n : Int) - ((0 : Nat) : Int) = (n : Int) by simp]
    rfl
  · rintro k v us g2 C h6 tk6 m6 o' nw hk ⟨t', rfl⟩ Y2 hgs2 hz F6 N6 hm ok6 hr
    exact turn k t' us g2 C h6 tk6 m6 nw _ hk Y2 (fun b o e => hgs2 b o (hpush _ _ e) (hne _ _ e)) (Nat.le_trans (Nat.le_of_lt (by rw [psz]; exact Nat.lt_succ_self _)) hz) F6 N6 hr
  · intro h' tk' D us c' F' N' hr hul hD hn
    refine hQ h' tk' D us c' F' N' hr hul hD ?_
    cases e' : h.get? D with
    | none => rfl
    | some o' => rw [hpush _ _ e'] at hn; cases hn
end
end

section
set_option maxRecDepth 100000
set_option maxHeartbeats 4000000
set_option linter.unusedVariables false
open PySem PySem.W PyProof.Rows PySem.Calls PySem.SeqAt
section
variable {prog : Program} {w : World} {A : Around} {g h : Heap} {gs : Array GenState} {d : Drawn} {tk : Nat} {os : OsState} {L it : Addr} {m : Str → Option Value} {news rest : List (Addr × Obj)} {E : Value → Shared → Prop} {env : Env}
  {K : Frag} {p : Program} {loose : List Str} {mg mb : Str → Option Value}
/-- calls by a name, in any surroundings -/
theorem callGE {x : Str} {f : Addr} {e : PySem.Expr} {rest : List PySem.Expr} {pos p' : Pos} {Q : Value → Shared → Prop} (V : FnEnv env) (F : Fr g L h m) (Y : Gd K p loose mg mb g)
    (ek : nsIn K mainGlobals x = some (some (.ref f))) (hke : keepIn K (.ref f) = true) (hx : env.kindOf x = some .globalImplicit)
    (hq : wpAny (model prog w) A (spliced (backTo pos (starEach (e :: rest) env))) (fun vs s₁ => K.In s₁.heap ∧ wpAny (model prog w) A (call (.ref f) vs) Q E s₁) E ⟨h, gs, d, tk, os⟩)
    (he : starEach (e :: rest) env = (false, eval e env) :: starEach rest env := by rfl)
    (hplain : (backTo pos (starEach rest env)).any (·.1) = false := by rfl) (hd : (x == ("__debug__" : Str)) = false := by decide +kernel) :
    wpAny (model prog w) A (eval (.Call (.Name x p') (e :: rest) [] pos) env) Q E ⟨h, gs, d, tk, os⟩ :=
  Call_ (gName F Y ek (callWith_K (first := []) Y.X hke hq he hplain) V.k hx V.gl hd)
theorem callGE0 {x : Str} {f : Addr} {pos p' : Pos} {Q : Value → Shared → Prop} (V : FnEnv env) (F : Fr g L h m) (Y : Gd K p loose mg mb g)
    (ek : nsIn K mainGlobals x = some (some (.ref f))) (hke : keepIn K (.ref f) = true) (hx : env.kindOf x = some .globalImplicit)
    (hq : wpAny (model prog w) A (call (.ref f) []) Q E ⟨h, gs, d, tk, os⟩) (hd : (x == ("__debug__" : Str)) = false := by decide +kernel) :
    wpAny (model prog w) A (eval (.Call (.Name x p') [] [] pos) env) Q E ⟨h, gs, d, tk, os⟩ :=
  Call_ (gName F Y ek (callWith_K0 (first := []) (Y.X.keeps F.keep) hke hq) V.k hx V.gl hd)
theorem callTE {x : Str} {T : String} {e : PySem.Expr} {rest : List PySem.Expr} {pos p' : Pos} {Q : Value → Shared → Prop} (V : FnEnv env) (F : Fr g L h m) (Y : Gd K p loose mg mb g)
    (ek : nsIn K mainGlobals x = some none) (hv : bootBuiltins x = some (.type T)) (hn : x ≠ "__name__") (hx : env.kindOf x = some .globalImplicit)
    (hq : wpAny (model prog w) A (spliced (backTo pos (starEach (e :: rest) env))) (fun vs s₁ => wpAny (model prog w) A (call (.type T) vs) Q E s₁) E ⟨h, gs, d, tk, os⟩)
    (he : starEach (e :: rest) env = (false, eval e env) :: starEach rest env := by rfl)
    (hplain : (backTo pos (starEach rest env)).any (·.1) = false := by rfl) (hd : (x == ("__debug__" : Str)) = false := by decide +kernel) :
    wpAny (model prog w) A (eval (.Call (.Name x p') (e :: rest) [] pos) env) Q E ⟨h, gs, d, tk, os⟩ :=
  Call_ (bName F Y ek hv hn (PyProof.Rows.callWith_type1 hq he hplain) V.k hx V.gl V.bl hd)
end
end

section
set_option maxRecDepth 100000
set_option maxHeartbeats 4000000
set_option linter.unusedVariables false
open PySem PySem.W PyProof.Rows PySem.Calls PySem.SeqAt
theorem intsGet : ∀ {vs : List Value} {ns : List Int} {k : Nat}, IntsAre vs ns → k < ns.length → ∃ t, vs.getD k .none = .int (ns.getD k 0) t
  | _, _, 0, .cons n t _, _ => ⟨t, rfl⟩
  | _, _, k + 1, .cons n t r, h => intsGet (k := k) r (by simpa using h)
section
variable {prog : Program} {w : World} {A : Around} {g h : Heap} {gs : Array GenState} {d : Drawn} {tk : Nat} {os : OsState} {L it : Addr} {m : Str → Option Value} {news rest : List (Addr × Obj)} {E : Value → Shared → Prop} {env : Env}
  {K : Frag} {p : Program} {loose : List Str} {mg mb : Str → Option Value}
theorem negI {i : Int} {k : Nat} {pos pos' : Pos} {Q : Value → Shared → Prop} (hq : ∀ t tk', Q (.int (-i) t) ⟨h, gs, d, tk', os⟩) :
    wpAny (model prog w) A (eval (.UnaryOp .USub (.Constant (.int i) k pos) pos') env) Q E ⟨h, gs, d, tk, os⟩ :=
  wpAny_UnaryOp (wpAny_Constant_int (PyProof.Rows.neg_int (hq _ _)))
/-- xs[-1] of ints -/
theorem lastI {value slice : PySem.Expr} {l : Addr} {vs : List Value} {n : Nat} {t : Tok} {ns : List Int} {Q : Value → Shared → Prop} (e : h.get? l = some (listOf vs.toArray n)) (hi : IntsAre vs ns) (hne : ns ≠ []) (hf : vs.length ≤ 1000)
    (hq : ∀ t, Q (.int (ns.getD (ns.length - 1) 0) t) ⟨h, gs, d, tk, os⟩)
    (hsb : subscripted slice false (.ref l) (.int (-1) t) = operate [.ref l, .int (-1) t] (getItem (.ref l) (.int (-1) t)) := by with_unfolding_all rfl) :
    wpAny (model prog w) A (subscriptTail value slice (.ref l) (.int (-1) t)) Q E ⟨h, gs, d, tk, os⟩ := by
  have hlen := hi.length
  have hl : 0 < ns.length := List.length_pos_iff.mpr hne
  have hvn : vs ≠ [] := by rintro rfl; simp at hlen; omega
  refine tail_any (s := ⟨h, gs, d, tk, os⟩) (PySem.IsL.isList e).typeIs slot_list_getitem.lookup (getItem_last e hvn (by omega) ?_) hsb
  obtain ⟨t', e'⟩ := intsGet hi (k := ns.length - 1) (by omega)
  rw [hlen, e']
  exact hq t'
/-- xs[0] of ints -/
theorem firstI {value slice : PySem.Expr} {l : Addr} {vs : List Value} {n : Nat} {t : Tok} {ns : List Int} {Q : Value → Shared → Prop} (e : h.get? l = some (listOf vs.toArray n)) (hi : IntsAre vs ns) (hne : ns ≠ []) (hf : vs.length ≤ 1000)
    (hq : ∀ t, Q (.int (ns.getD 0 0) t) ⟨h, gs, d, tk, os⟩)
    (hsb : subscripted slice false (.ref l) (.int 0 t) = operate [.ref l, .int 0 t] (getItem (.ref l) (.int 0 t)) := by with_unfolding_all rfl) :
    wpAny (model prog w) A (subscriptTail value slice (.ref l) (.int 0 t)) Q E ⟨h, gs, d, tk, os⟩ := by
  have hlen := hi.length
  have hl : 0 < ns.length := List.length_pos_iff.mpr hne
  obtain ⟨t', e'⟩ := intsGet hi (k := 0) (by omega)
  exact item_any (k := 0) e rfl (by omega) (by decide) (e' ▸ hq t') hsb
/-- a pair is made -/
theorem newPair {M : Model} {a b : Value} {Q : Value → Shared → Prop} (F : Fr g L h m) (N : News g L h news)
    (hq : ∀ D h', Fr g L h' m → News g L h' ((D, tup a b) :: news) → (∀ p ∈ news, p.1 ≠ D) → h.get? D = none → (∀ b o, h.get? b = some o → h'.get? b = some o) → Q (.ref D) ⟨h', gs, d, tk, os⟩) :
    wpAny M A (newTuple [a, b]) Q E ⟨h, gs, d, tk, os⟩ := by
  have hn : h.get? h.objs.size = none := by
    cases e : h.get? h.objs.size with
    | none => rfl
    | some o => exact absurd (Heap.lt_size e) (Nat.lt_irrefl _)
  exact wpAny_newObj_type (hq _ _ (F.push _) (News.push F N _) (fun p hp => Nat.ne_of_lt (Heap.lt_size (N p hp).1)) hn fun b o e => Heap.get?_push_of_some _ e) (by show (2 : Nat) ≤ sizeLine; decide)
end
end

section
set_option maxRecDepth 100000
set_option maxHeartbeats 4000000
set_option linter.unusedVariables false
open PySem PySem.W PyProof.Rows PySem.Calls PySem.SeqAt
/-- a list without the first edge (a, b) -/
noncomputable def cutV (es : List (Int × Int)) (e : Int × Int) (vs : List Value) : List Value := vs.take (es.idxOf e) ++ vs.drop (es.idxOf e + 1)
theorem Edges.cut {h : Heap} {es : List (Int × Int)} {vs : List Value} {e : Int × Int} (x : Edges h es vs) (hm : e ∈ es) : Edges h (es.erase e) (cutV es e vs) := by
  rw [erase_idx _ _ hm]; exact (x.take _).append (x.drop _)
/-! what _law_best does -/
noncomputable def goodB (u : Int) (es : List (Int × Int)) (b : Int) : Bool := es.contains (u, b) && allMet b (es.erase (u, b))
noncomputable def intR (n : Nat) : List Int := (List.range n).map fun k : Nat => (k : Int)
noncomputable def goodL (u : Int) (es : List (Int × Int)) : List Int := (intR 5).filter (goodB u es)
noncomputable def pickB (wh : Int) (l : List Int) : Option Int := if wh = 0 then l.head? else l.getLast?
inductive BestR (wh : Int) : List (Int × Int) → Int → List Int → Prop
  | nil (u : Int) : BestR wh [] u []
  | cons {es : List (Int × Int)} {u b : Int} {P : List Int} : es ≠ [] → pickB wh (goodL u es) = some b → BestR wh (es.erase (u, b)) b P → BestR wh es u (b :: P)
theorem pickB_mem {wh : Int} {l : List Int} {b : Int} (h : pickB wh l = some b) : b ∈ l := by
  unfold pickB at h
  split at h
  · exact List.mem_of_head? h
  · exact List.mem_of_getLast? h
theorem goodB_mem {u : Int} {es : List (Int × Int)} {b : Int} (h : goodB u es b = true) : (u, b) ∈ es := by
  unfold goodB at h
  rw [Bool.and_eq_true] at h
  simpa using h.1
theorem good_mem {wh : Int} {u : Int} {es : List (Int × Int)} {b : Int} (h : pickB wh (goodL u es) = some b) : (u, b) ∈ es :=
  goodB_mem (List.mem_filter.mp (pickB_mem h)).2
section
variable {prog : Program} {w : World} {A : Around} {g h : Heap} {gs : Array GenState} {d : Drawn} {tk : Nat} {os : OsState} {L it : Addr} {m : Str → Option Value} {news rest : List (Addr × Obj)} {E : Value → Shared → Prop} {env : Env}
theorem pickSub {value slice : PySem.Expr} {l : Addr} {vs : List Value} {n : Nat} {t : Tok} {ns : List Int} {wh b : Int} {Q : Value → Shared → Prop} (e : h.get? l = some (listOf vs.toArray n)) (hi : IntsAre vs ns) (hw : wh = 0 ∨ wh = -1) (hp : pickB wh ns = some b) (hf : vs.length ≤ 1000)
    (hq : ∀ t, Q (.int b t) ⟨h, gs, d, tk, os⟩)
    (hsb : ∀ i, subscripted slice false (.ref l) (.int i t) = operate [.ref l, .int i t] (getItem (.ref l) (.int i t)) := by intro _; with_unfolding_all rfl) :
    wpAny (model prog w) A (subscriptTail value slice (.ref l) (.int wh t)) Q E ⟨h, gs, d, tk, os⟩ := by
  have hne : ns ≠ [] := by rintro rfl; have := pickB_mem hp; cases this
  rcases hw with rfl | rfl
  · refine firstI e hi hne hf (fun t' => ?_) (hsb 0)
    have : ns.getD 0 0 = b := by
      unfold pickB at hp
      rw [if_pos rfl] at hp
      cases ns with
      | nil => cases hp
      | cons x xs => exact Option.some.inj hp
    rw [this]; exact hq t'
  · refine lastI e hi hne hf (fun t' => ?_) (hsb (-1))
    have : ns.getD (ns.length - 1) 0 = b := by
      unfold pickB at hp
      rw [if_neg (by decide)] at hp
      rw [List.getD_eq_getElem?_getD, ← List.getLast?_eq_getElem?, hp]; rfl
    rw [this]; exact hq t'
end
end

section
set_option maxRecDepth 100000
set_option maxHeartbeats 4000000
open PySem PySem.W PyProof.Rows PySem.Calls
theorem without_c (w : World) (mg mb : Str → Option Value) (G : Heap) (A : Around) (hp : Heap) (gs : Array GenState) (d : Drawn) (tk : Nat) (os : OsState) (l r : Addr) (vs : List Value) (n : Nat) (es : List (Int × Int)) (a b : Int) (t1 t2 : Tok)
   (Q E : Value → Shared → Prop)
   (hA : A.depth + 30 < recursionLimit) (hh : A.handled = none) (hG : Kept [] G hp) (hl : hp.get? l = some (listOf vs.toArray n)) (hr : hp.get? r = some (tup (.int a t1) (.int b t2))) (he : Edges hp es vs) (hz : es.length ≤ 60) (hm : (a, b) ∈ es) (hu : A.units + 20 < cLine)
   (hQ : ∀ h' tk' D us c, Kept [] hp h' → h'.get? D = some (listOf us.toArray c) → hp.get? D = none → us = cutV es (a, b) vs → Q (.ref D) ⟨h', gs, d, tk', os⟩) :
   (Gd (hd.heap_1 w.params) vw (looseW vw lo) mg mb G) → 
   wpAny (model PySem.Challenge.rw_il0096_01.row.prog w) A (call (.ref 388) [.ref l, .ref r]) Q E ⟨hp, gs, d, tk, os⟩ := by
  k_fill
  intro X
  obtain ⟨aH, aD, aF, aG, aU⟩ := A
  obtain rfl : aH = none := hh
  replace hA : aD + 30 < recursionLimit := hA
  refine' enter (news := []) (binds := [("left", .ref l), ("step", .ref r)]) X hG [] (by simp) (by simp) ?ho ?hcd ?hroom ?hbind ?hloc ?_ ?h1 ?h2 ?h3 ?h4
  case ho => k_dflt k_is
  case hcd => k_dflt k_is
  case hroom => first | omega | (show aD < _; omega)
  case hbind => first | exact BindsTo.of_eq rfl | exact kp_binds (X.keeps hG).X (fun _ => rfl)
  case hloc => exact locs rfl
  case h1 => rfl
  case h2 => rfl
  case h3 => rfl
  case h4 => decide
  intro g L h₁ Y hgs hgz F N hL
  simp only [List.reverse_cons, List.reverse_nil, List.nil_append, List.cons_append, updL] at F
  have KX := Y.X
  have TT := Y.T
  have hgs' : ∀ b o, hp.get? b = some o → g.get? b = some o := fun b o e => hgs b o e (by simp)
  have heg : Edges g es vs := he.mono fun b o _ e => hgs' b o e
  refine wpAny_execs_cons ?_
  refine wpAny_Assign_Name ?_
  refine MethodCall_ ?_
  walk_at "nm"
  refine methL (F.keep _ _ (hgs' _ _ hl)) PySem.F.slot_list_index PySem.F.type_list_index ?_
  refine callWith_method1 ?_
  refine args_cons ?_
  walk_at "nm"
  refine args_nil ?_
  refine index_edges (es := es) (F.keep _ _ (hgs' _ _ hl)) (heg.mono fun b o _ e => F.keep b o e) (F.keep _ _ (hgs' _ _ hr)) (by show aU + 3 + 10 < cLine; have hu : aU + 20 < cLine := hu; omega) hm (by omega) ?_
  intro ti tki
  refine stL F N ?_
  intro h2 tk2 F2 N2
  refine wpAny_execs_cons ?_
  refine wpAny_Return_some ?_
  refine wpAny_BinOp ?_
  refine Subscript_ ?_
  walk_at "nm"
  refine wpAny_Slice ?_
  refine wpAny_pure ?_
  show wpAny _ _ (eval _ _) _ _ _
  walk_at "nm"
  refine wpAny_pure ?_
  have hlen := heg.length
  have hj : es.idxOf (a, b) < es.length := List.idxOf_lt_length_iff.mpr hm
  refine sliceL F2 N2 (F2.keep _ _ (hgs' _ _ hl)) .none (.int _ _) ?_ (by omega)
  intro D3 h3 F3 N3 hlt3 hD3 hk3
  refine Subscript_ ?_
  walk_at "nm"
  refine wpAny_Slice ?_
  show wpAny _ _ (eval _ _) _ _ _
  refine wpAny_BinOp ?_
  walk_at "nm"
  refine cI ?_
  intro _ _
  refine addI ?_
  intro _ _
  refine wpAny_pure ?_
  refine wpAny_pure ?_
  refine sliceL F3 N3 (F3.keep _ _ (hgs' _ _ hl)) (.int _ _) .none ?_ (by omega)
  intro D4 h4 F4 N4 hlt4 hD4 hk4
  have e1 : kms_pick vs none (some ((es.idxOf (a, b) : Nat) : Int)) = vs.take (es.idxOf (a, b)) := by
    unfold kms_pick kms_lo kms_hi
    simp only [List.drop_zero, Nat.sub_zero, show ¬ (((es.idxOf (a, b) : Nat) : Int) < 0) by omega, if_false, Int.toNat_natCast]
    rw [Nat.min_eq_left (by omega)]
  have e2 : kms_pick vs (some (((es.idxOf (a, b) : Nat) : Int) + 1)) none = vs.drop (es.idxOf (a, b) + 1) := by
    unfold kms_pick kms_lo kms_hi
    simp only [show ¬ (((es.idxOf (a, b) : Nat) : Int) + 1 < 0) by omega, if_false]
    rw [show (((es.idxOf (a, b) : Nat) : Int) + 1).toNat = es.idxOf (a, b) + 1 by omega, Nat.min_eq_left (by omega)]
    exact List.take_of_length_le (by rw [List.length_drop]; exact Nat.le_refl _)
  rw [e1] at N3
  rw [e1, e2] at N4
  refine addL F4 N4 (N4 _ (.tail _ (.head _))).1 (N4 _ (.head _)).1 ?_ (by rw [List.length_take, List.length_drop]; omega)
  intro D5 h5 F5 N5 hlt5 hD5 hk5
  refine hQ _ _ _ _ _ (kept_end hgs hgz F5) (N5 _ (.head _)).1 ?_ ?_
  · cases e : hp.get? D5 with
    | none => rfl
    | some o' => rw [F4.keep _ _ (hgs' _ _ e)] at hD5; cases hD5
  · rfl
end

section
set_option maxRecDepth 100000
set_option maxHeartbeats 4000000
open PySem PySem.W PyProof.Rows PySem.Calls
theorem allmet_c (w : World) (mg mb : Str → Option Value) (G : Heap) (A : Around) (hp : Heap) (gs : Array GenState) (d : Drawn) (tk : Nat) (os : OsState) (p0 : Int) (t0 : Tok) (l : Addr) (vs : List Value) (n : Nat) (es : List (Int × Int))
   (Q E : Value → Shared → Prop)
   (hA : A.depth + 60 < recursionLimit) (hh : A.handled = none) (hG : Kept [] G hp) (hl : hp.get? l = some (listOf vs.toArray n)) (he : Edges hp es vs) (hz : es.length ≤ 60) (hu : A.units + 20 < cLine)
   (hQ : ∀ h' tk', Kept [] hp h' → Q (.bool (allMet p0 es)) ⟨h', gs, d, tk', os⟩) :
   (Gd (hd.heap_1 w.params) vw (looseW vw lo) mg mb G) → 
   wpAny (model PySem.Challenge.rw_il0096_01.row.prog w) A (call (.ref 381) [.int p0 t0, .ref l]) Q E ⟨hp, gs, d, tk, os⟩ := by
  k_fill
  intro X
  obtain ⟨aH, aD, aF, aG, aU⟩ := A
  obtain rfl : aH = none := hh
  replace hA : aD + 60 < recursionLimit := hA
  refine' enterK (news := []) (binds := [("page", .int p0 t0), ("left", .ref l)]) X hG [] (by simp) (by simp) ?ho ?hcd ?hroom ?hbind ?hkind ?hnd ?_ ?h1 ?h2 ?h3
  case ho => k_dflt k_is
  case hcd => k_dflt k_is
  case hroom => first | omega | (show aD < _; omega)
  case hbind => first | exact BindsTo.of_eq rfl | exact kp_binds (X.keeps hG).X (fun _ => rfl)
  case hkind => exact kindsX rfl
  case hnd => decide +kernel
  case h1 => rfl
  case h2 => rfl
  case h3 => rfl
  intro g L h₁ tk1 cells Y hgs hgz F N hcells hL
  have KX := Y.X
  have TT := Y.T
  have hgs' : ∀ b o, hp.get? b = some o → g.get? b = some o := fun b o e => hgs b o e (by simp)
  have heg : Edges g es vs := he.mono fun b o _ e => hgs' b o e
  have hlen := heg.length
  have hlg := hgs' _ _ hl
  obtain ⟨co, rfl, hco⟩ := hcells.one
  generalize hm0 : bindL _ _ _ = m0 at F
  have m1 : m0 "page" = some (.int p0 t0) := by rw [← hm0]; rfl
  have m2 : m0 "left" = some (.ref l) := by rw [← hm0]; rfl
  clear hm0
  refine wpAny_execs_cons ?_
  refine wpAny_Assign_Name ?_
  refine List_ ?_
  refine args_cons ?_
  refine lN ⟨rfl, by kernel_rfl!, rfl, rfl⟩ F (by kernel_rfl!) m1 ?_
  refine args_nil ?_
  refine newL F N (by simp) ?_
  intro D1 h1 F1 N1 hne1 hD1 hk1
  have hcD : L + 1 ≠ D1 := hne1 (L + 1, co) (.head _)
  refine sC (c := L + 1) F1 (rest := [(D1, listOf [Value.int p0 t0].toArray 0)]) (News.sub N1 (by simp)) (by simp; exact hcD.symm) hco ?_ rfl (by kernel_rfl!) (by rfl)
  intro h2 co2 F2 N2 hco2
  refine wpAny_execs_cons ?_
  refine wpAny_For ?_
  refine callTE ⟨rfl, by kernel_rfl!, rfl, rfl⟩ F2 Y (by k_dflt k_is) (by boot_fast) (by decide +kernel) (by kernel_rfl!) ?_
  refine args_cons ?_
  refine cI ?_
  intro _ _
  refine args_nil ?_
  refine rangeL F2 N2 ?_
  intro r3 h3 _ _ _ _ hr3 F3 N3
  refine iterRange (n := 4) F3 N3 hr3 (by decide) ?_
  intro it h4 F4 N4 hne4
  refine forR (x := fun k v => ∃ t, v = .int k t) (ok := fun k o => rangeOk k 4 o) (StepsR.range (n := 4) (by exact rfl)) (fun k m nw => m "left" = some (.ref l) ∧ ∃ co D us c, nw = [(L + 1, co), (D, listOf us.toArray c)] ∧ co.data = .cell (some (.ref D)) ∧ IntsAre us (growN es k [p0])) F4 N4 hne4 rfl ⟨m2, _, _, _, _, rfl, hco2, .cons _ _ .nil⟩ ?_ ?_
  · rintro k v o m nw h tk hk ⟨tv, rfl⟩ F N hne ok ⟨m2, co, D, us, c, rfl, hco, hi⟩
    have hci : L + 1 ≠ it := hne (L + 1, co) (.head _)
    have hDi : D ≠ it := hne (D, listOf us.toArray c) (.tail _ (.head _))
    refine letGo_name ?_
    refine sN ⟨rfl, by kernel_rfl!, rfl, rfl⟩ F N (by kernel_rfl!) ?_
    intro h5 tk5 F5 N5
    refine wpAny_execs_cons ?_
    refine wpAny_Assign_Name ?_
    refine wpAny_BinOp ?_
    refine cN ⟨rfl, by kernel_rfl!, rfl, rfl⟩ (by kernel_rfl!) (by rfl) (N5 _ (.tail _ (.head _))).1 hco ?_
    refine listComp (cl := [("met", L + 1)]) (by with_unfolding_all rfl) rfl (by decide) ?_
    refine lN ⟨rfl, by kernel_rfl!, rfl, rfl⟩ F5 (by kernel_rfl!) (by walk_at "lk") ?_
    refine compList (xs := vs) Y F5 N5 (F5.keep _ _ hlg) (by omega) (fun k2 ws => IntsAre ws (((es.take k2).filter fun e => (growN es k [p0]).any (· == e.1) && !(growN es k [p0]).any (· == e.2)).map (·.2))) .nil ?_ ?_
    · intro k2 ws g2 C h6 tk6 m6 o' nw it' hk2 Y2 hgs2 hz2 F6 N6 hm6 ok6 hsl
      have hkh : k2 < es.length := by omega
      obtain ⟨r, t1, t2, e1, e2⟩ := heg.get hkh
      have ek : es[k2] = es.getD k2 default := by simp [List.getD_eq_getElem?_getD, hkh]
      rw [e1]
      refine met_turn1 ⟨rfl, by kernel_rfl!, rfl, rfl⟩ F6 N6 hm6 ok6 (by exact rfl) (hgs2 _ _ (F5.keep _ _ e2)) (by kernel_rfl!) (by kernel_rfl!) (by kernel_rfl!) (by rfl) (hgs2 _ _ (N5 _ (.tail _ (.head _))).1) hco (hgs2 _ _ (N5 _ (.tail _ (.tail _ (.head _)))).1) hi ?_ ?_
      · intro m' hb
        refine ⟨rfl, ?_⟩
        rw [List.take_succ_eq_append_getElem hkh, List.filter_append, List.map_append, ek, List.filter_cons, hb]
        exact hsl.append (.cons _ _ .nil)
      · intro m' hb
        refine ⟨rfl, ?_⟩
        rw [List.take_succ_eq_append_getElem hkh, List.filter_append, List.map_append, ek, List.filter_cons, hb]
        simpa using hsl
    · intro h7 tk7 D7 ws c7 F7 N7 hr7 hul7 hD7 hn7
      rw [List.take_of_length_le (by omega)] at hr7
      have hb1 := hi.length
      have hb2 := growN_length es [p0] k
      have hb3 : k * es.length ≤ 3 * 60 := Nat.mul_le_mul (by omega) hz
      refine addL F7 N7 (N7 _ (.tail _ (.tail _ (.tail _ (.head _))))).1 (N7 _ (.head _)).1 ?_ (by simp at hb2; omega)
      intro D8 h8 F8 N8 hne8 hD8 hk8
      refine sC (c := L + 1) F8 (rest := [(D8, listOf (us ++ ws).toArray 0), (it, o)]) (News.sub N8 ?_) ?_ hco ?_ rfl (by kernel_rfl!) (by rfl)
      · simp
      · simp only [List.mem_cons, List.not_mem_nil, or_false]
        rintro q (rfl | rfl)
        · exact (hne8 (L + 1, co) (.tail _ (.tail _ (.head _)))).symm
        · exact hci.symm
      intro h9 co9 F9 N9 hco9
      refine wpAny_execs_nil ?_
      refine At.mk F9 (News.sub N9 (nw' := [(it, o), (L + 1, co9), (D8, listOf (us ++ ws).toArray 0)]) (by simp)) ⟨_, rfl, ?_, ?_⟩
      · simp only [List.mem_cons, List.not_mem_nil, or_false]
        rintro q (rfl | rfl)
        · exact hci
        · exact (hne8 (it, o) (.tail _ (.head _))).symm
      · exact ⟨by walk_at "lk", co9, D8, us ++ ws, 0, rfl, hco9, hi.append hr7⟩
  · rintro h5 tk5 m5 nw F5 N5 ⟨m2, co, D, us, c, rfl, hco, hi⟩
    refine wpAny_execs_cons ?_
    refine wpAny_Return_some ?_
    refine wpAny_Compare1 ?_
    refine listComp (cl := [("met", L + 1)]) (by with_unfolding_all rfl) rfl (by decide) ?_
    refine lN ⟨rfl, by kernel_rfl!, rfl, rfl⟩ F5 (by kernel_rfl!) m2 ?_
    refine compList (xs := vs) Y F5 N5 (F5.keep _ _ hlg) (by omega) (fun k2 ws => IntsAre ws (((es.take k2).filter fun e => !(growN es 4 [p0]).any (· == e.1)).map (·.1))) .nil ?_ ?_
    · intro k2 ws g2 C h6 tk6 m6 o' nw it' hk2 Y2 hgs2 hz2 F6 N6 hm6 ok6 hsl
      have hkh : k2 < es.length := by omega
      obtain ⟨r, t1, t2, e1, e2⟩ := heg.get hkh
      have ek : es[k2] = es.getD k2 default := by simp [List.getD_eq_getElem?_getD, hkh]
      rw [e1]
      refine met_turn2 ⟨rfl, by kernel_rfl!, rfl, rfl⟩ F6 N6 hm6 ok6 (by exact rfl) (hgs2 _ _ (F5.keep _ _ e2)) (by kernel_rfl!) (by kernel_rfl!) (by kernel_rfl!) (by rfl) (hgs2 _ _ (N5 _ (.head _)).1) hco (hgs2 _ _ (N5 _ (.tail _ (.head _))).1) hi ?_ ?_
      · intro m' hb
        refine ⟨rfl, ?_⟩
        rw [List.take_succ_eq_append_getElem hkh, List.filter_append, List.map_append, ek, List.filter_cons, hb]
        exact hsl.append (.cons _ _ .nil)
      · intro m' hb
        refine ⟨rfl, ?_⟩
        rw [List.take_succ_eq_append_getElem hkh, List.filter_append, List.map_append, ek, List.filter_cons, hb]
        simpa using hsl
    · intro h7 tk7 D7 ws c7 F7 N7 hr7 hul7 hD7 hn7
      rw [List.take_of_length_le (by omega)] at hr7
      refine List_ ?_
      refine args_nil ?_
      refine newL F7 N7 (by simp) ?_
      intro D8 h8 F8 N8 hne8 hD8 hk8
      refine eq_nilL (N8 _ (.tail _ (.head _))).1 (N8 _ (.head _)).1 (by show aU + 3 < cLine; have hu : aU + 20 < cLine := hu; omega) ?_
      have hb : ws.isEmpty = allMet p0 es := by
        unfold allMet
        have := hr7.length
        rw [List.length_map] at this
        rw [Bool.eq_iff_iff, List.isEmpty_iff_length_eq_zero, List.isEmpty_iff_length_eq_zero, this]
      exact hb ▸ hQ _ _ (kept_end hgs hgz F8)
end

section
set_option maxRecDepth 100000
set_option maxHeartbeats 4000000
open PySem PySem.W PyProof.Rows PySem.Calls
/-- [b for b in range(5) if ..]: a turn -/
theorem best_turn {w : World} {mg mb : Str → Option Value} {A : Around} {g h : Heap} {gs : Array GenState} {d : Drawn} {tk : Nat} {os : OsState} {it : Addr} {m : Str → Option Value} {news : List (Addr × Obj)} {env : Env}
    {p1 p2 p3 p4 p5 p6 p7 p8 p9 p10 p11 p12 p13 p14 p15 p16 p17 p18 p19 p20 p21 p22 p23 : Pos} {i1 i2 i3 i4 : Nat} {W l c1 c2 : Addr} {o1 o2 : Obj} {b : Int} {t0 : Tok} {ws vs : List Value} {nw n : Nat} {ways : List Int} {es : List (Int × Int)} {P : (Str → Option Value) → List (Addr × Obj) → Prop} {P2 : Value → (Str → Option Value) → List (Addr × Obj) → Prop}
    (V : FnEnv env) (F : Fr g env.locals h m) (N : News g env.locals h news) (hh : A.handled = none) (hA : A.depth + 100 < recursionLimit) (hu : A.units + 40 < cLine)
    (kb : env.kindOf "b" = some .local) (kw : env.kindOf "way" = some .cell) (kl : env.kindOf "left" = some .cell) (lw : env.cells.lookup ("way" : Str) = some c1) (ll : env.cells.lookup ("left" : Str) = some c2) (ka : env.kindOf "_law_all_met" = some .globalImplicit) (kwo : env.kindOf "_law_without" = some .globalImplicit)
    (hc1 : g.get? c1 = some o1) (ho1 : o1.data = .cell (some (.ref W))) (hc2 : g.get? c2 = some o2) (ho2 : o2.data = .cell (some (.ref l)))
    (hW : g.get? W = some (listOf ws.toArray nw)) (hi : IntsAre ws ways) (hne : ways ≠ []) (hwl : ws.length ≤ 1000) (hl : g.get? l = some (listOf vs.toArray n)) (he : Edges g es vs) (hz : es.length ≤ 60)
    (h1 : ∀ m' t, goodB (ways.getD (ways.length - 1) 0) es b = true → P2 (.int b t) m' news) (h2 : ∀ m', goodB (ways.getD (ways.length - 1) 0) es b = false → P m' news) :
    Gd (hd.heap_1 w.params) vw (looseW vw lo) mg mb g → wpAny (model PySem.Challenge.rw_il0096_01.row.prog w) A (letOwnedTupleGo (.Name "b" p1) (.ref it) (.int b t0)) (fun _ s₁ => wpAny (model PySem.Challenge.rw_il0096_01.row.prog w) A (assign (.Name "b" p1) env (.int b t0)) (fun _ s₂ =>
        wpAny (model PySem.Challenge.rw_il0096_01.row.prog w) A (testsOf [.BoolOp .And [
          .Compare (.Tuple [.Subscript (.Name "way" p2) (.UnaryOp .USub (.Constant (.int 1) i1 p3) p4) p5, .Name "b" p6] i2 p7) [.In] [.Name "left" p8] p9,
          .Call (.Name "_law_all_met" p10) [.Name "b" p11, .Call (.Name "_law_without" p12) [.Name "left" p13, .Tuple [.Subscript (.Name "way" p14) (.UnaryOp .USub (.Constant (.int 1) i3 p15) p16) p17, .Name "b" p18] i4 p19] [] p20] [] p21] p22] env) (fun b s₃ => if b = true then wpAny (model PySem.Challenge.rw_il0096_01.row.prog w) A (eval (.Name "b" p23) env) (fun v s₄ => At g env.locals gs d os (P2 v) s₄) (fun _ _ => False) s₃
          else At g env.locals gs d os P s₃) (fun _ _ => False) s₂) (fun _ _ => False) s₁) (fun _ _ => False) ⟨h, gs, d, tk, os⟩ := by
  k_fill
  intro Y
  refine letGo_name ?_
  refine sN V F N kb ?_
  intro h7 tk7 F7 N7
  refine tests1 ?_
  refine isTrue_and ?_
  refine wpAny_isTrue_Compare1 ?_
  refine Tuple_ ?_
  refine args_cons ?_
  refine Subscript_ ?_
  refine cN V kw lw (F7.keep _ _ hc1) ho1 ?_
  refine negI ?_
  intro _ _
  refine lastI (F7.keep _ _ hW) hi hne hwl ?_
  intro _
  refine args_cons ?_
  refine lN V F7 kb (by walk_at "lk") ?_
  refine args_nil ?_
  refine newPair F7 N7 ?_
  intro D8 h8 F8 N8 hne8 hD8 hk8
  refine cN V kl ll (F8.keep _ _ hc2) ho2 ?_
  have he8 : Edges h8 es vs := he.mono fun b o _ e => F8.keep b o e
  refine in_edges (F8.keep _ _ hl) he8 (N8 _ (.head _)).1 (by omega) ?_
  refine wpAny_truthy_bool ?_
  generalize hu0 : ways.getD (ways.length - 1) 0 = u at *
  cases hin : es.contains (u, b) with
  | false =>
    simp only [Bool.false_eq_true, if_false]
    exact At.mk F8 (News.sub N8 fun p hp => .tail _ hp) (h2 _ (by unfold goodB; rw [hin]; rfl))
  | true =>
    simp only [if_true]
    have hmem : (u, b) ∈ es := by simpa using hin
    refine isTrue_and ?_
    refine isTrue_plain ?_
    refine callGE V F8 Y (by k_dflt k_is) (by k_dflt k_is) ka ?_
    refine args_cons ?_
    refine lN V F8 kb (by walk_at "lk") ?_
    refine args_cons ?_
    refine callGE V F8 Y (by k_dflt k_is) (by k_dflt k_is) kwo ?_
    refine args_cons ?_
    refine cN V kl ll (F8.keep _ _ hc2) ho2 ?_
    refine args_cons ?_
    refine Tuple_ ?_
    refine args_cons ?_
    refine Subscript_ ?_
    refine cN V kw lw (F8.keep _ _ hc1) ho1 ?_
    refine negI ?_
    intro _ _
    refine lastI (F8.keep _ _ hW) hi hne hwl ?_
    intro _
    rw [hu0]
    refine args_cons ?_
    refine lN V F8 kb (by walk_at "lk") ?_
    refine args_nil ?_
    refine newPair F8 N8 ?_
    intro D9 h9 F9 N9 hne9 hD9 hk9
    refine args_nil ?_
    refine ⟨Y.X.keeps F9.keep, ?_⟩
    have he9 : Edges h9 es vs := he.mono fun b o _ e => F9.keep b o e
    refine without_c w mg mb g A h9 gs d _ os l D9 vs n es u b _ _ _ _ (by omega) hh (Kept.ofFr F9) (F9.keep _ _ hl) (N9 _ (.head _)).1 he9 hz hmem (by omega) ?_ Y
    intro h10 tk10 D us c k10 eD hDn hus
    have F10 := fr_back0 F9 k10
    have N10 := news_back0 N9 k10
    refine args_nil ?_
    refine ⟨Y.X.keeps F10.keep, ?_⟩
    have he10 : Edges h10 (es.erase (u, b)) us := hus ▸ (he.mono fun b o _ e => F10.keep b o e).cut hmem
    refine allmet_c w mg mb g A h10 gs d _ os b _ D us c (es.erase (u, b)) _ _ (by omega) hh (Kept.ofFr F10) eD he10 (by have := List.length_erase_le (a := (u, b)) (l := es); omega) (by omega) ?_ Y
    intro h11 tk11 k11
    have F11 := fr_back0 F10 k11
    have N11 := news_back0 N10 k11
    refine wpAny_truthy_bool ?_
    cases ham : allMet b (es.erase (u, b)) with
    | false =>
      simp only [Bool.false_eq_true, if_false]
      exact At.mk F11 (News.sub N11 fun p hp => .tail _ (.tail _ hp)) (h2 _ (by unfold goodB; rw [hin, ham]; rfl))
    | true =>
      simp only [if_true]
      refine isTrue_and_nil ?_
      simp only [if_true]
      refine lN V F11 kb (by walk_at "lk") ?_
      exact At.mk F11 (News.sub N11 fun p hp => .tail _ (.tail _ hp)) (h1 _ _ (by unfold goodB; rw [hin, ham]; rfl))
end

section
set_option maxRecDepth 100000
set_option maxHeartbeats 4000000
set_option linter.unusedVariables false
open PySem PySem.W PyProof.Rows PySem.Calls PySem.SeqAt
section
variable {prog : Program} {w : World} {A : Around} {g h G : Heap} {gs : Array GenState} {d : Drawn} {tk : Nat} {os : OsState} {it : Addr} {m : Str → Option Value} {news rest : List (Addr × Obj)} {E : Value → Shared → Prop} {env : Env}
  {K : Frag} {p : Program} {loose : List Str} {mg mb : Str → Option Value}
/-- a comprehension whose list goes into a local name at once -/
theorem assignComp {M : Model} {s : Shared} {elt iter target : PySem.Expr} {ifs : List PySem.Expr} {scope : Scope} {cl : List (Str × Addr)} {pos spos py : Pos} {y : Str} {Q : Flow → Shared → Prop}
    (hsw : swapsWith (.ListComp elt [⟨target, iter, ifs, 0⟩] scope pos) (some (.Name y py)) spos.line env = pure true)
    (hclos : closureFor scope env = pure cl) (hkind : scope.kind = .function) (hnames : ∀ x ∈ scope.names, x.2 = .local → scope.names.lookup x.1 = some .local)
    (h : wpAny M A (eval iter env) (fun x s₁ => wpAny M A (pyIter x) (fun it s₂ => wpAny M A (newList []) (fun acc s₃ => wpAny M A (newFunctionEnv scope env.globals cl [] env.qual none .none (some env)) (fun cenv s₄ =>
      codeAny M A (.compStart (.ListComp elt [⟨target, iter, ifs, 0⟩] scope pos) 0 it acc { cenv with scope := relabel scope env }) (compPost M A E (some (assign (.Name y py) env)) (fun _ s' => Q .next s') acc cenv.locals) s₄) E s₃) E s₂) E s₁) E s)
    (hs : ∀ x, foldedSetIterable iter env x = pure x := by intro _; rfl) :
    wpAny M A (exec (.Assign [.Name y py] (.ListComp elt [⟨target, iter, ifs, 0⟩] scope pos) spos) env) Q E s := by
  rw [exec_Assign_Name_used _ _ _ _ hsw]
  refine wpAny_bind (wpAny_standAt (wpAny_bind ?_))
  show wpAny _ A (do let _ ← comprehension (.ListComp elt [⟨target, iter, ifs, 0⟩] scope pos) scope env _ (newList []) false (eval iter env) (some (assign (.Name y py) env))) _ _ s
  exact wpAny_bind (wpAny_mono (wpAny_comprehension_free (use := some (assign (.Name y py) env)) (Q := fun _ s' => Q .next s') rfl hs hclos hkind hnames h) (fun _ s' hq => wpAny_pure (wpAny_pure hq)) fun _ _ e => e)
theorem compBlockU {elt iter target : PySem.Expr} {ifs : List PySem.Expr} {scope : Scope} {cl : List (Str × Addr)} {pos py : Pos} {y : Str} {m₀ : Str → Option Value} {I : Addr} {Q : Value → Shared → Prop}
    (hy : env.kindOf y = some .local) (hpl : (env.scope.kind == .class || (env.scope.kind == .module && env.locals != env.globals)) = false) (F₀ : Fr G env.locals h m₀)
    (hcell : ∀ y ∈ scope.names, y.2 ≠ .cell) (hkind : scope.kind = .function) (X : Gd K p loose mg mb G) (hG : Kept [] G h) (ex : List Addr) (hex : ∀ a ∈ ex, G.get? a = none) (hLex : env.locals ∉ ex)
    (hnews : ∀ q ∈ news, h.get? q.1 = some q.2 ∧ q.1 ∈ ex)
    (hself : ∀ (h' : Heap) (tk' : Nat) (E' : Value → Shared → Prop) (Q' : Value → Shared → Prop), (∀ b o, h.get? b = some o → h'.get? b = some o) → Q' (.ref I) ⟨h', gs, d, tk', os⟩ → wpAny (model prog w) A (pyIter (.ref I)) Q' E' ⟨h', gs, d, tk', os⟩)
    (loop : ∀ D C g h₁ tk₁, Gd K p loose mg mb g → (∀ b o, h.get? b = some o → b ∉ ex → g.get? b = some o) → h.objs.size ≤ g.objs.size → Fr g C h₁ none0 → News g C h₁ ((D, listOf #[] 0) :: news) → h.get? D = none →
      codeAny (model prog w) A (.compLoop (.ListComp elt [⟨target, iter, ifs, 0⟩] scope pos) 0 (.ref I) (.ref D) (compEnvC scope cl C env)) (fun r s' => r = .ok .next ∧ ∃ h' tk' m' nw, s' = ⟨h', gs, d, tk', os⟩ ∧ Fr g C h' m' ∧ News g C h' nw ∧
        ∀ h'' tk'', (∀ q ∈ nw, q.1 ≠ env.locals → h''.get? q.1 = some q.2) → Kept (env.locals :: ex) h h'' → h''.Ns env.locals (upd m₀ y (.ref D)) → Q .none ⟨h'', gs, d, tk'', os⟩) ⟨h₁, gs, d, tk₁, os⟩) :
    wpAny (model prog w) A (newList []) (fun acc s₃ => wpAny (model prog w) A (newFunctionEnv scope env.globals cl [] env.qual none .none (some env)) (fun cenv s₄ =>
      codeAny (model prog w) A (.compStart (.ListComp elt [⟨target, iter, ifs, 0⟩] scope pos) 0 (.ref I) acc { cenv with scope := relabel scope env }) (compPost (model prog w) A E (some (assign (.Name y py) env)) Q acc cenv.locals) s₄) E s₃) E ⟨h, gs, d, tk, os⟩ := by
  refine wpAny_newObj_type (wpAny_newFunctionEnv hcell (by intro y hy; simp at hy) (fun h₁ hns₁ hsb₁ => ?_) hkind)
  dsimp only at hns₁ hsb₁ ⊢
  generalize hH2 : h.push { cls := .type "list", dict := none, data := .seq ([] : List Value).toArray } = H2 at hns₁ hsb₁ ⊢
  have hsz : H2.objs.size = h.objs.size + 1 := by rw [← hH2, psz]
  have hk0 : ∀ b x, h.get? b = some x → H2.get? b = some x := fun b x e => hH2 ▸ Heap.get?_push_of_some _ e
  have hD : H2.get? h.objs.size = some (listOf #[] 0) := hH2 ▸ Heap.get?_push_size _ rfl
  have hDn : h.get? h.objs.size = none := by
    cases e : h.get? h.objs.size with
    | none => rfl
    | some x => exact absurd (Heap.lt_size e) (Nat.lt_irrefl _)
  have hk₁ : ∀ b x, H2.get? b = some x → h₁.get? b = some x := fun b x e => hsb₁.extBut b x (Nat.ne_of_lt (Heap.lt_size e)) (Heap.get?_push_of_some _ e)
  have hsub : ∀ b x, h.get? b = some x → b ∉ ex → (hideAll H2 (h.objs.size :: ex)).get? b = some x := fun b x e n =>
    hideAll_get _ (hk0 b x e) fun q => by
      rcases List.mem_cons.mp q with q | q
      · rw [q, hDn] at e; cases e
      · exact n q
  have hle : h.objs.size ≤ (hideAll H2 (h.objs.size :: ex)).objs.size := by rw [hideAll_size, hsz]; exact Nat.le_succ _
  have hGg : Kept [] G (hideAll H2 (h.objs.size :: ex)) := ⟨fun b x e _ => hsub b x (hG.get e) (fun q => by rw [hex b q] at e; exact nomatch e), Nat.le_trans hG.2 hle⟩
  have F : Fr (hideAll H2 (h.objs.size :: ex)) H2.objs.size h₁ none0 := ⟨hns₁, fun b x e => hk₁ b x (of_hideAll _ e), Nat.le_of_eq (hideAll_size _ _)⟩
  have N : News (hideAll H2 (h.objs.size :: ex)) H2.objs.size h₁ ((h.objs.size, listOf #[] 0) :: news) := fun q hq => by
    rcases List.mem_cons.mp hq with rfl | hq
    · exact ⟨hk₁ _ _ hD, Nat.ne_of_lt (Heap.lt_size hD), hideAll_none _ (.head _)⟩
    · have z := hnews q hq
      exact ⟨hk₁ _ _ (hk0 _ _ z.1), Nat.ne_of_lt (Heap.lt_size (hk0 _ _ z.1)), hideAll_none _ (.tail _ z.2)⟩
  have L := loop h.objs.size H2.objs.size (hideAll H2 (h.objs.size :: ex)) h₁ (tk + ([] : List (Str × Value)).length) (X.keeps hGg) hsub hle F N hDn
  have L' : codeAny (model prog w) A (.compLoop (.ListComp elt [⟨target, iter, ifs, 0⟩] scope pos) 0 (.ref I) (.ref h.objs.size) (compEnvC scope cl H2.objs.size env)) (compPost (model prog w) A E (some (assign (.Name y py) env)) Q (.ref h.objs.size) H2.objs.size) ⟨h₁, gs, d, tk + ([] : List (Str × Value)).length, os⟩ := by
    refine codeAny_mono L fun r s' q => ?_
    obtain ⟨rfl, h', tk', m', nw, rfl, F', N', hq⟩ := q
    obtain ⟨oL, a1, a2, hoL, a3⟩ := F₀.ns
    have hLs : env.locals < h.objs.size := Heap.lt_size hoL
    have hCL : H2.objs.size ≠ env.locals := Nat.ne_of_gt (Nat.lt_of_lt_of_le hLs (by rw [hsz]; exact Nat.le_succ _))
    have nsL : h'.Ns env.locals m₀ := ⟨oL, a1, a2, F'.keep _ _ (hsub _ _ hoL hLex), a3⟩
    show wpAny _ A (assign (.Name y py) env (.ref h.objs.size)) _ _ _
    refine wpAny_assign_Name (wpAny_storeName_local (s := ⟨h', gs, d, tk', os⟩) hy nsL (fun h₂ hn₂ hs₂ => ⟨m', F'.ns.sameBut hs₂ hCL, fun h'' hs => ?_⟩) hpl)
    refine hq h'' (tk' + 1) (fun q hq nq => ((hs.2 q.1 (N' q hq).2.1).trans ((hs₂.2 q.1 nq).trans (N' q hq).1))) ⟨fun b o e n => ?_, ?_⟩ (hn₂.sameBut hs (Ne.symm hCL))
    · simp only [List.mem_cons, not_or] at n
      refine (hs.2 b ?_).trans ((hs₂.2 b n.1).trans (F'.keep b o (hsub b o e n.2)))
      rintro rfl
      exact absurd (Heap.lt_size e) (by rw [hsz]; exact Nat.not_lt.mpr (Nat.le_succ _))
    · refine Nat.le_trans hle (Nat.le_trans F'.above ?_)
      have l1 : H2.objs.size < h'.objs.size := F'.ns.lt
      have l2 : h₂.objs.size = h'.objs.size := hs₂.1
      have l3 : h''.objs.size = h₂.objs.size := hs.1
      rw [l3, l2]
      exact Nat.le_of_lt l1
  exact codeAny_compStart_list L' (hself _ _ _ _ (fun b o e => hk₁ b o (hk0 b o e)) L')
theorem compGU {elt iter target : PySem.Expr} {ifs : List PySem.Expr} {scope : Scope} {cl : List (Str × Addr)} {pos py : Pos} {y : Str} {o : Obj} {Q : Value → Shared → Prop} {n : Nat} {x : Nat → Value → Prop} {ok : Nat → Obj → Prop}
    (hy : env.kindOf y = some .local) (hpl : (env.scope.kind == .class || (env.scope.kind == .module && env.locals != env.globals)) = false)
    (hcell : ∀ y ∈ scope.names, y.2 ≠ .cell) (hkind : scope.kind = .function) (Y : Gd K p loose mg mb g) (F : Fr g env.locals h m) (N : News g env.locals h ((it, o) :: rest)) (hn : ∀ p ∈ rest, p.1 ≠ it)
    (hself : ∀ (h' : Heap) (tk' : Nat) (E' : Value → Shared → Prop) (Q' : Value → Shared → Prop), (∀ b o, h.get? b = some o → h'.get? b = some o) → Q' (.ref it) ⟨h', gs, d, tk', os⟩ → wpAny (model prog w) A (pyIter (.ref it)) Q' E' ⟨h', gs, d, tk', os⟩)
    (W : ∀ g2 C, (∀ b o, h.get? b = some o → b ≠ it → g2.get? b = some o) → StepsR prog w A g2 C it n x ok) (h0 : ok 0 o) (hsz : n ≤ 1000)
    (R : Nat → List Value → Prop) (hR : R 0 [])
    (turn : ∀ k v us g2 C h6 tk6 m6 o' nw, k < n → x k v → Gd K p loose mg mb g2 → (∀ b o, h.get? b = some o → b ≠ it → g2.get? b = some o) → h.objs.size ≤ g2.objs.size → Fr g2 C h6 m6 → News g2 C h6 nw → (it, o') ∈ nw → ok (k + 1) o' → R k us →
      wpAny (model prog w) A (letOwnedTupleGo target (.ref it) v) (fun _ s₁ => wpAny (model prog w) A (assign target (compEnvC scope cl C env) v) (fun _ s₂ =>
        wpAny (model prog w) A (testsOf ifs (compEnvC scope cl C env)) (fun b s₃ => if b = true then wpAny (model prog w) A (eval elt (compEnvC scope cl C env)) (fun v s₄ => At g2 C gs d os (fun _ nw' => nw' = nw ∧ R (k + 1) (us ++ [v])) s₄) (fun _ _ => False) s₃
          else At g2 C gs d os (fun _ nw' => nw' = nw ∧ R (k + 1) us) s₃) (fun _ _ => False) s₂) (fun _ _ => False) s₁) (fun _ _ => False) ⟨h6, gs, d, tk6, os⟩)
    (hQ : ∀ h' tk' D us c, Fr g env.locals h' (upd m y (.ref D)) → News g env.locals h' ((D, listOf us.toArray c) :: rest) → R n us → us.length ≤ n → (∀ p ∈ rest, p.1 ≠ D) → h.get? D = none → Q .none ⟨h', gs, d, tk', os⟩) :
    wpAny (model prog w) A (newList []) (fun acc s₃ => wpAny (model prog w) A (newFunctionEnv scope env.globals cl [] env.qual none .none (some env)) (fun cenv s₄ =>
      codeAny (model prog w) A (.compStart (.ListComp elt [⟨target, iter, ifs, 0⟩] scope pos) 0 (.ref it) acc { cenv with scope := relabel scope env }) (compPost (model prog w) A E (some (assign (.Name y py) env)) Q acc cenv.locals) s₄) E s₃) E ⟨h, gs, d, tk, os⟩ := by
  have z := N _ (.head _)
  have hLi : env.locals ∉ [it] := by simpa using Ne.symm z.2.1
  refine compBlockU (news := [(it, o)]) hy hpl F hcell hkind Y (Kept.ofFr F) [it] ?_ hLi ?_ hself ?_
  · intro a ha
    rw [List.mem_singleton.mp ha]; exact z.2.2
  · exact fun q hq => by rw [List.mem_singleton.mp hq]; exact ⟨z.1, .head _⟩
  · intro D C g2 h3 tk3 Y2 hgs2 hgz2 F3 N3 hD
    have hgs' : ∀ b o, h.get? b = some o → b ≠ it → g2.get? b = some o := fun b o e n => hgs2 b o e (by simp [n])
    have hDi : D ≠ it := fun e => by rw [e, z.1] at hD; cases hD
    have N4 : News g2 C h3 [(it, o), (D, listOf #[] 0)] := fun q hq => by
      rcases List.mem_cons.mp hq with rfl | hq
      · exact N3 _ (.tail _ (.head _))
      · rw [List.mem_singleton.mp hq]; exact N3 _ (.head _)
    have V := W g2 C hgs'
    refine codeAny_mono (compTurns V hDi F3 N4 h0 hsz R hR fun k v us h6 tk6 m6 o' nw hk hv F6 N6 hm ok6 hr => turn k v us g2 C h6 tk6 m6 o' nw hk hv Y2 hgs' hgz2 F6 N6 hm ok6 hr) ?_
    · rintro r s' ⟨rfl, h', tk', m', nw, rfl, F', N', us, c, rfl, hr, hul⟩
      have hDL : D ≠ env.locals := by
        rintro rfl
        obtain ⟨oL, _, _, q, _⟩ := F.ns
        rw [hD] at q; cases q
      refine ⟨rfl, h', tk', m', _, rfl, F', N', fun h'' tk'' hh'' k'' ns'' => ?_⟩
      have gL : g.get? env.locals = none := Heap.get?_none_of_le F.above
      refine hQ h'' tk'' D us c ⟨ns'', fun b o e => k''.1 b o (F.keep b o e) ?_, F.above⟩ ?_ hr hul ?_ hD
      · simp only [List.mem_cons, List.not_mem_nil, or_false, not_or]
        exact ⟨fun q => by rw [q, gL] at e; (cases e), fun q => by rw [q, z.2.2] at e; (cases e)⟩
      · intro q hq
        rcases List.mem_cons.mp hq with rfl | hq
        · refine ⟨hh'' _ (.head _) hDL, hDL, ?_⟩
          cases hg : g.get? D with
          | none => rfl
          | some o' => rw [F.keep D o' hg] at hD; cases hD
        · have zq := N q (.tail _ hq)
          exact ⟨k''.1 _ _ zq.1 (by simp only [List.mem_cons, List.not_mem_nil, or_false, not_or]; exact ⟨zq.2.1, hn q hq⟩), zq.2⟩
      · intro q hq e
        have zq := (N q (.tail _ hq)).1
        rw [e, hD] at zq; cases zq
/-- a comprehension over range(n) -/
theorem compRangeU {elt iter target : PySem.Expr} {ifs : List PySem.Expr} {scope : Scope} {cl : List (Str × Addr)} {pos py : Pos} {y : Str} {r : Addr} {n : Nat} {t u v : Tok} {Q : Value → Shared → Prop}
    (Y : Gd K p loose mg mb g) (hy : env.kindOf y = some .local) (hpl : (env.scope.kind == .class || (env.scope.kind == .module && env.locals != env.globals)) = false) (F : Fr g env.locals h m) (N : News g env.locals h rest) (hr : IsRange h r 0 n 1 t u v) (hsz : n ≤ 1000)
    (R : Nat → List Value → Prop) (hR : R 0 [])
    (turn : ∀ k t us g2 C h6 tk6 m6 nw it, k < n → Gd K p loose mg mb g2 → (∀ b o, h.get? b = some o → g2.get? b = some o) → h.objs.size ≤ g2.objs.size → Fr g2 C h6 m6 → News g2 C h6 nw → R k us →
      wpAny (model prog w) A (letOwnedTupleGo target (.ref it) (.int (k : Nat) t)) (fun _ s₁ => wpAny (model prog w) A (assign target (compEnvC scope cl C env) (.int (k : Nat) t)) (fun _ s₂ =>
        wpAny (model prog w) A (testsOf ifs (compEnvC scope cl C env)) (fun b s₃ => if b = true then wpAny (model prog w) A (eval elt (compEnvC scope cl C env)) (fun v s₄ => At g2 C gs d os (fun _ nw' => nw' = nw ∧ R (k + 1) (us ++ [v])) s₄) (fun _ _ => False) s₃
          else At g2 C gs d os (fun _ nw' => nw' = nw ∧ R (k + 1) us) s₃) (fun _ _ => False) s₂) (fun _ _ => False) s₁) (fun _ _ => False) ⟨h6, gs, d, tk6, os⟩)
    (hQ : ∀ h' tk' D us c, Fr g env.locals h' (upd m y (.ref D)) → News g env.locals h' ((D, listOf us.toArray c) :: rest) → R n us → us.length ≤ n → (∀ p ∈ rest, p.1 ≠ D) → h.get? D = none → Q .none ⟨h', gs, d, tk', os⟩)
    (hh : A.handled = none := by exact rfl) (hcell : ∀ y ∈ scope.names, y.2 ≠ .cell := by decide) (hkind : scope.kind = .function := by rfl) :
    wpAny (model prog w) A (pyIter (.ref r)) (fun itv s₂ => wpAny (model prog w) A (newList []) (fun acc s₃ => wpAny (model prog w) A (newFunctionEnv scope env.globals cl [] env.qual none .none (some env)) (fun cenv s₄ =>
      codeAny (model prog w) A (.compStart (.ListComp elt [⟨target, iter, ifs, 0⟩] scope pos) 0 itv acc { cenv with scope := relabel scope env }) (compPost (model prog w) A E (some (assign (.Name y py) env)) Q acc cenv.locals) s₄) E s₃) E s₂) E ⟨h, gs, d, tk, os⟩ := by
  refine wpAny_pyIter_range (s := ⟨h, gs, d, tk, os⟩) hr (rangeSmall hsz) ?_
  rw [rangeSize_up]
  have hpush : ∀ b o, h.get? b = some o → (h.push (rangeIt 0 n 1)).get? b = some o := fun b o e => Heap.get?_push_of_some _ e
  have hne : ∀ b o, h.get? b = some o → b ≠ h.objs.size := fun b o e => Nat.ne_of_lt (Heap.lt_size e)
  refine compGU (n := n) (x := fun k v => ∃ t, v = .int k t) (ok := fun k o => rangeOk k n o) hy hpl hcell hkind Y (F.push _) (News.push F N _) (fun p hp => hne _ _ (N p hp).1) ?_ ?_ ?_ hsz R hR ?_ ?_
  · intro h' tk' E' Q' hk hq
    exact wpAny_pyIter_rangeiter (s := ⟨h', _, _, _, _⟩) (hk _ _ (Heap.get?_push_size _ rfl)) hq
  · exact fun g2 C hgs2 => StepsR.range hh
  · show rangeIt 0 n 1 = rangeIt ((0 : Nat) : Int) ((n : Int) - ((0 : Nat) : Int)) 1
    rw [show (n : Int) - ((0 : Nat) : Int) = (n : Int) by simp]
    rfl
  · rintro k v us g2 C h6 tk6 m6 o' nw hk ⟨t', rfl⟩ Y2 hgs2 hz F6 N6 hm ok6 hr
    exact turn k t' us g2 C h6 tk6 m6 nw _ hk Y2 (fun b o e => hgs2 b o (hpush _ _ e) (hne _ _ e)) (Nat.le_trans (Nat.le_of_lt (by rw [psz]; exact Nat.lt_succ_self _)) hz) F6 N6 hr
  · intro h' tk' D us c' F' N' hr hul hD hn
    refine hQ h' tk' D us c' F' N' hr hul hD ?_
    cases e' : h.get? D with
    | none => rfl
    | some o' => rw [hpush _ _ e'] at hn; cases hn
end
end

section
set_option maxRecDepth 100000
set_option maxHeartbeats 4000000
open PySem PySem.W PyProof.Rows PySem.Calls
noncomputable def pgI (i : Int) : Str := pg i.toNat
/-- [_law_pages()[k] for k in way]: a turn -/
theorem pages_turn {w : World} {mg mb : Str → Option Value} {A : Around} {g h : Heap} {gs : Array GenState} {d : Drawn} {tk : Nat} {os : OsState} {it : Addr} {m : Str → Option Value} {news : List (Addr × Obj)} {env : Env}
    {p1 p2 p3 p4 p5 : Pos} {b : Int} {t0 : Tok} {P : (Str → Option Value) → List (Addr × Obj) → Prop} {P2 : Value → (Str → Option Value) → List (Addr × Obj) → Prop}
    (V : FnEnv env) (F : Fr g env.locals h m) (N : News g env.locals h news) (hA : A.depth + 100 < recursionLimit)
    (kb : env.kindOf "k" = some .local) (ka : env.kindOf "_law_pages" = some .globalImplicit) (hb : 0 ≤ b ∧ b < 5)
    (h1 : ∀ m' t, P2 (.str (pgI b) t) m' news) :
    Gd (hd.heap_1 w.params) vw (looseW vw lo) mg mb g → wpAny (model PySem.Challenge.rw_il0096_01.row.prog w) A (letOwnedTupleGo (.Name "k" p1) (.ref it) (.int b t0)) (fun _ s₁ => wpAny (model PySem.Challenge.rw_il0096_01.row.prog w) A (assign (.Name "k" p1) env (.int b t0)) (fun _ s₂ =>
        wpAny (model PySem.Challenge.rw_il0096_01.row.prog w) A (testsOf [] env) (fun b s₃ => if b = true then wpAny (model PySem.Challenge.rw_il0096_01.row.prog w) A (eval (.Subscript (.Call (.Name "_law_pages" p2) [] [] p3) (.Name "k" p4) p5) env) (fun v s₄ => At g env.locals gs d os (P2 v) s₄) (fun _ _ => False) s₃
          else At g env.locals gs d os P s₃) (fun _ _ => False) s₂) (fun _ _ => False) s₁) (fun _ _ => False) ⟨h, gs, d, tk, os⟩ := by
  k_fill
  intro Y
  refine letGo_name ?_
  refine sN V F N kb ?_
  intro h7 tk7 F7 N7
  refine tests0 ?_
  simp only [if_true]
  refine Subscript_ ?_
  refine callGE0 V F7 Y (by k_dflt k_is) (by k_dflt k_is) ka ?_
  refine pages_c w mg mb g A h7 gs d _ os _ _ (by omega) (Kept.ofFr F7) ?_ Y
  intro h8 tk8 l vs n k8 el hln hsl
  have F8 := fr_back0 F7 k8
  have N8 := news_back0 N7 k8
  refine lN V F8 kb (by walk_at "lk") ?_
  have hlen := hsl.length
  obtain ⟨t, e⟩ := hsl.get (k := b.toNat) (by show b.toNat < 5; omega)
  refine item_any (k := b.toNat) el (by omega) (by rw [hlen]; show b.toNat < 5; omega) (by omega) ?_
  rw [e]
  exact At.mk F8 N8 (h1 _ _)
theorem best_c (w : World) (mg mb : Str → Option Value) (G : Heap) (A : Around) (hp : Heap) (gs : Array GenState) (d : Drawn) (tk : Nat) (os : OsState) (l : Addr) (vs : List Value) (n : Nat) (es : List (Int × Int)) (wh : Int) (tw : Tok) (P : List Int)
   (Q E : Value → Shared → Prop)
   (hA : A.depth + 150 < recursionLimit) (hh : A.handled = none) (hG : Kept [] G hp) (hl : hp.get? l = some (listOf vs.toArray n)) (hgl : G.get? l = none) (he : Edges hp es vs) (hz : es.length ≤ 60) (hu : A.units + 60 < cLine) (hwh : wh = 0 ∨ wh = -1) (hP : BestR wh es 0 P) (hlenP : P.length ≤ 60) (hPr : ∀ x ∈ P, 0 ≤ x ∧ x < 5)
   (hQ : ∀ h' tk' D us c, Kept [] hp h' → h'.get? D = some (listOf us.toArray c) → hp.get? D = none → SL ((0 :: P).map pgI) us → Q (.ref D) ⟨h', gs, d, tk', os⟩) :
   (Gd (hd.heap_1 w.params) vw (looseW vw lo) mg mb G) → 
   wpAny (model PySem.Challenge.rw_il0096_01.row.prog w) A (call (.ref 393) [.ref l, .int wh tw]) Q E ⟨hp, gs, d, tk, os⟩ := by
  k_fill
  intro X
  obtain ⟨aH, aD, aF, aG, aU⟩ := A
  obtain rfl : aH = none := hh
  replace hA : aD + 150 < recursionLimit := hA
  refine' enterK (news := [(l, listOf vs.toArray n)]) (binds := [("steps", .ref l), ("which", .int wh tw)]) X hG [l] (by simp [hgl]) (by simp [hl]) ?ho ?hcd ?hroom ?hbind ?hkind ?hnd ?_ ?h1 ?h2 ?h3
  case ho => k_dflt k_is
  case hcd => k_dflt k_is
  case hroom => first | omega | (show aD < _; omega)
  case hbind => first | exact BindsTo.of_eq rfl | exact kp_binds (X.keeps hG).X (fun _ => rfl)
  case hkind => exact kindsX rfl
  case hnd => decide +kernel
  case h1 => rfl
  case h2 => rfl
  case h3 => rfl
  intro g L h₁ tk1 cells Y hgs hgz F N hcells hL
  have KX := Y.X
  have TT := Y.T
  have hgs' : ∀ b o, o.cls = .type "tuple" → hp.get? b = some o → g.get? b = some o := fun b o hc e => hgs b o e (by
    simp only [List.mem_cons, List.not_mem_nil, or_false]
    rintro rfl
    rw [hl] at e; cases e; exact absurd hc (by simp [PySem.W.listOf]))
  have heg : Edges g es vs := he.mono hgs'
  have hu : aU + 60 < cLine := hu
  obtain ⟨c1, c2, rfl, hc1, hc2⟩ := hcells.two
  have hlL : l < L := hL (l, listOf vs.toArray n) (.head _)
  generalize hm0 : bindL _ _ _ = m0 at F
  have m1 : m0 "steps" = some (.ref l) := by rw [← hm0]; rfl
  have m2 : m0 "which" = some (.int wh tw) := by rw [← hm0]; rfl
  clear hm0
  have q1 : L + 1 ≠ L + 1 + 1 := Nat.ne_of_lt (Nat.lt_succ_self _)
  have q2 : l ≠ L + 1 := Nat.ne_of_lt (Nat.lt_succ_of_lt hlL)
  have q3 : l ≠ L + 1 + 1 := Nat.ne_of_lt (Nat.lt_succ_of_lt (Nat.lt_succ_of_lt hlL))
  have N : News g L h₁ [(L + 1, c2), (L + 1 + 1, c1), (l, listOf vs.toArray n)] := News.sub N (by simp)
  refine wpAny_execs_cons ?_
  refine wpAny_Assign_Name ?_
  refine lN ⟨rfl, by kernel_rfl!, rfl, rfl⟩ F (by kernel_rfl!) m1 ?_
  refine sC (c := L + 1) F N (by simp [q2]) hc2 ?_ rfl (by kernel_rfl!) (by rfl)
  intro h2 o2 F2 N2 ho2
  refine wpAny_execs_cons ?_
  refine wpAny_Assign_Name ?_
  refine List_ ?_
  refine args_cons ?_
  refine cI ?_
  intro t3 tk3
  refine args_nil ?_
  refine newL F2 N2 (by simp) ?_
  intro W h3 F3 N3 hne3 hW3 hk3
  have w1 := hne3 _ (.head _)
  have w2 := hne3 _ (.tail _ (.head _))
  have w3 := hne3 _ (.tail _ (.tail _ (.head _)))
  dsimp only at w1 w2 w3
  refine sC (c := L + 1 + 1) (rest := [(W, listOf [Value.int 0 t3].toArray 0), (L + 1, o2), (l, listOf vs.toArray n)]) F3 (News.sub N3 (by simp)) (by simp [q3]; exact w2.symm) hc1 ?_ rfl (by kernel_rfl!) (by rfl)
  intro h4 o4 F4 N4 ho4
  refine wpAny_execs_cons ?_
  refine whileL (n₀ := P.length) (fun j m nw => ∃ (ol ow : Obj) (lD : Addr) (ws vs' : List Value) (cw cd : Nat) (ways : List Int) (es' : List (Int × Int)) (Pr : List Int),
      nw = [(W, listOf ws.toArray cw), (L + 1, ol), (L + 1 + 1, ow), (lD, listOf vs'.toArray cd), (l, listOf vs.toArray n)] ∧ ol.data = .cell (some (.ref lD)) ∧ ow.data = .cell (some (.ref W)) ∧ IntsAre ws ways ∧ ways ≠ [] ∧
      BestR wh es' (ways.getD (ways.length - 1) 0) Pr ∧ ways ++ Pr = 0 :: P ∧ Edges g es' vs' ∧ es'.length ≤ 60 ∧ j = Pr.length ∧ lD ≠ W ∧ lD ≠ L + 1 ∧ lD ≠ L + 1 + 1 ∧ m "which" = some (.int wh tw))
    (fun m nw => ∃ (ow : Obj) (ws : List Value) (cw : Nat), nw = [(W, listOf ws.toArray cw), (L + 1 + 1, ow), (l, listOf vs.toArray n)] ∧ ow.data = .cell (some (.ref W)) ∧ IntsAre ws (0 :: P))
    F4 (News.sub N4 (nw' := [(W, listOf [Value.int 0 t3].toArray 0), (L + 1, o2), (L + 1 + 1, o4), (l, listOf vs.toArray n), (l, listOf vs.toArray n)]) (by simp)) ⟨o2, o4, l, _, vs, 0, n, [0], es, P, rfl, ho2, ho4, .cons _ _ .nil, by simp, hP, rfl, heg, hz, rfl, w3, q2, q3, m2⟩ ?_ ?_
  · rintro j m nw h tk F N ⟨ol, ow, lD, ws, vs', cw, cd, ways, es', Pr, rfl, hol, how, hi, hne, hB, hcat, he', hz', rfl, d1, d2, d3, m2⟩
    have hwl := hi.length
    have hcl : ways.length + Pr.length = P.length + 1 := by rw [← List.length_append, hcat]; rfl
    have hwpos : 0 < ways.length := List.length_pos_iff.mpr hne
    have hlen' := he'.length
    refine wpAny_isTrue_Compare1 ?_
    refine cN ⟨rfl, by kernel_rfl!, rfl, rfl⟩ (by kernel_rfl!) (by rfl) (N _ (.tail _ (.head _))).1 hol ?_
    refine List_ ?_
    refine args_nil ?_
    refine newL F N (by simp) ?_
    intro D5 h5 F5 N5 hne5 hD5 hk5
    refine ne_nilL (N5 _ (.tail _ (.tail _ (.tail _ (.tail _ (.head _)))))).1 (N5 _ (.head _)).1 (by show aU + 3 < cLine; omega) ?_
    refine wpAny_truthy_bool ?_
    cases hB with
    | nil u =>
      have : vs' = [] := List.length_eq_zero_iff.mp (by rw [hlen']; rfl)
      subst this
      simp only [List.isEmpty_nil, Bool.not_true, Bool.false_eq_true, if_false]
      rw [List.append_nil] at hcat
      exact At.mk F5 (News.sub N5 (nw' := [(W, listOf ws.toArray cw), (L + 1 + 1, ow), (l, listOf vs.toArray n)]) (by simp)) ⟨ow, ws, cw, rfl, how, hcat ▸ hi⟩
    | @cons _ u b P' hes hpk hB' =>
      have hv : vs'.isEmpty = false := by
        cases vs' with
        | nil => exact absurd (List.length_eq_zero_iff.mp (by rw [← hlen']; rfl)) hes
        | cons _ _ => rfl
      simp only [hv, Bool.not_false, if_true]
      generalize hu0 : ways.getD (ways.length - 1) 0 = u at *
      refine wpAny_execs_cons ?_
      refine assignComp (cl := [("way", L + 1 + 1), ("left", L + 1)]) (by rfl) (by with_unfolding_all rfl) rfl (by decide) ?_
      refine callTE ⟨rfl, by kernel_rfl!, rfl, rfl⟩ F5 Y (by k_dflt k_is) (by boot_fast) (by decide +kernel) (by kernel_rfl!) ?_
      refine args_cons ?_
      refine cI ?_
      intro _ _
      refine args_nil ?_
      refine rangeL F5 N5 ?_
      intro r6 h6 tk6 _ _ _ hr6 F6 N6
      have keep6 : ∀ q ∈ [(W, listOf ws.toArray cw), (L + 1, ol), (L + 1 + 1, ow), (lD, listOf vs'.toArray cd), (l, listOf vs.toArray n)], h6.get? q.1 = some q.2 := fun q hq => (N6 q (.tail _ hq)).1
      refine compRangeU (n := 5) Y (by kernel_rfl!) (by kernel_rfl!) F6 N6 hr6 (by decide) (fun k2 xs => IntsAre xs ((intR k2).filter (goodB u es'))) .nil ?_ ?_
      · intro k2 t2 xs g2 C h7 tk7 m7 nw7 it7 hk2 Y2 hgs2 hz2 F7 N7 hxs
        have hr : intR (k2 + 1) = intR k2 ++ [(k2 : Int)] := by unfold intR; rw [List.range_succ, List.map_append]; rfl
        refine best_turn (ways := ways) (es := es') ⟨rfl, by kernel_rfl!, rfl, rfl⟩ F7 N7 (by exact rfl) (by show aD + 1 + 100 < _; omega) (by show aU + 3 + 40 < cLine; omega) (by kernel_rfl!) (by kernel_rfl!) (by kernel_rfl!) (by rfl) (by rfl) (by kernel_rfl!) (by kernel_rfl!)
          (hgs2 _ _ (keep6 _ (.tail _ (.tail _ (.head _))))) how (hgs2 _ _ (keep6 _ (.tail _ (.head _)))) hol (hgs2 _ _ (keep6 _ (.head _))) hi hne (by omega) (hgs2 _ _ (keep6 _ (.tail _ (.tail _ (.tail _ (.head _)))))) (he'.mono fun b o _ e => hgs2 _ _ (F6.keep b o e)) hz' ?_ ?_ Y2
        · intro m' t hb
          rw [hu0] at hb
          refine ⟨rfl, ?_⟩
          rw [hr, List.filter_append, List.filter_cons, hb]
          exact hxs.append (.cons _ _ .nil)
        · intro m' hb
          rw [hu0] at hb
          refine ⟨rfl, ?_⟩
          rw [hr, List.filter_append, List.filter_cons, hb]
          simpa using hxs
      · intro h7 tk7 Dg xs cg F7 N7 hxs hxl hDg hn7
        have hxs : IntsAre xs (goodL u es') := hxs
        have F8 := F7
        have N8 := N7
        have g1 := hDg (W, listOf ws.toArray cw) (.tail _ (.head _))
        have N8 := News.sub N7 (nw' := [(Dg, listOf xs.toArray cg), (W, listOf ws.toArray cw), (L + 1, ol), (L + 1 + 1, ow), (lD, listOf vs'.toArray cd), (l, listOf vs.toArray n)]) (by simp)
        refine wpAny_execs_cons ?_
        refine wpAny_Assign_Name ?_
        refine callGE ⟨rfl, by kernel_rfl!, rfl, rfl⟩ F8 Y (by k_dflt k_is) (by k_dflt k_is) (by kernel_rfl!) ?_
        refine args_cons ?_
        refine cN ⟨rfl, by kernel_rfl!, rfl, rfl⟩ (by kernel_rfl!) (by rfl) (N8 _ (.tail _ (.tail _ (.head _)))).1 hol ?_
        refine args_cons ?_
        refine Tuple_ ?_
        refine args_cons ?_
        refine Subscript_ ?_
        refine cN ⟨rfl, by kernel_rfl!, rfl, rfl⟩ (by kernel_rfl!) (by rfl) (N8 _ (.tail _ (.tail _ (.tail _ (.head _))))).1 how ?_
        refine negI ?_
        intro _ _
        refine lastI (N8 _ (.tail _ (.head _))).1 hi hne (by omega) ?_
        intro tu
        rw [hu0]
        refine args_cons ?_
        refine Subscript_ ?_
        refine lN ⟨rfl, by kernel_rfl!, rfl, rfl⟩ F8 (by kernel_rfl!) (by walk_at "lk") ?_
        refine lN ⟨rfl, by kernel_rfl!, rfl, rfl⟩ F8 (by kernel_rfl!) (by walk_at "lk") ?_
        refine pickSub (N8 _ (.head _)).1 hxs hwh hpk (by omega) ?_
        intro tb
        refine args_nil ?_
        refine newPair F8 N8 ?_
        intro D9 h9 F9 N9 hne9 hD9 hk9
        refine args_nil ?_
        refine ⟨Y.X.keeps F9.keep, ?_⟩
        refine without_c w mg mb g _ h9 gs d _ os lD D9 vs' cd es' u b _ _ _ _ (by show aD + 1 + 30 < _; omega) (by exact rfl) (Kept.ofFr F9) (N9 _ (.tail _ (.tail _ (.tail _ (.tail _ (.tail _ (.head _))))))).1 (N9 _ (.head _)).1 (he'.mono fun b o _ e => F9.keep b o e) hz' (good_mem hpk) (by show aU + 3 + 20 < cLine; omega) ?_ Y
        intro h10 tk10 D us c10 k10 eD hDn hus
        have F10 := fr_back0 F9 k10
        have N10 := News.back F9 N9 k10 eD hDn
        have fr10 : ∀ q ∈ [(D9, tup (Value.int u tu) (Value.int b tb)), (Dg, listOf xs.toArray cg), (W, listOf ws.toArray cw), (L + 1, ol), (L + 1 + 1, ow), (lD, listOf vs'.toArray cd), (l, listOf vs.toArray n)], q.1 ≠ D := fun q hq e => by
          have := (N9 q hq).1
          rw [e, hDn] at this; cases this
        have x1 := fr10 (W, listOf ws.toArray cw) (.tail _ (.tail _ (.head _)))
        have x2 := fr10 (L + 1, ol) (.tail _ (.tail _ (.tail _ (.head _))))
        have x3 := fr10 (L + 1 + 1, ow) (.tail _ (.tail _ (.tail _ (.tail _ (.head _)))))
        have x4 := fr10 (lD, listOf vs'.toArray cd) (.tail _ (.tail _ (.tail _ (.tail _ (.tail _ (.head _))))))
        have x5 := fr10 (l, listOf vs.toArray n) (.tail _ (.tail _ (.tail _ (.tail _ (.tail _ (.tail _ (.head _)))))))
        dsimp only at x1 x2 x3 x4 x5 g1
        have w4 : W ≠ lD := d1.symm
        refine sC (c := L + 1) (rest := [(W, listOf ws.toArray cw), (L + 1 + 1, ow), (D, listOf us.toArray c10), (Dg, listOf xs.toArray cg), (l, listOf vs.toArray n)]) F10 (News.sub N10 (by simp)) ?_ hol ?_ rfl (by kernel_rfl!) (by rfl)
        · have g2 := hDg (L + 1, ol) (.tail _ (.tail _ (.head _)))
          dsimp only at g2
          simp only [List.mem_cons, List.not_mem_nil, or_false]
          rintro q (rfl | rfl | rfl | rfl | rfl)
          · exact w1.symm
          · exact q1.symm
          · exact x2.symm
          · exact g2.symm
          · exact q2
        intro h11 ol' F11 N11 hol'
        refine wpAny_execs_cons ?_
        refine wpAny_Expr ?_
        refine MethodCall_ ?_
        refine cN ⟨rfl, by kernel_rfl!, rfl, rfl⟩ (by kernel_rfl!) (by rfl) (N11 _ (.tail _ (.tail _ (.head _)))).1 how ?_
        refine methL (N11 _ (.tail _ (.head _))).1 PySem.F.slot_list_append PySem.F.type_list_append ?_
        refine callWith_method1 ?_
        refine args_cons ?_
        refine Subscript_ ?_
        refine lN ⟨rfl, by kernel_rfl!, rfl, rfl⟩ F11 (by kernel_rfl!) (by walk_at "lk") ?_
        refine lN ⟨rfl, by kernel_rfl!, rfl, rfl⟩ F11 (by kernel_rfl!) (by walk_at "lk") ?_
        refine pickSub (N11 _ (.tail _ (.tail _ (.tail _ (.tail _ (.head _)))))).1 hxs hwh hpk (by omega) ?_
        intro tb2
        refine args_nil ?_
        refine appendM (B := 100) (news' := [(W, listOf (ws ++ [Value.int b tb2]).toArray (cw + 1)), (L + 1, ol'), (L + 1 + 1, ow), (D, listOf us.toArray c10), (l, listOf vs.toArray n)]) F11 (News.sub N11 (nw' := [(W, listOf ws.toArray cw), (L + 1, ol'), (L + 1 + 1, ow), (D, listOf us.toArray c10), (l, listOf vs.toArray n)]) (by simp)) (.head _) (by omega) (.head ?_) ?_
        · simp only [List.mem_cons, List.not_mem_nil, or_false]
          rintro q (rfl | rfl | rfl | rfl)
          · exact w1
          · exact w2
          · exact x1.symm
          · exact w3
        intro h12 F12 N12
        refine wpAny_execs_nil ?_
        refine At.mk F12 N12 ⟨P'.length, Nat.lt_succ_self _, ol', ow, D, _, us, _, c10, ways ++ [b], es'.erase (u, b), P', rfl, hol', how, hi.append (.cons _ _ .nil), by simp, ?_, ?_, ?_, ?_, rfl, x1.symm, x2.symm, x3.symm, by walk_at "lk"⟩
        · rw [List.length_append, List.length_singleton, Nat.add_sub_cancel, List.getD_eq_getElem?_getD, List.getElem?_append_right (Nat.le_refl _), Nat.sub_self]
          exact hB'
        · rw [List.append_assoc]; exact hcat
        · exact hus ▸ he'.cut (good_mem hpk)
        · have := List.length_erase_le (a := (u, b)) (l := es'); omega
  · rintro h5 tk5 m5 nw F5 N5 ⟨ow, ws, cw, rfl, how, hi⟩
    have hwl := hi.length
    refine wpAny_execs_cons ?_
    refine wpAny_Return_some ?_
    refine listComp (cl := []) (by with_unfolding_all rfl) rfl (by decide) ?_
    refine cN ⟨rfl, by kernel_rfl!, rfl, rfl⟩ (by kernel_rfl!) (by rfl) (N5 _ (.tail _ (.head _))).1 how ?_
    refine compList (xs := ws) Y F5 N5 (N5 _ (.head _)).1 (by rw [hwl]; simp; omega) (fun k2 us => SL (((0 :: P).take k2).map pgI) us) .nil ?_ ?_
    · intro k2 us g2 C h6 tk6 m6 o' nw it' hk2 Y2 hgs2 hz2 F6 N6 hm6 ok6 hsl
      have hk3 : k2 < (0 :: P).length := by omega
      obtain ⟨t6, e6⟩ := intsGet hi hk3
      rw [e6]
      have hmem : (0 :: P).getD k2 0 ∈ 0 :: P := by rw [List.getD_eq_getElem?_getD, List.getElem?_eq_getElem hk3]; exact List.getElem_mem hk3
      refine pages_turn ⟨rfl, by kernel_rfl!, rfl, rfl⟩ F6 N6 (by show aD + 1 + 100 < _; omega) (by kernel_rfl!) (by kernel_rfl!) (by rcases List.mem_cons.mp hmem with q | q; rw [q]; decide; exact hPr _ q) ?_ Y2
      intro m' t
      refine ⟨rfl, ?_⟩
      rw [List.take_succ_eq_append_getElem hk3, List.map_append, show (0 :: P)[k2] = (0 :: P).getD k2 0 by rw [List.getD_eq_getElem?_getD, List.getElem?_eq_getElem hk3]; rfl]
      exact hsl.snoc
    · intro h7 tk7 D us c F7 N7 hr7 hul7 hD7 hn7
      rw [List.take_of_length_le (by omega)] at hr7
      have old : ∀ b o, hp.get? b = some o → h5.get? b = some o ∧ h7.get? b = some o := fun b o e => by
        by_cases hb : b = l
        · subst hb
          rw [hl] at e; cases e
          exact ⟨(N5 _ (.tail _ (.tail _ (.head _)))).1, (N7 _ (.tail _ (.tail _ (.tail _ (.head _))))).1⟩
        · have := hgs b o e (by simpa using hb)
          exact ⟨F5.keep _ _ this, F7.keep _ _ this⟩
      refine hQ h7 tk7 D us c ⟨fun b o e _ => (old b o e).2, ?_⟩ (N7 _ (.head _)).1 ?_ hr7
      · rw [← hgz]; exact Nat.le_trans F7.above (Nat.le_of_lt F7.ns.lt)
      · cases e : hp.get? D with
        | none => rfl
        | some o' => rw [(old D o' e).1] at hn7; cases hn7
end

section
set_option maxRecDepth 100000
set_option maxHeartbeats 4000000
open PySem PySem.W PyProof.Rows PySem.Calls
noncomputable def rowOf (e : Int × Int) (s : Int) : Str × Str := (if 1 < s then Txt.upper (pgI e.1) else pgI e.1, wayF (pgI e.1) (pgI e.2) (s.fmod 2))
theorem pg_okF : ∀ a : Fin 5, (clean (Txt.upper (pg a)) && clean (pg a) && (Txt.lower (Txt.upper (pg a)) == pg a) && (Txt.lower (pg a) == pg a) && decide ((pg a).length ≤ 30) && decide ((Txt.upper (pg a)).length ≤ 30) && decide (0 < (pg a).length) && decide (Txt.count (pg a) "/" ≤ 4) && decide (0 ≤ Txt.count (pg a) "/")) = true := by decide +kernel
theorem way_okF : ∀ a b : Fin 5, ∀ r : Fin 2, (clean (wayF (pg a) (pg b) (r.val : Int)) && decide ((wayF (pg a) (pg b) (r.val : Int)).length ≤ 30) &&
   decide ((joinF (pg a) (wayF (pg a) (pg b) (r.val : Int))).length ≤ 60) && decide (0 < (joinF (pg a) (wayF (pg a) (pg b) (r.val : Int))).length) && !(Txt.slice (joinF (pg a) (wayF (pg a) (pg b) (r.val : Int))) none (some 1) != "/") && (Txt.slice (joinF (pg a) (wayF (pg a) (pg b) (r.val : Int))) (some 1) (some 2) != "/") &&
   decide ((Txt.split (Txt.slice (joinF (pg a) (wayF (pg a) (pg b) (r.val : Int))) (some 1) none) "/").length ≤ 60) && (normF (joinF (pg a) (wayF (pg a) (pg b) (r.val : Int))) == pg b)) = true := by decide +kernel
theorem pg_lt : ∀ a b : Fin 5, decide ((pg a).cps.toList < (pg b).cps.toList) = decide (a.val < b.val) := by decide +kernel
theorem pg_inj : ∀ a b : Fin 5, pg a = pg b → a = b := by decide +kernel
structure PgOk (x : Str) : Prop where
  c : clean x = true
  cu : clean (Txt.upper x) = true
  lu : Txt.lower (Txt.upper x) = x
  ll : Txt.lower x = x
  l : x.length ≤ 30
  ul : (Txt.upper x).length ≤ 30
  p : 0 < x.length
  n4 : Txt.count x "/" ≤ 4
  n0 : 0 ≤ Txt.count x "/"
theorem pgI_fin {a : Int} (h : 0 ≤ a ∧ a < 5) : ∃ k : Fin 5, pgI a = pg k ∧ (k.val : Int) = a := ⟨⟨a.toNat, by omega⟩, rfl, by show (a.toNat : Int) = a; omega⟩
theorem pg_ok {a : Int} (h : 0 ≤ a ∧ a < 5) : PgOk (pgI a) := by
  obtain ⟨k, e, _⟩ := pgI_fin h
  have q := pg_okF k
  rw [e]
  simp only [Bool.and_eq_true, decide_eq_true_eq, beq_iff_eq] at q
  obtain ⟨⟨⟨⟨⟨⟨⟨⟨a1, a2⟩, a3⟩, a4⟩, a5⟩, a6⟩, a7⟩, a8⟩, a9⟩ := q
  exact ⟨a2, a1, a3, a4, a5, a6, a7, a8, a9⟩
structure WayOk (p g y : Str) : Prop where
  c : clean y = true
  l : y.length ≤ 30
  jl : (joinF p y).length ≤ 60
  j0 : 0 < (joinF p y).length
  s1 : (Txt.slice (joinF p y) none (some 1) != "/") = false
  s2 : (Txt.slice (joinF p y) (some 1) (some 2) != "/") = true
  sp : (Txt.split (Txt.slice (joinF p y) (some 1) none) "/").length ≤ 60
  n : normF (joinF p y) = g
theorem way_ok {a b r : Int} (h : 0 ≤ a ∧ a < 5) (h' : 0 ≤ b ∧ b < 5) (hr : 0 ≤ r ∧ r < 2) : WayOk (pgI a) (pgI b) (wayF (pgI a) (pgI b) r) := by
  obtain ⟨k, e, _⟩ := pgI_fin h
  obtain ⟨k', e', _⟩ := pgI_fin h'
  have q := way_okF k k' ⟨r.toNat, by omega⟩
  have er : ((r.toNat : Nat) : Int) = r := by omega
  rw [e, e']
  simp only [er, Bool.and_eq_true, decide_eq_true_eq, beq_iff_eq, Bool.not_eq_true'] at q
  obtain ⟨⟨⟨⟨⟨⟨⟨a1, a2⟩, a3⟩, a4⟩, a5⟩, a6⟩, a7⟩, a8⟩ := q
  exact ⟨a1, a2, a3, a4, a5, a6, a7, a8⟩
theorem fmod2 (s : Int) : 0 ≤ s.fmod 2 ∧ s.fmod 2 < 2 := ⟨Int.fmod_nonneg_of_pos _ (by decide), Int.fmod_lt_of_pos _ (by decide)⟩
theorem row_ok {e : Int × Int} {s : Int} (h : 0 ≤ e.1 ∧ e.1 < 5) (h' : 0 ≤ e.2 ∧ e.2 < 5) : clean (rowOf e s).1 = true ∧ (rowOf e s).1.length ≤ 30 ∧ Txt.lower (rowOf e s).1 = pgI e.1 ∧ WayOk (pgI e.1) (pgI e.2) (rowOf e s).2 := by
  have P := pg_ok h
  have W := way_ok h h' (fmod2 s)
  unfold rowOf
  dsimp only
  split
  · exact ⟨P.cu, P.ul, P.lu, W⟩
  · exact ⟨P.c, P.l, P.ll, W⟩
end

section
set_option maxRecDepth 100000
set_option maxHeartbeats 4000000
set_option linter.unusedVariables false
open PySem PySem.W PyProof.Rows PySem.Calls PySem.SeqAt
abbrev zipO (TI TO : Addr) (f : Value) : Obj := { cls := .type "zip", dict := none, data := .fields #[f, .bool false, .bool false, .ref TI, .ref TO], slots := #[] }
/-- a zip of two lists in the ledger -/
noncomputable def zS (z TI TO i1 i2 : Addr) (a b : Value) (o1 o2 : Obj) : List (Addr × Obj) := [(z, zipO TI TO .none), (TI, tup (.ref i1) (.ref i2)), (TO, tup a b), (i1, o1), (i2, o2)]
section
variable {prog : Program} {w : World} {A : Around} {g h : Heap} {gs : Array GenState} {d : Drawn} {tk : Nat} {os : OsState} {L it : Addr} {m : Str → Option Value} {news rest : List (Addr × Obj)} {E : Value → Shared → Prop} {env : Env}
theorem Fr.but4 {h' : Heap} {z a b c : Addr} (F : Fr g L h m) (hL : L ≠ z ∧ L ≠ a ∧ L ≠ b ∧ L ≠ c) (hz : g.get? z = none) (ha : g.get? a = none) (hb : g.get? b = none) (hc : g.get? c = none)
    (hk : ∀ x o, x ≠ z → x ≠ a → x ≠ b → x ≠ c → h.get? x = some o → h'.get? x = some o) : Fr g L h' m := by
  obtain ⟨oL, a1, a2, hoL, a3⟩ := F.ns
  refine ⟨⟨oL, a1, a2, hk _ _ hL.1 hL.2.1 hL.2.2.1 hL.2.2.2 hoL, a3⟩, fun x o e => hk x o ?_ ?_ ?_ ?_ (F.keep x o e), F.above⟩
  · rintro rfl; rw [hz] at e; cases e
  · rintro rfl; rw [ha] at e; cases e
  · rintro rfl; rw [hb] at e; cases e
  · rintro rfl; rw [hc] at e; cases e
theorem zipL {l1 l2 : Addr} {xs ys : List Value} {c1 c2 : Nat} {Q : Value → Shared → Prop} (F : Fr g L h m) (N : News g L h news) (e1 : h.get? l1 = some (listOf xs.toArray c1)) (e2 : h.get? l2 = some (listOf ys.toArray c2))
    (hq : ∀ z TI TO i1 i2 h' o1 o2, ZipApart z TI TO i1 i2 l1 l2 → Fr g L h' m → News g L h' (zS z TI TO i1 i2 .none .none o1 o2 ++ news) → listItOk l1 0 o1 → listItOk l2 0 o2 → (∀ p ∈ news, ∀ q ∈ [z, TI, TO, i1, i2], p.1 ≠ q) → Q (.ref z) ⟨h', gs, d, tk, os⟩) :
    wpAny (model prog w) A (call (.type "zip") [.ref l1, .ref l2]) Q E ⟨h, gs, d, tk, os⟩ := by
  refine call_zip_2 (s := ⟨h, gs, d, tk, os⟩) (PySem.IsL.isList e1) (PySem.IsL.isList e2) fun h' hz hTI hTO hi1 hi2 hsz hk => ?_
  obtain ⟨o1, q1, q2, q3⟩ := hi1
  obtain ⟨o2, q4, q5, q6⟩ := hi2
  have hLs : L < h.objs.size := F.ns.lt
  have gnone : ∀ k, g.get? (h.objs.size + k) = none := fun k => Heap.get?_none_of_le (Nat.le_trans F.above (Nat.le_trans (Nat.le_of_lt hLs) (Nat.le_add_right _ k)))
  have Lne : ∀ k, h.objs.size + k ≠ L := fun k => Nat.ne_of_gt (Nat.lt_of_lt_of_le hLs (Nat.le_add_right _ k))
  refine hq _ _ _ _ _ h' o1 o2 (zipApart_new (Heap.lt_size e1) (Heap.lt_size e2)) (F.keeps hk) ?_ ⟨q2, q3⟩ ⟨q5, q6⟩ ?_
  · intro p hp
    rcases List.mem_append.mp hp with hp | hp
    · simp only [zS, List.mem_cons, List.not_mem_nil, or_false] at hp
      rcases hp with rfl | rfl | rfl | rfl | rfl
      · exact ⟨hz, Lne _, gnone _⟩
      · exact ⟨hTI, Lne _, gnone _⟩
      · exact ⟨hTO, Lne _, gnone _⟩
      · exact ⟨q1, Lne 0, gnone 0⟩
      · exact ⟨q4, Lne _, gnone _⟩
    · exact ⟨hk _ _ (N p hp).1, (N p hp).2⟩
  · intro p hp q hq
    have := Heap.lt_size (N p hp).1
    simp only [List.mem_cons, List.not_mem_nil, or_false] at hq
    rcases hq with rfl | rfl | rfl | rfl | rfl
    all_goals first | exact Nat.ne_of_lt this | exact Nat.ne_of_lt (Nat.lt_of_lt_of_le this (Nat.le_add_right _ _))
theorem iterZip {z TI TO : Addr} {f : Value} {Q : Value → Shared → Prop} (e : h.get? z = some (zipO TI TO f)) (hq : Q (.ref z) ⟨h, gs, d, tk, os⟩) : wpAny (model prog w) A (pyIter (.ref z)) Q E ⟨h, gs, d, tk, os⟩ :=
  wpAny_pyIter_zip (s := ⟨h, gs, d, tk, os⟩) e hq
/-- for x, y in zip(l1, l2) -/
theorem forZip {body : List Stmt} {x y : Str} {p1 p2 p3 : Pos} {kk : Nat} {z TI TO i1 i2 l1 l2 : Addr} {xs ys : List Value} {a b : Value} {o1 o2 : Obj} {Q : Flow → Shared → Prop} {R' : Value → Shared → Prop} (D : ZipApart z TI TO i1 i2 l1 l2) (hh : A.handled = none)
    (V : FnEnv env) (kx : env.kindOf x = some .local) (ky : env.kindOf y = some .local) (hlen : ys.length = xs.length)
    (hl : ∀ h' m', Fr g env.locals h' m' → (∃ c, h'.get? l1 = some (listOf xs.toArray c)) ∧ ∃ c, h'.get? l2 = some (listOf ys.toArray c))
    (I : Nat → (Str → Option Value) → List (Addr × Obj) → Prop)
    (F : Fr g env.locals h m) (N : News g env.locals h (zS z TI TO i1 i2 a b o1 o2 ++ news)) (ok1 : listItOk l1 0 o1) (ok2 : listItOk l2 0 o2) (hap : ∀ p ∈ news, ∀ q ∈ [z, TI, TO, i1, i2], p.1 ≠ q) (hI : I 0 m news)
    (turn : ∀ k m₁ nw₁ h₁ tk₁ zs, k < xs.length → (∀ q ∈ zs, q.1 ∈ [z, TI, TO, i1, i2]) → (∀ q ∈ [z, TI, TO, i1, i2], q ∈ zs.map (·.1)) → Fr g env.locals h₁ (upd (upd m₁ x (xs.getD k .none)) y (ys.getD k .none)) → News g env.locals h₁ (zs ++ nw₁) → (∀ p ∈ nw₁, ∀ q ∈ [z, TI, TO, i1, i2], p.1 ≠ q) → I k m₁ nw₁ →
      wpAny (model prog w) A (execs body env) (TurnQ g env.locals gs d os (fun m nw => ∃ nw₂, nw = zs ++ nw₂ ∧ (∀ p ∈ nw₂, ∀ q ∈ [z, TI, TO, i1, i2], p.1 ≠ q) ∧ I (k + 1) m nw₂) (I xs.length) Q) (fun _ _ => False) ⟨h₁, gs, d, tk₁, os⟩)
    (done : ∀ h' tk' m' news', Fr g env.locals h' m' → News g env.locals h' news' → I xs.length m' news' → Q .next ⟨h', gs, d, tk', os⟩) :
    codeAny (model prog w) A (.forLoop (.Tuple [.Name x p1, .Name y p2] kk p3) (.ref z) body [] env) (fun r s' => match r with | .ok f => Q f s' | .error e => R' e s') ⟨h, gs, d, tk, os⟩ := by
  refine forL (n₀ := xs.length) (fun j m nw => ∃ k a b o1 o2 nw₂, j = xs.length - k ∧ k ≤ xs.length ∧ nw = zS z TI TO i1 i2 a b o1 o2 ++ nw₂ ∧ listItOk l1 k o1 ∧ listItOk l2 k o2 ∧ (∀ p ∈ nw₂, ∀ q ∈ [z, TI, TO, i1, i2], p.1 ≠ q) ∧ I k m nw₂) (I xs.length) F N ⟨0, a, b, o1, o2, news, rfl, Nat.zero_le _, rfl, ok1, ok2, hap, hI⟩ ?_ done
  rintro j m₁ nw₁ h₁ tk₁ F₁ N₁ ⟨k, a, b, o1, o2, nw₂, rfl, hk, rfl, ok1, ok2, hap, hI⟩
  have n1 := N₁ (z, _) (List.mem_append_left _ (.head _))
  have n2 := N₁ (TI, _) (List.mem_append_left _ (.tail _ (.head _)))
  have n3 := N₁ (TO, _) (List.mem_append_left _ (.tail _ (.tail _ (.head _))))
  have n4 := N₁ (i1, _) (List.mem_append_left _ (.tail _ (.tail _ (.tail _ (.head _)))))
  have n5 := N₁ (i2, _) (List.mem_append_left _ (.tail _ (.tail _ (.tail _ (.tail _ (.head _))))))
  obtain ⟨⟨c1, e1⟩, ⟨c2, e2⟩⟩ := hl _ _ F₁
  have LL : env.locals ≠ z ∧ env.locals ≠ TO ∧ env.locals ≠ i1 ∧ env.locals ≠ i2 := ⟨n1.2.1.symm, n3.2.1.symm, n4.2.1.symm, n5.2.1.symm⟩
  by_cases hlt : k < xs.length
  · refine wpAny_pyNext_zip_item (s := ⟨h₁, gs, d, tk₁, os⟩) D n1.1 n2.1 n3.1 ⟨o1, n4.1, ok1.1, ok1.2⟩ ⟨o2, n5.1, ok2.1, ok2.2⟩ (PySem.IsL.isList e1) (PySem.IsL.isList e2) (list_get hlt) (list_get (hlen ▸ hlt)) fun h' a1 a2 a3 a4 a5 a6 hk' => ?_
    have F' := Fr.but4 F₁ LL n1.2.2 n3.2.2 n4.2.2 n5.2.2 hk'
    refine wpAny_letOwnedTupleGo_zip (s := ⟨h', gs, d, tk₁, os⟩) a1 fun h'' b1 b2 => ?_
    obtain ⟨q1, r1, r2, r3⟩ := a3
    obtain ⟨q2, r4, r5, r6⟩ := a4
    have F'' : Fr g env.locals h'' m₁ := F'.change b2 n1.2.1 n1.2.2
    have hTz : h₁.objs.size ≠ z := Nat.ne_of_gt (Heap.lt_size n1.1)
    have N'' : News g env.locals h'' (zS z TI TO i1 i2 (xs.getD k .none) (ys.getD k .none) q1 q2 ++ nw₂) := fun p hp => by
      rcases List.mem_append.mp hp with hp | hp
      · simp only [zS, List.mem_cons, List.not_mem_nil, or_false] at hp
        rcases hp with rfl | rfl | rfl | rfl | rfl
        · exact ⟨b1, n1.2⟩
        · exact ⟨(b2.2 _ D.TIz).trans (hk' _ _ D.TIz D.TITO D.TIi1 D.TIi2 n2.1), n2.2⟩
        · exact ⟨(b2.2 _ D.TOz).trans a2, n3.2⟩
        · exact ⟨(b2.2 _ D.i1z).trans r1, n4.2⟩
        · exact ⟨(b2.2 _ D.i2z).trans r4, n5.2⟩
      · have := N₁ p (List.mem_append_right _ hp)
        have z1 := hap p hp z (.head _)
        exact ⟨(b2.2 _ z1).trans (hk' _ _ z1 (hap p hp TO (.tail _ (.tail _ (.head _)))) (hap p hp i1 (.tail _ (.tail _ (.tail _ (.head _))))) (hap p hp i2 (.tail _ (.tail _ (.tail _ (.tail _ (.head _)))))) this.1), this.2⟩
    refine unpackN_ (s := ⟨_, _, _, _, _⟩) F'' N'' ⟨_, (b2.2 _ hTz).trans a5, rfl, _, rfl⟩ hh rfl rfl ?_
    intro h5 F5 N5
    refine assignInOrder_cons ?_
    refine wpAny_assign_Name ?_
    refine stE F5 N5 ?_ kx V.c
    intro h6 tk6 F6 N6
    refine assignInOrder_cons ?_
    refine wpAny_assign_Name ?_
    refine stE F6 N6 ?_ ky V.c
    intro h7 tk7 F7 N7
    refine assignInOrder_nil ?_
    refine wpAny_mono (turn k m₁ nw₂ h7 tk7 (zS z TI TO i1 i2 (xs.getD k .none) (ys.getD k .none) q1 q2) hlt ?_ (fun q hq => hq) F7 N7 hap hI) (fun f s₃ q => ?_) fun _ _ x => x
    · intro q hq
      simp only [zS, List.mem_cons, List.not_mem_nil, or_false] at hq ⊢
      rcases hq with rfl | rfl | rfl | rfl | rfl <;> simp
    · have up : ∀ s, At g env.locals gs d os (fun m nw => ∃ nw₂, nw = zS z TI TO i1 i2 (xs.getD k .none) (ys.getD k .none) q1 q2 ++ nw₂ ∧ (∀ p ∈ nw₂, ∀ q ∈ [z, TI, TO, i1, i2], p.1 ≠ q) ∧ I (k + 1) m nw₂) s →
          At g env.locals gs d os (fun m nw => ∃ n', n' < xs.length - k ∧ ∃ k a b o1 o2 nw₂, n' = xs.length - k ∧ k ≤ xs.length ∧ nw = zS z TI TO i1 i2 a b o1 o2 ++ nw₂ ∧ listItOk l1 k o1 ∧ listItOk l2 k o2 ∧ (∀ p ∈ nw₂, ∀ q ∈ [z, TI, TO, i1, i2], p.1 ≠ q) ∧ I k m nw₂) s := by
        rintro s ⟨h', tk', m', news', rfl, F', N', nw₂, rfl, a, b⟩
        exact ⟨h', tk', m', _, rfl, F', N', xs.length - (k + 1), by omega, k + 1, _, _, q1, q2, nw₂, rfl, by omega, rfl, ⟨r2, r3⟩, ⟨r5, r6⟩, a, b⟩
      cases f with
      | ret v => exact q
      | brk => exact q
      | next => exact up _ q
      | cont => exact up _ q
  · obtain rfl : k = xs.length := by omega
    refine wpAny_pyNext_zip_end (s := ⟨h₁, gs, d, tk₁, os⟩) hh D n1.1 n2.1 n3.1 ⟨o1, n4.1, ok1.1, ok1.2⟩ ⟨o2, n5.1, ok2.1, ok2.2⟩ (PySem.IsL.isList e1) (PySem.IsL.isList e2) (.inl (by simp)) fun h' hk' => ?_
    have F' := Fr.but4 F₁ LL n1.2.2 n3.2.2 n4.2.2 n5.2.2 hk'
    refine At.mk F' (news := nw₂) (fun p hp => ?_) hI
    have := N₁ p (List.mem_append_right _ hp)
    exact ⟨hk' _ _ (hap p hp z (.head _)) (hap p hp TO (.tail _ (.tail _ (.head _)))) (hap p hp i1 (.tail _ (.tail _ (.tail _ (.head _))))) (hap p hp i2 (.tail _ (.tail _ (.tail _ (.tail _ (.head _)))))) this.1, this.2⟩
end
end

section
set_option maxRecDepth 100000
set_option maxHeartbeats 4000000
set_option linter.unusedVariables false
open PySem PySem.W PyProof.Rows PySem.Calls PySem.SeqAt
section
variable {prog : Program} {w : World} {A : Around} {g h : Heap} {gs : Array GenState} {d : Drawn} {tk : Nat} {os : OsState} {L it : Addr} {m : Str → Option Value} {news rest : List (Addr × Obj)} {E : Value → Shared → Prop} {env : Env}
theorem ifUpper {p1 p2 p3 p4 p5 p6 : Pos} {i : Nat} {x : Str} {sp : Int} {t t' : Tok} {Q : Value → Shared → Prop} (V : FnEnv env) (F : Fr g env.locals h m) (kp : env.kindOf "page" = some .local) (ks : env.kindOf "spelling" = some .local)
    (hp : m "page" = some (.str x t)) (hs : m "spelling" = some (.int sp t')) (hl : x.length ≤ 30) (hq : ∀ t tk', Q (.str (if 1 < sp then Txt.upper x else x) t) ⟨h, gs, d, tk', os⟩) :
    wpAny (model prog w) A (eval (.IfExp (.Compare (.Name "spelling" p1) [.Gt] [.Constant (.int 1) i p2] p3) (.Call (.Attribute (.Name "page" p4) "upper" ⟨310, 25, 310, 35⟩) [] [] ⟨310, 25, 310, 37⟩) (.Name "page" p5) p6) env) Q E ⟨h, gs, d, tk, os⟩ := by
  refine wpAny_IfExp ?_
  refine wpAny_isTrue_Compare1 ?_
  refine lN V F ks hs ?_
  refine cI ?_
  intro _ _
  refine PyProof.Rows.gt_int (s := ⟨_, _, _, _, _⟩) ?_
  refine wpAny_truthy_bool ?_
  by_cases hc : 1 < sp
  · simp only [hc, decide_true, if_true] at hq ⊢
    refine MethodCall_ ?_
    refine lN V F kp hp ?_
    refine GM.upper ?_
    refine callWith_method0 ?_
    refine PyProof.Rows.SCL.upper (s := ⟨_, _, _, _, _⟩) (by omega) ?_
    intro _
    exact hq _ _
  · simp only [hc, decide_false, Bool.false_eq_true, if_false] at hq ⊢
    exact lN V F kp hp (hq _ _)
end
end

section
set_option maxRecDepth 100000
set_option maxHeartbeats 4000000
open PySem PySem.W PyProof.Rows PySem.Calls
/-- the rows of a table, in a ledger -/
inductive RowT : List (Str × Str) → List Value → List (Addr × Obj) → Prop
  | nil : RowT [] [] []
  | snoc {hs : List (Str × Str)} {vs : List Value} {T : List (Addr × Obj)} {a b : Str} {r : Addr} {t t' : Tok} : RowT hs vs T → RowT (hs ++ [(a, b)]) (vs ++ [.ref r]) (T ++ [(r, tup (.str a t) (.str b t'))])
theorem RowT.rows {g h : Heap} {L : Addr} : ∀ {hs : List (Str × Str)} {vs : List Value} {T : List (Addr × Obj)}, RowT hs vs T → News g L h T → Rows h hs vs := by
  intro hs vs T x
  induction x with
  | nil => intro _; trivial
  | snoc _ ih => intro N; exact Rows.snoc (N _ (List.mem_append_right _ (.head _))).1 (ih fun p hp => N p (List.mem_append_left _ hp))
theorem RowT.length {hs : List (Str × Str)} {vs : List Value} {T : List (Addr × Obj)} (x : RowT hs vs T) : vs.length = hs.length := by
  induction x with
  | nil => rfl
  | snoc _ ih => simp [ih]
theorem links_c (w : World) (mg mb : Str → Option Value) (G : Heap) (A : Around) (hp : Heap) (gs : Array GenState) (d : Drawn) (tk : Nat) (os : OsState) (l1 l2 : Addr) (vs us : List Value) (n1 n2 : Nat) (es : List (Int × Int)) (ss : List Int)
   (Q E : Value → Shared → Prop)
   (hA : A.depth + 150 < recursionLimit) (hh : A.handled = none) (hG : Kept [] G hp) (hl1 : hp.get? l1 = some (listOf vs.toArray n1)) (hl2 : hp.get? l2 = some (listOf us.toArray n2)) (he : Edges hp es vs) (hs : IntsAre us ss) (hlen : ss.length = es.length) (hz : es.length ≤ 50) (hr : ∀ e ∈ es, (0 ≤ e.1 ∧ e.1 < 5) ∧ (0 ≤ e.2 ∧ e.2 < 5))
   (hQ : ∀ h' tk' x dx lh t vs' c T, Kept [] hp h' → h'.get? lh = some (listOf vs'.toArray c) → hp.get? lh = none → h'.get? x = some (instObj 182 dx) → hp.get? x = none → h'.get? dx = some (hdrD w.params lh t) → hp.get? dx = none → lh ≠ dx → x ≠ dx → x ≠ lh → RowT (List.zipWith rowOf es ss) vs' T → (∀ p ∈ T, h'.get? p.1 = some p.2 ∧ hp.get? p.1 = none) → Q (.ref x) ⟨h', gs, d, tk', os⟩) :
   (Gd (hd.heap_1 w.params) vw (looseW vw lo) mg mb G) → 
   wpAny (model PySem.Challenge.rw_il0096_01.row.prog w) A (call (.ref 371) [.ref l1, .ref l2]) Q E ⟨hp, gs, d, tk, os⟩ := by
  k_fill
  intro X
  obtain ⟨aH, aD, aF, aG, aU⟩ := A
  obtain rfl : aH = none := hh
  replace hA : aD + 150 < recursionLimit := hA
  refine' enter (news := []) (binds := [("steps", .ref l1), ("spellings", .ref l2)]) X hG [] (by simp) (by simp) ?ho ?hcd ?hroom ?hbind ?hloc ?_ ?h1 ?h2 ?h3 ?h4
  case ho => k_dflt k_is
  case hcd => k_dflt k_is
  case hroom => first | omega | (show aD < _; omega)
  case hbind => first | exact BindsTo.of_eq rfl | exact kp_binds (X.keeps hG).X (fun _ => rfl)
  case hloc => exact locs rfl
  case h1 => rfl
  case h2 => rfl
  case h3 => rfl
  case h4 => decide
  intro g L h₁ Y hgs hgz F N hL
  simp only [List.reverse_cons, List.reverse_nil, List.nil_append, List.cons_append, updL] at F
  have KX := Y.X
  have TT := Y.T
  have hgs' : ∀ b o, hp.get? b = some o → g.get? b = some o := fun b o e => hgs b o e (by simp)
  have heg : Edges g es vs := he.mono fun b o _ e => hgs' b o e
  have hvl := heg.length
  have hul := hs.length
  refine wpAny_execs_cons ?_
  refine wpAny_Assign_Name ?_
  refine callGE0 ⟨rfl, by kernel_rfl!, rfl, rfl⟩ F Y (by k_dflt k_is) (by k_dflt k_is) (by kernel_rfl!) ?_
  refine pages_c w mg mb g _ _ gs d _ os _ _ (by show aD + 1 + 10 < _; omega) (Kept.ofFr F) ?_ Y
  intro h2 tk2 lp ps np k2 elp hlpn hsl
  have F2 := fr_back0 F k2
  have N2 : News g L h2 [(lp, listOf ps.toArray np)] := News.back F N k2 elp hlpn
  refine stL F2 N2 ?_
  intro h3 tk3 F3 N3
  refine wpAny_execs_cons ?_
  refine wpAny_Assign_Name ?_
  refine callGE ⟨rfl, by kernel_rfl!, rfl, rfl⟩ F3 Y (by k_dflt k_is) (by k_dflt k_is) (by kernel_rfl!) ?_
  refine args_cons ?_
  refine List_ ?_
  refine args_nil ?_
  refine newL F3 N3 (by simp) ?_
  intro lh h4 F4 N4 hne4 hlh4 hk4
  refine args_nil ?_
  refine ⟨Y.X.keeps F4.keep, ?_⟩
  refine call_cls (s := ⟨_, _, _, _, _⟩) F4 Y.X N4 (by k_dflt k_is) (by k_dflt k_is) (by k_dflt k_is) ?_
  intro x dx h5 F5 N5 hlt5 hdx
  have l1 := hlt5 _ (.head _)
  have l2 := hlt5 _ (.tail _ (.head _))
  dsimp only at l1 l2
  refine init_c w mg mb g _ h5 gs d _ os x dx lh _ ?_ ?_ (Kept.ofFr F5) (N5 _ (.tail _ (.tail _ (.head _)))).1 (N5 _ (.tail _ (.tail _ (.head _)))).2.2 (N5 _ (.head _)).1 (N5 _ (.head _)).2.2 (N5 _ (.tail _ (.head _))).1 (N5 _ (.tail _ (.head _))).2.2 (Nat.ne_of_lt l1) (Nat.ne_of_gt hdx) ?_ Y
  · show aD + 1 + 1 + 30 < _; omega
  · rfl
  · intro h6 tk6 th k6 edx
    have dL := (N5 (dx, dictOf [] 0) (.tail _ (.head _))).2
    have F6 := fr_back F5 k6 (by simpa using Ne.symm dL.1) (by simpa using dL.2)
    have N6 : News g L h6 [(lh, listOf (#[] : Array Value) 0), (x, instObj 182 dx), (dx, hdrD w.params lh th), (lp, listOf ps.toArray np)] := fun p hp => by
      simp only [List.mem_cons, List.not_mem_nil, or_false] at hp
      rcases hp with rfl | rfl | rfl | rfl
      · have z := N5 (lh, _) (.tail _ (.tail _ (.head _)))
        exact ⟨k6.1 _ _ z.1 (by simpa using Nat.ne_of_lt l1), z.2⟩
      · have z := N5 (x, _) (.head _)
        exact ⟨k6.1 _ _ z.1 (by simpa using Nat.ne_of_gt hdx), z.2⟩
      · exact ⟨edx, dL⟩
      · have z := N5 (lp, _) (.tail _ (.tail _ (.tail _ (.head _))))
        exact ⟨k6.1 _ _ z.1 (by simpa using Nat.ne_of_lt l2), z.2⟩
    have d1 : lh ≠ dx := Nat.ne_of_lt l1
    have d2 : x ≠ dx := Nat.ne_of_gt hdx
    have d3 : x ≠ lh := Nat.ne_of_gt (Nat.lt_trans l1 hdx)
    have d4 : lp ≠ lh := hne4 _ (.head _)
    refine ⟨rfl, ?_⟩
    show wpAny _ _ _ _ _ _
    refine stL F6 N6 ?_
    intro h7 tk7 F7 N7
    refine wpAny_execs_cons ?_
    refine wpAny_For ?_
    refine callTE ⟨rfl, by kernel_rfl!, rfl, rfl⟩ F7 Y (by k_dflt k_is) (by boot_fast) (by decide +kernel) (by kernel_rfl!) ?_
    refine args_cons ?_
    refine ldL F7 (by walk_at "lk") ?_
    refine args_cons ?_
    refine ldL F7 (by walk_at "lk") ?_
    refine args_nil ?_
    refine zipL F7 N7 (F7.keep _ _ (hgs' _ _ hl1)) (F7.keep _ _ (hgs' _ _ hl2)) ?_
    intro z TI TO i1 i2 h8 o1 o2 D8 F8 N8 ok1 ok2 hap8
    refine iterZip (N8 _ (.head _)).1 ?_
    refine forZip D8 (by exact rfl) ⟨rfl, by kernel_rfl!, rfl, rfl⟩ (by kernel_rfl!) (by kernel_rfl!) (by omega) (fun h' m' F' => ⟨⟨_, F'.keep _ _ (hgs' _ _ hl1)⟩, ⟨_, F'.keep _ _ (hgs' _ _ hl2)⟩⟩)
      (fun j m nw => ∃ vs' c T, nw = (lh, listOf vs'.toArray c) :: (x, instObj 182 dx) :: (dx, hdrD w.params lh th) :: (lp, listOf ps.toArray np) :: T ∧ RowT ((List.zipWith rowOf es ss).take j) vs' T ∧ (∀ p ∈ T, p.1 ≠ lh) ∧ m "pages" = some (.ref lp) ∧ m "table" = some (.ref x))
      F8 N8 ok1 ok2 hap8 ⟨[], 0, [], rfl, .nil, by simp, by walk_at "lk", by walk_at "lk"⟩ ?_ ?_
    · rintro j m nw h9 tk9 zs hj hzs hzsAll F9 N9 hap9 ⟨vs', c, T, rfl, hT, hTl, mp, mt⟩
      have hje : j < es.length := by omega
      obtain ⟨r, t1, t2, e1, e2⟩ := heg.get hje
      obtain ⟨t3, e3⟩ := intsGet hs (k := j) (by omega)
      generalize hep : es.getD j default = ep at *
      generalize hsp : ss.getD j 0 = sp at *
      have hepm : ep ∈ es := by rw [← hep, List.getD_eq_getElem?_getD, List.getElem?_eq_getElem hje]; exact List.getElem_mem hje
      have hrg := hr ep hepm
      have P1 := pg_ok hrg.1
      have P2 := pg_ok hrg.2
      have RO := row_ok (s := sp) hrg.1 hrg.2
      have hrow : (List.zipWith rowOf es ss).take (j + 1) = (List.zipWith rowOf es ss).take j ++ [rowOf ep sp] := by
        have hjz : j < (List.zipWith rowOf es ss).length := by rw [List.length_zipWith]; omega
        rw [List.take_succ_eq_append_getElem hjz, List.getElem_zipWith]
        congr 3
        · rw [← hep, List.getD_eq_getElem?_getD, List.getElem?_eq_getElem hje]; rfl
        · rw [← hsp, List.getD_eq_getElem?_getD, List.getElem?_eq_getElem (by omega)]; rfl
      have hpl : ps.length = 5 := hsl.length
      have pageAt : ∀ {a : Int}, 0 ≤ a ∧ a < 5 → ∃ t, ps.getD a.toNat .none = .str (pgI a) t := fun {a} ha => hsl.get (by show a.toNat < 5; omega)
      rw [e1, e3] at F9
      have elp9 : h9.get? lp = some (listOf ps.toArray np) := (N9 _ (List.mem_append_right _ (.tail _ (.tail _ (.tail _ (.head _)))))).1
      refine wpAny_execs_cons ?_
      refine wpAny_Assign_Name ?_
      refine Subscript_ ?_
      refine ldL F9 (by walk_at "lk") ?_
      refine Subscript_ ?_
      refine ldL F9 (by walk_at "lk") ?_
      refine cI ?_
      intro _ _
      refine pair0 (F9.keep _ _ e2) ?_
      obtain ⟨ta, ea⟩ := pageAt hrg.1
      refine item_any (k := ep.1.toNat) elp9 (by omega) (by omega) (by omega) ?_
      rw [ea]
      refine stL F9 N9 ?_
      intro h10 tk10 F10 N10
      refine wpAny_execs_cons ?_
      refine wpAny_Assign_Name ?_
      refine callGE ⟨rfl, by kernel_rfl!, rfl, rfl⟩ F10 Y (by k_dflt k_is) (by k_dflt k_is) (by kernel_rfl!) ?_
      refine args_cons ?_
      refine ldL F10 (by walk_at "lk") ?_
      refine args_cons ?_
      refine Subscript_ ?_
      refine ldL F10 (by walk_at "lk") ?_
      refine Subscript_ ?_
      refine ldL F10 (by walk_at "lk") ?_
      refine cI ?_
      intro _ _
      refine pair1 (F10.keep _ _ e2) ?_
      obtain ⟨tb, eb⟩ := pageAt hrg.2
      refine item_any (k := ep.2.toNat) (N10 _ (List.mem_append_right _ (.tail _ (.tail _ (.tail _ (.head _)))))).1 (by omega) (by omega) (by omega) ?_
      rw [eb]
      refine args_cons ?_
      refine wpAny_BinOp ?_
      refine ldL F10 (by walk_at "lk") ?_
      refine cI ?_
      intro _ _
      refine mod_int (s := ⟨_, _, _, _, _⟩) (by decide) ?_
      refine args_nil ?_
      refine ⟨Y.X.keeps F10.keep, ?_⟩
      refine way_c w mg mb g _ h10 gs d _ os (pgI ep.1) (pgI ep.2) _ _ _ _ _ _ (by show aD + 1 + 10 < _; omega) (Kept.ofFr F10) (by have := P1.l; omega) (by have := P2.l; omega) P1.n4 P1.n0 ?_ Y
      intro h11 tk11 wy twy k11 hwy
      have F11 := fr_back0 F10 k11
      have N11 := news_back0 N10 k11
      have hwy : wy = (rowOf ep sp).2 := hwy
      refine stL F11 N11 ?_
      intro h12 tk12 F12 N12
      refine wpAny_execs_cons ?_
      refine wpAny_Expr ?_
      refine MethodCall_ ?_
      refine ldL F12 (by walk_at "lk") ?_
      have N12b := News.sub N12 (nw' := [(lh, listOf vs'.toArray c), (x, instObj 182 dx), (dx, hdrD w.params lh th)]) (by intro p hp; refine List.mem_append_right _ ?_; simp only [List.mem_cons, List.not_mem_nil, or_false] at hp ⊢; rcases hp with rfl | rfl | rfl <;> simp)
      have KX12 := Y.X
      clear N F2 F3 N2 N3 N4 F4 N5 F5 F6 N6 F7 N7 F8 N8 N9 F9 N10 F10 N11 F11
      have N12s := N12
      clear N12
      walk_at "getMethod ref"
      refine callWith_K (first := [.ref x]) Y.X (by k_dflt k_is) ?_
      refine args_cons ?_
      refine ifUpper ⟨rfl, by kernel_rfl!, rfl, rfl⟩ F12 (by kernel_rfl!) (by kernel_rfl!) (by walk_at "lk") (by walk_at "lk") P1.l ?_
      intro tu tku
      refine args_cons ?_
      refine ldL F12 (by walk_at "lk") ?_
      refine args_nil ?_
      refine ⟨Y.X.keeps F12.keep, ?_⟩
      have hTlen : vs'.length ≤ 50 := by
        have := hT.length
        rw [List.length_take, List.length_zipWith] at this
        omega
      have z1 := N12b (lh, _) (.head _)
      have z2 := N12b (x, _) (.tail _ (.head _))
      have z3 := N12b (dx, _) (.tail _ (.tail _ (.head _)))
      refine add_c w mg mb g _ h12 gs d _ os x dx lh th vs' c (rowOf ep sp).1 wy tu twy _ _ (by show aD + 1 + 60 < _; omega) (by exact rfl) (Kept.ofFr F12) z1.1 z1.2.2 z2.1 z2.2.2 z3.1 z3.2.2 d1 d2 d3 (by omega) (by have q : (rowOf ep sp).1.cps.size ≤ 30 := RO.2.1; omega) RO.1 (by have q : wy.cps.size ≤ 30 := hwy ▸ RO.2.2.2.l; omega) (hwy ▸ RO.2.2.2.c) ?_ Y
      intro h13 tk13 rr tr k13 elh13 err hrr
      have F13 := fr_back F12 k13 (by simpa using Ne.symm z1.2.1) (by simpa using z1.2.2)
      have hrrL : rr ≠ L := by
        rintro rfl
        obtain ⟨oL, _, _, q, _⟩ := F12.ns
        rw [hrr] at q; cases q
      have hrg0 : g.get? rr = none := by
        cases hg : g.get? rr with
        | none => rfl
        | some o' => rw [F12.keep rr o' hg] at hrr; cases hrr
      have oldne : ∀ p ∈ zs ++ (lh, listOf vs'.toArray c) :: (x, instObj 182 dx) :: (dx, hdrD w.params lh th) :: (lp, listOf ps.toArray np) :: T, p.1 ≠ rr := fun p hp e => by
        have := (N12s p hp).1
        rw [e, hrr] at this; cases this
      have zne : ∀ p ∈ zs, p.1 ≠ lh := fun p hp => (hap9 (lh, _) (.head _) p.1 (hzs p hp)).symm
      refine wpAny_execs_nil ?_
      refine At.mk F13 (news := zs ++ (lh, listOf (vs' ++ [Value.ref rr]).toArray (c + 1)) :: (x, instObj 182 dx) :: (dx, hdrD w.params lh th) :: (lp, listOf ps.toArray np) :: (T ++ [(rr, tup (.str (rowOf ep sp).1 tu) (.str wy tr))])) ?_ ⟨_, rfl, ?_, vs' ++ [Value.ref rr], c + 1, T ++ [(rr, tup (.str (rowOf ep sp).1 tu) (.str wy tr))], rfl, ?_, ?_, by walk_at "lk", by walk_at "lk"⟩
      · intro p hp
        rcases List.mem_append.mp hp with hp | hp
        · have := N12s p (List.mem_append_left _ hp)
          exact ⟨k13.1 _ _ this.1 (by simpa using zne p hp), this.2⟩
        · simp only [List.mem_cons, List.mem_append, List.not_mem_nil, or_false] at hp
          rcases hp with rfl | rfl | rfl | rfl | hp | rfl
          · exact ⟨elh13, z1.2⟩
          · exact ⟨k13.1 _ _ z2.1 (by simpa using d3), z2.2⟩
          · exact ⟨k13.1 _ _ z3.1 (by simpa using Ne.symm d1), z3.2⟩
          · have := N12s (lp, _) (List.mem_append_right _ (.tail _ (.tail _ (.tail _ (.head _)))))
            exact ⟨k13.1 _ _ this.1 (by simpa using d4), this.2⟩
          · have := N12s p (List.mem_append_right _ (.tail _ (.tail _ (.tail _ (.tail _ hp)))))
            exact ⟨k13.1 _ _ this.1 (by simpa using hTl p hp), this.2⟩
          · exact ⟨err, hrrL, hrg0⟩
      · intro p hp q hq
        have hz : ∀ q ∈ [z, TI, TO, i1, i2], rr ≠ q := fun q hq => by
          rcases List.mem_map.mp (hzsAll q hq) with ⟨u, hu, rfl⟩
          exact (oldne u (List.mem_append_left _ hu)).symm
        simp only [List.mem_cons, List.mem_append, List.not_mem_nil, or_false] at hp
        rcases hp with rfl | rfl | rfl | rfl | hp | rfl
        · exact hap9 (lh, _) (.head _) q hq
        · exact hap9 (x, _) (.tail _ (.head _)) q hq
        · exact hap9 (dx, _) (.tail _ (.tail _ (.head _))) q hq
        · exact hap9 (lp, _) (.tail _ (.tail _ (.tail _ (.head _)))) q hq
        · exact hap9 p (.tail _ (.tail _ (.tail _ (.tail _ hp)))) q hq
        · exact hz q hq
      · rw [hrow]
        have := RowT.snoc (a := (rowOf ep sp).1) (b := (rowOf ep sp).2) (r := rr) (t := tu) (t' := tr) hT
        rw [hwy]
        exact this
      · intro p hp
        rcases List.mem_append.mp hp with hp | hp
        · exact hTl p hp
        · rw [List.mem_singleton.mp hp]
          exact (oldne (lh, listOf vs'.toArray c) (List.mem_append_right _ (.head _))).symm
    · rintro h9 tk9 m9 nw F9 N9 ⟨vs', c, T, rfl, hT, hTl, mp, mt⟩
      refine wpAny_execs_cons ?_
      refine wpAny_Return_some ?_
      refine ldL F9 mt ?_
      have hfull : (List.zipWith rowOf es ss).take vs.length = List.zipWith rowOf es ss := List.take_of_length_le (by rw [List.length_zipWith]; omega)
      rw [hfull] at hT
      have fresh : ∀ q ∈ (lh, listOf vs'.toArray c) :: (x, instObj 182 dx) :: (dx, hdrD w.params lh th) :: (lp, listOf ps.toArray np) :: T, hp.get? q.1 = none := fun q hq => by
        cases e : hp.get? q.1 with
        | none => rfl
        | some o' => have := (N9 q hq).2.2; rw [hgs' _ _ e] at this; cases this
      refine hQ h9 _ x dx lh th vs' c T (kept_end hgs hgz F9) (N9 _ (.head _)).1 (fresh _ (.head _)) (N9 _ (.tail _ (.head _))).1 (fresh _ (.tail _ (.head _))) (N9 _ (.tail _ (.tail _ (.head _)))).1 (fresh _ (.tail _ (.tail _ (.head _)))) d1 d2 d3 hT fun p hp => ⟨(N9 p (.tail _ (.tail _ (.tail _ (.tail _ hp))))).1, fresh p (.tail _ (.tail _ (.tail _ (.tail _ hp))))⟩
end

section
set_option linter.unusedVariables false
/-! the plain law: a walk that goes back where it is stuck gives the least tour -/
inductive Rch (E : List (Int × Int)) (a : Int) : Int → Prop
  | refl : Rch E a a
  | tail {b c : Int} : Rch E a b → (b, c) ∈ E → Rch E a c
theorem Rch.trans {E : List (Int × Int)} {a b c : Int} (x : Rch E a b) (y : Rch E b c) : Rch E a c := by
  induction y with
  | refl => exact x
  | tail _ h ih => exact ih.tail h
theorem Rch.head {E : List (Int × Int)} {a b c : Int} (h : (a, b) ∈ E) (y : Rch E b c) : Rch E a c := Rch.trans (Rch.tail .refl h) y
theorem Rch.mono {E E' : List (Int × Int)} {a b : Int} (hs : ∀ e ∈ E, e ∈ E') (x : Rch E a b) : Rch E' a b := by
  induction x with
  | refl => exact .refl
  | tail _ h ih => exact ih.tail (hs _ h)
noncomputable def Bal (E : List (Int × Int)) (u w : Int) : Prop := ∀ x : Int, (E.map (·.1)).count x + (if x = w then 1 else 0) = (E.map (·.2)).count x + (if x = u then 1 else 0)
theorem Bal.perm {E E' : List (Int × Int)} {u w : Int} (p : E.Perm E') (h : Bal E u w) : Bal E' u w := fun x => by
  have := h x
  rw [(p.map (·.1)).count_eq, (p.map (·.2)).count_eq] at this
  exact this
theorem Bal.step {E : List (Int × Int)} {u v w : Int} (h : Bal E u w) (hm : (u, v) ∈ E) : Bal (E.erase (u, v)) v w := fun x => by
  have := (h.perm (List.perm_cons_erase hm)) x
  simp only [List.map_cons, List.count_cons, beq_iff_eq] at this
  have e1 : (if x = u then 1 else 0) = (if u = x then (1 : Nat) else 0) := by simp [eq_comm]
  have e2 : (if x = v then 1 else 0) = (if v = x then (1 : Nat) else 0) := by simp [eq_comm]
  omega
theorem Bal.out {E : List (Int × Int)} {u w : Int} (h : Bal E u w) (hne : u ≠ w) : ∃ v, (u, v) ∈ E := by
  have := h u
  rw [if_neg hne, if_pos rfl] at this
  have hp : 0 < (E.map (·.1)).count u := by omega
  obtain ⟨e, he, rfl⟩ := List.mem_map.mp (List.count_pos_iff.mp hp)
  exact ⟨e.2, he⟩
theorem Bal.reach : ∀ (n : Nat) {E : List (Int × Int)} {u w : Int}, E.length ≤ n → Bal E u w → Rch E u w
  | 0, E, u, w, hn, h => by
    by_cases hne : u = w
    · subst hne; exact .refl
    · obtain ⟨v, hv⟩ := h.out hne
      rw [List.length_eq_zero_iff.mp (Nat.le_zero.mp hn)] at hv
      cases hv
  | n + 1, E, u, w, hn, h => by
    by_cases hne : u = w
    · subst hne; exact .refl
    · obtain ⟨v, hv⟩ := h.out hne
      have hl := List.length_erase_of_mem hv
      exact Rch.head hv (Rch.mono (fun e he => List.mem_of_mem_erase he) (Bal.reach n (by omega) (h.step hv)))
section
variable {r : Int → Int → Prop}
/-- the walk: the trail from u, and the links left -/
inductive VR (r : Int → Int → Prop) : List (Int × Int) → Int → List Int → List (Int × Int) → Prop
  | stop {E : List (Int × Int)} {u : Int} : (∀ v, (u, v) ∉ E) → VR r E u [u] E
  | go {E E2 E3 : List (Int × Int)} {u v : Int} {P1 P2 : List Int} : (u, v) ∈ E → (∀ v', (u, v') ∈ E → r v v') → VR r (E.erase (u, v)) v P1 E2 → VR r E2 u P2 E3 → VR r E u (P2 ++ P1) E3
/-- the trail that is left, the links left and what was noted give ans -/
inductive FR (r : Int → Int → Prop) : List Int → List (Int × Int) → List Int → List Int → Prop
  | nil {E : List (Int × Int)} {out : List Int} : FR r [] E out out
  | cons {E E' : List (Int × Int)} {u : Int} {P ts out ans : List Int} : VR r E u P E' → FR r ts E' (P ++ out) ans → FR r (u :: ts) E out ans
theorem FR.pop {E : List (Int × Int)} {u : Int} {ts out ans : List Int} (h : FR r (u :: ts) E out ans) (hno : ∀ v, (u, v) ∉ E) : FR r ts E (u :: out) ans := by
  cases h with
  | cons hv hr =>
    cases hv with
    | stop _ => exact hr
    | go hm _ _ _ => exact absurd hm (hno _)
theorem FR.push (anti : ∀ a b, r a b → r b a → a = b) {E : List (Int × Int)} {u v : Int} {ts out ans : List Int} (h : FR r (u :: ts) E out ans) (hm : (u, v) ∈ E) (hl : ∀ v', (u, v') ∈ E → r v v') : FR r (v :: u :: ts) (E.erase (u, v)) out ans := by
  cases h with
  | cons hv hr =>
    cases hv with
    | stop hno => exact absurd hm (hno _)
    | @go _ E2 _ _ v0 P1 P2 hm0 hl0 h1 h2 =>
      obtain rfl : v = v0 := anti _ _ (hl _ hm0) (hl0 _ hm)
      rw [List.append_assoc] at hr
      exact .cons h1 (.cons h2 hr)
theorem VR.exists (least : ∀ (l : List Int), l ≠ [] → ∃ v ∈ l, ∀ v' ∈ l, r v v') : ∀ (n : Nat) (E : List (Int × Int)) (u : Int), E.length ≤ n → ∃ P E', VR r E u P E' ∧ E'.length ≤ E.length := by
  intro n
  induction n with
  | zero =>
    intro E u hn
    refine ⟨[u], E, .stop fun v hv => ?_, Nat.le_refl _⟩
    rw [List.length_eq_zero_iff.mp (Nat.le_zero.mp hn)] at hv
    cases hv
  | succ n ih =>
    intro E u hn
    by_cases hout : ((E.filter fun e => e.1 == u).map (·.2)) = []
    · refine ⟨[u], E, .stop fun v hv => ?_, Nat.le_refl _⟩
      have : v ∈ (E.filter fun e => e.1 == u).map (·.2) := List.mem_map.mpr ⟨(u, v), List.mem_filter.mpr ⟨hv, by simp⟩, rfl⟩
      rw [hout] at this; cases this
    · obtain ⟨v, hv, hl⟩ := least _ hout
      have hm : (u, v) ∈ E := by
        obtain ⟨e, he, rfl⟩ := List.mem_map.mp hv
        have := List.mem_filter.mp he
        rw [show u = e.1 from (eq_of_beq this.2).symm]; exact this.1
      have hlen := List.length_erase_of_mem hm
      have hpos : 0 < E.length := List.length_pos_of_mem hm
      obtain ⟨P1, E2, h1, q1⟩ := ih (E.erase (u, v)) v (by omega)
      obtain ⟨P2, E3, h2, q2⟩ := ih E2 u (by omega)
      exact ⟨P2 ++ P1, E3, .go hm (fun v' hv' => hl v' (List.mem_map.mpr ⟨(u, v'), List.mem_filter.mpr ⟨hv', by simp⟩, rfl⟩)) h1 h2, by omega⟩
/-- a link behind which all that is left can still be come to -/
noncomputable def Cand (E : List (Int × Int)) (u b : Int) : Prop := (u, b) ∈ E ∧ ∀ e ∈ E.erase (u, b), Rch (E.erase (u, b)) b e.1
inductive BR (r : Int → Int → Prop) : List (Int × Int) → Int → List Int → Prop
  | nil {u : Int} : BR r [] u []
  | cons {E : List (Int × Int)} {u b : Int} {P : List Int} : Cand E u b → (∀ b', Cand E u b' → r b b') → BR r (E.erase (u, b)) b P → BR r E u (b :: P)
theorem Cand.perm {E E' : List (Int × Int)} {u b : Int} (p : E.Perm E') (h : Cand E u b) : Cand E' u b :=
  ⟨p.mem_iff.mp h.1, fun e he => Rch.mono (fun e he => (p.erase (u, b)).mem_iff.mp he) (h.2 e ((p.erase (u, b)).mem_iff.mpr he))⟩
theorem BR.perm {E : List (Int × Int)} {u : Int} {P : List Int} (h : BR r E u P) : ∀ {E' : List (Int × Int)}, E.Perm E' → BR r E' u P := by
  induction h with
  | nil => intro E' p; rw [List.nil_perm.mp p]; exact .nil
  | @cons E u b P hc hl _ ih => intro E' p; exact .cons (hc.perm p) (fun b' hb' => hl b' (hb'.perm p.symm)) (ih (p.erase _))
theorem BR.cat (refl : ∀ a, r a a) {F1 : List (Int × Int)} {u v : Int} {P1 : List Int} (hu : ¬ Rch F1 v u) (hr1 : ∀ e ∈ F1, Rch F1 v e.1) (h1 : BR r F1 v P1) {F2 : List (Int × Int)} {y : Int} {P2 : List Int} (h2 : BR r F2 y P2) :
    Bal F2 y u → (∀ e ∈ F2, ¬ Rch F1 v e.1) → BR r (F2 ++ (u, v) :: F1) y (P2 ++ v :: P1) := by
  induction h2 with
  | @nil y =>
    intro hb hv
    obtain rfl : y = u := Classical.byContradiction fun q => by obtain ⟨_, h⟩ := hb.out q; cases h
    have he : ((y, v) :: F1).erase (y, v) = F1 := List.erase_cons_head _ _
    refine .cons (E := (y, v) :: F1) ⟨.head _, by rw [he]; exact hr1⟩ (fun b' hb' => ?_) (by rw [he]; exact h1)
    rcases List.mem_cons.mp hb'.1 with q | q
    · cases q; exact refl _
    · exact absurd (hr1 _ q) hu
  | @cons F2 y b P hc hl hB ih =>
    intro hb hv
    have hclos : ∀ {G : List (Int × Int)}, (∀ e ∈ G, e ∈ F2 ++ (u, v) :: F1) → ∀ {x : Int}, Rch G v x → Rch F1 v x := by
      intro G hG x hx
      induction hx with
      | refl => exact .refl
      | tail _ hm ih =>
        rcases List.mem_append.mp (hG _ hm) with q | q
        · exact absurd ih (hv _ q)
        · rcases List.mem_cons.mp q with q | q
          · cases q; exact .refl
          · exact ih.tail q
    have he : (F2 ++ (u, v) :: F1).erase (y, b) = F2.erase (y, b) ++ (u, v) :: F1 := List.erase_append_left _ hc.1
    have hb' := hb.step hc.1
    have hub : Rch (F2.erase (y, b) ++ (u, v) :: F1) b u := Rch.mono (fun e he => List.mem_append_left _ he) (Bal.reach _ (Nat.le_refl _) hb')
    refine .cons (b := b) ⟨List.mem_append_left _ hc.1, fun e hm => ?_⟩ (fun b' hb2 => ?_) ?_
    · rw [he] at hm ⊢
      rcases List.mem_append.mp hm with q | q
      · exact Rch.mono (fun e he => List.mem_append_left _ he) (hc.2 e q)
      · rcases List.mem_cons.mp q with rfl | q
        · exact hub
        · exact Rch.trans (hub.tail (List.mem_append_right _ (.head _))) (Rch.mono (fun e he => List.mem_append_right _ (.tail _ he)) (hr1 e q))
    · have hyS := hv _ hc.1
      by_cases hin : (y, b') ∈ F2
      · have he2 : (F2 ++ (u, v) :: F1).erase (y, b') = F2.erase (y, b') ++ (u, v) :: F1 := List.erase_append_left _ hin
        refine hl b' ⟨hin, fun e hm => ?_⟩
        have h0 := hb2.2 e (by rw [he2]; exact List.mem_append_left _ hm)
        rw [he2] at h0
        have key : ∀ x, Rch (F2.erase (y, b') ++ (u, v) :: F1) b' x → ¬ Rch F1 v x → Rch (F2.erase (y, b')) b' x := by
          intro x hx
          induction hx with
          | refl => intro _; exact .refl
          | tail _ hm ih =>
            intro hns
            rcases List.mem_append.mp hm with q | q
            · exact (ih (hv _ (List.mem_of_mem_erase q))).tail q
            · rcases List.mem_cons.mp q with q | q
              · cases q; exact absurd .refl hns
              · exact absurd ((hr1 _ q).tail q) hns
        exact key _ h0 (hv _ (List.mem_of_mem_erase hm))
      · exfalso
        rcases List.mem_append.mp hb2.1 with q | q
        · exact hin q
        · rcases List.mem_cons.mp q with q | q
          · cases q
            have hne : (u, b) ≠ (u, v) := fun q => hin (q ▸ hc.1)
            have h0 := hb2.2 (u, b) ((List.mem_erase_of_ne hne).mpr (List.mem_append_left _ hc.1))
            exact hu (hclos (fun e he => List.mem_of_mem_erase he) h0)
          · exact hyS (hr1 (y, b') q)
    · rw [he]
      exact ih hb' fun e he => hv e (List.mem_of_mem_erase he)
theorem Rch.stuck {E : List (Int × Int)} {u x : Int} (hno : ∀ v, (u, v) ∉ E) (h : Rch E u x) : x = u := by
  induction h with
  | refl => rfl
  | tail _ hm ih => subst ih; exact absurd hm (hno _)
theorem Rch.first {E : List (Int × Int)} {u x : Int} (h : Rch E u x) : x = u ∨ ∃ c, (u, c) ∈ E := by
  induction h with
  | refl => exact .inl rfl
  | @tail b c _ hm ih =>
    rcases ih with rfl | q
    · exact .inr ⟨_, hm⟩
    · exact .inr q
theorem VR.main (refl : ∀ a, r a a) {E E' : List (Int × Int)} {u : Int} {P : List Int} (h : VR r E u P E') : ∀ {w : Int}, Bal E u w →
    ∃ F P', E.Perm (F ++ E') ∧ (∀ e ∈ F, Rch F u e.1) ∧ (∀ e ∈ E', ¬ Rch E u e.1) ∧ Bal F u w ∧ P = u :: P' ∧ BR r F u P' := by
  induction h with
  | @stop E u hno =>
    intro w hb
    obtain rfl : u = w := Classical.byContradiction fun q => by obtain ⟨v, h⟩ := hb.out q; exact hno v h
    refine ⟨[], [], List.Perm.refl _, (fun e he => nomatch he), fun e he hr => ?_, fun x => rfl, rfl, .nil⟩
    have := hr.stuck hno
    exact hno e.2 (this ▸ he)
  | @go E E2 E3 u v P1 P2 hm hl _ _ ih1 ih2 =>
    intro w hb
    obtain ⟨F1, Q1, p1, r1, n1, b1, rfl, B1⟩ := ih1 (hb.step hm)
    have hb1 := (hb.step hm).perm p1
    have hb2 : Bal E2 u u := fun x => by
      have e1 := hb1 x
      have e2 := b1 x
      simp only [List.map_append, List.count_append] at e1
      omega
    obtain ⟨F2, Q2, p2, r2, n2, b2, rfl, B2⟩ := ih2 hb2
    have pE : E.Perm ((u, v) :: (F1 ++ E2)) := (List.perm_cons_erase hm).trans (p1.cons _)
    have sub1 : ∀ e ∈ F1, e ∈ E.erase (u, v) := fun e he => p1.mem_iff.mpr (List.mem_append_left _ he)
    have sub2 : ∀ e ∈ F2, e ∈ E2 := fun e he => p2.mem_iff.mpr (List.mem_append_left _ he)
    refine ⟨F2 ++ (u, v) :: F1, Q2 ++ v :: Q1, ?_, ?_, ?_, ?_, by simp, ?_⟩
    · refine pE.trans ?_
      have : ((u, v) :: (F1 ++ E2)).Perm ((u, v) :: (F1 ++ (F2 ++ E3))) := (p2.append_left F1).cons _
      refine this.trans ?_
      rw [← List.cons_append, ← List.append_assoc]
      exact List.Perm.append_right E3 List.perm_append_comm
    · intro e he
      have huv : Rch (F2 ++ (u, v) :: F1) u v := Rch.tail .refl (List.mem_append_right _ (.head _))
      rcases List.mem_append.mp he with q | q
      · exact Rch.mono (fun e he => List.mem_append_left _ he) (r2 e q)
      · rcases List.mem_cons.mp q with rfl | q
        · exact .refl
        · exact huv.trans (Rch.mono (fun e he => List.mem_append_right _ (.tail _ he)) (r1 e q))
    · intro e he hr
      have key : ∀ x, Rch E u x → Rch (E.erase (u, v)) v x ∨ Rch E2 u x := by
        intro x hx
        induction hx with
        | refl => exact .inr .refl
        | @tail b c _ hbc ih =>
          rcases List.mem_cons.mp (pE.mem_iff.mp hbc) with q | q
          · cases q; exact .inl .refl
          · rcases ih with ih | ih
            · exact .inl (ih.tail (p1.mem_iff.mpr q))
            · rcases List.mem_append.mp q with q | q
              · exact .inl ((Rch.mono sub1 (r1 _ q)).tail (sub1 _ q))
              · exact .inr (ih.tail q)
      rcases key _ hr with q | q
      · exact n1 e (p2.mem_iff.mpr (List.mem_append_right _ he)) q
      · exact n2 e he q
    · intro x
      have e1 := b1 x
      have e2 := b2 x
      simp only [List.map_append, List.map_cons, List.count_append, List.count_cons, beq_iff_eq]
      have q1 : (if x = u then 1 else 0) = (if u = x then (1 : Nat) else 0) := by simp [eq_comm]
      have q2 : (if x = v then 1 else 0) = (if v = x then (1 : Nat) else 0) := by simp [eq_comm]
      omega
    · cases F2 with
      | nil =>
        cases B2 with
        | nil =>
          have he : ((u, v) :: F1).erase (u, v) = F1 := List.erase_cons_head _ _
          refine .cons (E := (u, v) :: F1) ⟨.head _, by rw [he]; exact r1⟩ (fun b' hb' => hl b' ?_) (by rw [he]; exact B1)
          rcases List.mem_cons.mp hb'.1 with q | q
          · cases q; exact hm
          · exact List.mem_of_mem_erase (sub1 _ q)
        | cons hc _ _ => cases hc.1
      | cons e0 F2 =>
        have hns : ∀ e ∈ e0 :: F2, ¬ Rch F1 v e.1 := fun e he hr => n1 e (sub2 e he) (Rch.mono sub1 hr)
        refine BR.cat refl ?_ r1 B1 B2 b2 hns
        intro hr
        rcases (r2 e0 (.head _)).first with q | ⟨c, q⟩
        · exact hns e0 (.head _) (q ▸ hr)
        · exact hns _ q hr
/-- all links can be come to: the whole of it -/
theorem FR.all (refl : ∀ a, r a a) (least : ∀ (l : List Int), l ≠ [] → ∃ v ∈ l, ∀ v' ∈ l, r v v') {E : List (Int × Int)} {u : Int} (hb : Bal E u u) (hr : ∀ e ∈ E, Rch E u e.1) : ∃ P, FR r [u] E [] (u :: P) ∧ BR r E u P := by
  obtain ⟨P, E', hV, _⟩ := VR.exists least _ E u (Nat.le_refl _)
  obtain ⟨F, P', p, _, hn, _, rfl, hB⟩ := hV.main refl hb
  obtain rfl : E' = [] := by
    cases E' with
    | nil => rfl
    | cons e E' => exact absurd (hr e (p.mem_iff.mpr (List.mem_append_right _ (.head _)))) (hn e (.head _))
  rw [List.append_nil] at p
  refine ⟨P', .cons hV ?_, hB.perm p.symm⟩
  rw [List.append_nil]
  exact .nil
end
end

section
set_option linter.unusedVariables false
noncomputable def V5 (x : Int) : Prop := 0 ≤ x ∧ x < 5
noncomputable def EOk (es : List (Int × Int)) : Prop := ∀ e ∈ es, V5 e.1 ∧ V5 e.2
theorem EOk.erase {es : List (Int × Int)} (h : EOk es) (e : Int × Int) : EOk (es.erase e) := fun x hx => h x (List.mem_of_mem_erase hx)
theorem V5.cases {x : Int} (h : V5 x) : x = 0 ∨ x = 1 ∨ x = 2 ∨ x = 3 ∨ x = 4 := by unfold V5 at h; omega
theorem any_eq (ms : List Int) (a : Int) : ms.any (· == a) = true ↔ a ∈ ms := by
  rw [List.any_eq_true]
  exact ⟨fun ⟨x, hx, he⟩ => by rw [beq_iff_eq] at he; exact he ▸ hx, fun h => ⟨a, h, by simp⟩⟩
theorem mem_grow {es : List (Int × Int)} {ms : List Int} {x : Int} : x ∈ grow es ms ↔ x ∈ ms ∨ ∃ a, (a, x) ∈ es ∧ a ∈ ms := by
  unfold grow
  rw [List.mem_append, List.mem_map]
  constructor
  · rintro (h | ⟨e, he, rfl⟩)
    · exact .inl h
    · have := List.mem_filter.mp he
      rw [Bool.and_eq_true, any_eq] at this
      exact .inr ⟨e.1, this.1, this.2.1⟩
  · rintro (h | ⟨a, he, ha⟩)
    · exact .inl h
    · by_cases hx : x ∈ ms
      · exact .inl hx
      · refine .inr ⟨(a, x), List.mem_filter.mpr ⟨he, ?_⟩, rfl⟩
        rw [Bool.and_eq_true, any_eq]
        refine ⟨ha, ?_⟩
        rw [Bool.not_eq_true', Bool.eq_false_iff, Ne, any_eq]
        exact hx
noncomputable def Closed (es : List (Int × Int)) (ms : List Int) : Prop := ∀ e ∈ es, e.1 ∈ ms → e.2 ∈ ms
theorem grow_closed {es : List (Int × Int)} {ms : List Int} (h : Closed es ms) : Closed es (grow es ms) := fun e he hm => by
  have same : ∀ x, x ∈ grow es ms → x ∈ ms := fun x hx => by
    rcases mem_grow.mp hx with q | ⟨a, q, r⟩
    · exact q
    · exact h _ q r
  exact mem_grow.mpr (.inl (h e he (same _ hm)))
noncomputable def cnt (ms : List Int) : Nat := (if (0 : Int) ∈ ms then 1 else 0) + (if (1 : Int) ∈ ms then 1 else 0) + (if (2 : Int) ∈ ms then 1 else 0) + (if (3 : Int) ∈ ms then 1 else 0) + (if (4 : Int) ∈ ms then 1 else 0)
theorem ite_le {p q : Prop} [Decidable p] [Decidable q] (h : p → q) : (if p then 1 else 0) ≤ (if q then (1 : Nat) else 0) := by
  by_cases hp : p
  · rw [if_pos hp, if_pos (h hp)]; exact Nat.le_refl _
  · rw [if_neg hp]; exact Nat.zero_le _
theorem ite_lt {p q : Prop} [Decidable p] [Decidable q] (h : ¬ p) (h' : q) : (if p then 1 else 0) < (if q then (1 : Nat) else 0) := by
  rw [if_neg h, if_pos h']; decide
theorem cnt_lt {ms ms' : List Int} (hs : ∀ x ∈ ms, x ∈ ms') {b : Int} (hb : V5 b) (h1 : b ∉ ms) (h2 : b ∈ ms') : cnt ms < cnt ms' := by
  unfold cnt
  have l0 := ite_le (hs 0)
  have l1 := ite_le (hs 1)
  have l2 := ite_le (hs 2)
  have l3 := ite_le (hs 3)
  have l4 := ite_le (hs 4)
  have l5 := ite_lt h1 h2
  rcases hb.cases with rfl | rfl | rfl | rfl | rfl <;> omega
theorem cnt_pos {ms : List Int} {b : Int} (hb : V5 b) (h : b ∈ ms) : 1 ≤ cnt ms := by
  have := cnt_lt (ms := []) (ms' := ms) (fun x hx => nomatch hx) hb (by simp) h
  omega
theorem cnt_all {ms : List Int} (h : 5 ≤ cnt ms) {b : Int} (hb : V5 b) : b ∈ ms := Classical.byContradiction fun q => by
  have := cnt_lt (ms := ms) (ms' := [0, 1, 2, 3, 4] ++ ms) (fun x hx => List.mem_append_right _ hx) hb q (by rcases hb.cases with rfl | rfl | rfl | rfl | rfl <;> simp)
  have h5 : cnt ([0, 1, 2, 3, 4] ++ ms) ≤ 5 := by
    unfold cnt
    have a0 := ite_le (p := (0 : Int) ∈ [0, 1, 2, 3, 4] ++ ms) (q := True) fun _ => trivial
    have a1 := ite_le (p := (1 : Int) ∈ [0, 1, 2, 3, 4] ++ ms) (q := True) fun _ => trivial
    have a2 := ite_le (p := (2 : Int) ∈ [0, 1, 2, 3, 4] ++ ms) (q := True) fun _ => trivial
    have a3 := ite_le (p := (3 : Int) ∈ [0, 1, 2, 3, 4] ++ ms) (q := True) fun _ => trivial
    have a4 := ite_le (p := (4 : Int) ∈ [0, 1, 2, 3, 4] ++ ms) (q := True) fun _ => trivial
    simp only [if_true] at a0 a1 a2 a3 a4
    omega
  omega
theorem grow_all {es : List (Int × Int)} (ok : EOk es) {p : Int} (hp : V5 p) : ∀ n, Closed es (growN es n [p]) ∨ n + 1 ≤ cnt (growN es n [p])
  | 0 => .inr (cnt_pos hp (by simp [growN]))
  | n + 1 => by
    rcases grow_all ok hp n with h | h
    · exact .inl (grow_closed h)
    · by_cases hc : Closed es (growN es n [p])
      · exact .inl (grow_closed hc)
      · have : ∃ e, e ∈ es ∧ e.1 ∈ growN es n [p] ∧ e.2 ∉ growN es n [p] := Classical.byContradiction fun q => hc fun e he hm => Classical.byContradiction fun r => q ⟨e, he, hm, r⟩
        obtain ⟨e, he, h1, h2⟩ := this
        have := cnt_lt (ms := growN es n [p]) (ms' := grow es (growN es n [p])) (fun x hx => mem_grow.mpr (.inl hx)) (ok e he).2 h2 (mem_grow.mpr (.inr ⟨e.1, he, h1⟩))
        exact .inr (by unfold growN; omega)
theorem growN_rch {es : List (Int × Int)} {p x : Int} : ∀ {n : Nat}, x ∈ growN es n [p] → Rch es p x
  | 0, h => by
    rw [List.mem_singleton.mp h]; exact .refl
  | n + 1, h => by
    rcases mem_grow.mp h with q | ⟨a, q, r⟩
    · exact growN_rch q
    · exact (growN_rch r).tail q
theorem growN_start {es : List (Int × Int)} {p : Int} : ∀ n, p ∈ growN es n [p]
  | 0 => by simp [growN]
  | n + 1 => mem_grow.mpr (.inl (growN_start n))
theorem allMet_iff {es : List (Int × Int)} (ok : EOk es) {p : Int} (hp : V5 p) : allMet p es = true ↔ ∀ e ∈ es, Rch es p e.1 := by
  have hcl : Closed es (growN es 4 [p]) := by
    rcases grow_all ok hp 4 with h | h
    · exact h
    · exact fun e he _ => cnt_all (by omega) (ok e he).2
  have hin : ∀ {x}, Rch es p x → x ∈ growN es 4 [p] := fun {x} hx => by
    induction hx with
    | refl => exact growN_start 4
    | tail _ hm ih => exact hcl _ hm ih
  unfold allMet
  rw [List.isEmpty_iff, List.filter_eq_nil_iff]
  constructor
  · intro h e he
    have := h e he
    rw [Bool.not_eq_true, Bool.not_eq_false', any_eq] at this
    exact growN_rch this
  · intro h e he
    rw [Bool.not_eq_true, Bool.not_eq_false', any_eq]
    exact hin (h e he)
theorem good_iff {es : List (Int × Int)} (ok : EOk es) {u b : Int} (hb : V5 b) : goodB u es b = true ↔ Cand es u b := by
  unfold goodB Cand
  rw [Bool.and_eq_true, allMet_iff (ok.erase _) hb]
  simp
theorem intR5 : intR 5 = [0, 1, 2, 3, 4] := rfl
theorem filter5 (p : Int → Bool) : (intR 5).filter p = (if p 0 then [0] else []) ++ ((if p 1 then [1] else []) ++ ((if p 2 then [2] else []) ++ ((if p 3 then [3] else []) ++ (if p 4 then [4] else [])))) := by
  rw [intR5]
  cases h0 : p 0 <;> cases h1 : p 1 <;> cases h2 : p 2 <;> cases h3 : p 3 <;> cases h4 : p 4 <;> simp [List.filter, h0, h1, h2, h3, h4]
theorem pick_least {p : Int → Bool} {b : Int} (hb : V5 b) (hp : p b = true) (hl : ∀ b', V5 b' → p b' = true → b ≤ b') : pickB 0 ((intR 5).filter p) = some b := by
  have no : ∀ x : Int, V5 x → x < b → p x = false := fun x hx hlt => Bool.eq_false_iff.mpr fun q => by have := hl x hx q; omega
  unfold pickB
  rw [if_pos rfl, filter5]
  rcases hb.cases with rfl | rfl | rfl | rfl | rfl
  · simp [hp]
  · simp [hp, no 0 (by unfold V5; decide) (by decide)]
  · simp [hp, no 0 (by unfold V5; decide) (by decide), no 1 (by unfold V5; decide) (by decide)]
  · simp [hp, no 0 (by unfold V5; decide) (by decide), no 1 (by unfold V5; decide) (by decide), no 2 (by unfold V5; decide) (by decide)]
  · simp [hp, no 0 (by unfold V5; decide) (by decide), no 1 (by unfold V5; decide) (by decide), no 2 (by unfold V5; decide) (by decide), no 3 (by unfold V5; decide) (by decide)]
theorem pick_greatest {p : Int → Bool} {b : Int} (hb : V5 b) (hp : p b = true) (hl : ∀ b', V5 b' → p b' = true → b' ≤ b) : pickB (-1) ((intR 5).filter p) = some b := by
  have no : ∀ x : Int, V5 x → b < x → p x = false := fun x hx hlt => Bool.eq_false_iff.mpr fun q => by have := hl x hx q; omega
  unfold pickB
  rw [if_neg (by decide), filter5]
  rcases hb.cases with rfl | rfl | rfl | rfl | rfl
  · simp [hp, no 1 (by unfold V5; decide) (by decide), no 2 (by unfold V5; decide) (by decide), no 3 (by unfold V5; decide) (by decide), no 4 (by unfold V5; decide) (by decide)]
  · simp [hp, no 2 (by unfold V5; decide) (by decide), no 3 (by unfold V5; decide) (by decide), no 4 (by unfold V5; decide) (by decide)]
  · simp [hp, no 3 (by unfold V5; decide) (by decide), no 4 (by unfold V5; decide) (by decide)]
  · simp [hp, no 4 (by unfold V5; decide) (by decide)]
  · simp [hp]
/-- the order of a tour: the least first, or the greatest -/
noncomputable def ord (big : Bool) (a b : Int) : Prop := if big = true then b ≤ a else a ≤ b
noncomputable def whOf (big : Bool) : Int := if big = true then -1 else 0
theorem ord_refl (big : Bool) (a : Int) : ord big a a := by unfold ord; split <;> exact Int.le_refl _
theorem ord_anti (big : Bool) (a b : Int) (h : ord big a b) (h' : ord big b a) : a = b := by unfold ord at h h'; split at h <;> simp_all <;> omega
theorem ord_least (big : Bool) : ∀ (l : List Int), l ≠ [] → ∃ v ∈ l, ∀ v' ∈ l, ord big v v'
  | [], h => absurd rfl h
  | [a], _ => ⟨a, .head _, fun v' hv' => by rw [List.mem_singleton.mp hv']; exact ord_refl big a⟩
  | a :: b :: l, _ => by
    obtain ⟨v, hv, hl⟩ := ord_least big (b :: l) (by simp)
    have tot : ord big a v ∨ ord big v a := by unfold ord; split <;> omega
    rcases tot with h | h
    · refine ⟨a, .head _, fun v' hv' => ?_⟩
      rcases List.mem_cons.mp hv' with rfl | hv'
      · exact ord_refl big _
      · have := hl v' hv'
        unfold ord at h this ⊢
        split at h <;> simp_all <;> omega
    · refine ⟨v, .tail _ hv, fun v' hv' => ?_⟩
      rcases List.mem_cons.mp hv' with rfl | hv'
      · exact h
      · exact hl v' hv'
theorem BR.best {big : Bool} {E : List (Int × Int)} {u : Int} {P : List Int} (h : BR (ord big) E u P) : EOk E → BestR (whOf big) E u P := by
  induction h with
  | nil => intro _; exact .nil _
  | @cons E u b P hc hl _ ih =>
    intro ok
    have hb := (ok _ hc.1).2
    refine .cons (fun q => by rw [q] at hc; cases hc.1) ?_ (ih (ok.erase _))
    have hp := (good_iff ok hb).mpr hc
    have hl' : ∀ b', V5 b' → goodB u E b' = true → ord big b b' := fun b' hb' hg => hl b' ((good_iff ok hb').mp hg)
    cases big with
    | false => exact pick_least hb hp fun b' h1 h2 => by simpa [ord] using hl' b' h1 h2
    | true => exact pick_greatest hb hp fun b' h1 h2 => by simpa [ord] using hl' b' h1 h2
theorem BR.facts {r : Int → Int → Prop} {E : List (Int × Int)} {u : Int} {P : List Int} (h : BR r E u P) : EOk E → P.length = E.length ∧ ∀ x ∈ P, V5 x := by
  induction h with
  | nil => intro _; exact ⟨rfl, fun x hx => nomatch hx⟩
  | @cons E u b P hc _ _ ih =>
    intro ok
    obtain ⟨h1, h2⟩ := ih (ok.erase _)
    have := List.length_erase_of_mem hc.1
    have hpos : 0 < E.length := List.length_pos_of_mem hc.1
    refine ⟨by simp only [List.length_cons]; omega, fun x hx => ?_⟩
    rcases List.mem_cons.mp hx with rfl | hx
    · exact (ok _ hc.1).2
    · exact h2 x hx
/-! the steps of a row -/
noncomputable def Zr : Int → List Int → List (Int × Int)
  | _, [] => []
  | a, b :: l => (a, b) :: Zr b l
theorem Zr_zip : ∀ (a : Int) (l : List Int), (a :: l).zip l = Zr a l
  | _, [] => rfl
  | a, b :: l => by unfold Zr; rw [← Zr_zip b l]; rfl
theorem Zr_length : ∀ (a : Int) (l : List Int), (Zr a l).length = l.length
  | _, [] => rfl
  | a, b :: l => by unfold Zr; simp [Zr_length b l]
theorem Zr_bal : ∀ (a : Int) (l : List Int), Bal (Zr a l) a ((a :: l).getLast (by simp))
  | a, [] => fun x => rfl
  | a, b :: l => fun x => by
    have := Zr_bal b l x
    rw [List.getLast_cons (by simp)]
    unfold Zr
    simp only [List.map_cons, List.count_cons, beq_iff_eq]
    have q1 : (if x = a then 1 else 0) = (if a = x then (1 : Nat) else 0) := by simp [eq_comm]
    have q2 : (if x = b then 1 else 0) = (if b = x then (1 : Nat) else 0) := by simp [eq_comm]
    omega
theorem Zr_reach : ∀ (a : Int) (l : List Int), ∀ e ∈ Zr a l, Rch (Zr a l) a e.1
  | a, b :: l, e, he => by
    unfold Zr at he ⊢
    rcases List.mem_cons.mp he with rfl | he
    · exact .refl
    · exact Rch.head (.head _) (Rch.mono (fun e he => .tail _ he) (Zr_reach b l e he))
theorem Zr_ok : ∀ (a : Int) (l : List Int), V5 a → (∀ x ∈ l, V5 x) → EOk (Zr a l)
  | a, [], _, _ => fun e he => nomatch he
  | a, b :: l, ha, hl => fun e he => by
    unfold Zr at he
    rcases List.mem_cons.mp he with rfl | he
    · exact ⟨ha, hl b (.head _)⟩
    · exact Zr_ok b l (hl b (.head _)) (fun x hx => hl x (.tail _ hx)) e he
theorem Bal.source {E : List (Int × Int)} {u : Int} (h : Bal E u u) {e : Int × Int} (he : e ∈ E) : ∃ e' ∈ E, e'.1 = e.2 := by
  have := h e.2
  have hp : 0 < (E.map (·.2)).count e.2 := List.count_pos_iff.mpr (List.mem_map_of_mem he)
  have hq : 0 < (E.map (·.1)).count e.2 := by omega
  obtain ⟨e', he', q⟩ := List.mem_map.mp (List.count_pos_iff.mp hq)
  exact ⟨e', he', q⟩
end

section
set_option linter.unusedVariables false
open PySem
/-! heaps -/
inductive Desc (sp : Nat) : Nat → Prop
  | refl : Desc sp sp
  | down {p q : Nat} : Desc sp p → 0 < q → (q - 1) / 2 = p → Desc sp q
theorem Desc.le {sp p : Nat} (h : Desc sp p) : sp ≤ p := by
  induction h with
  | refl => exact Nat.le_refl _
  | down _ _ _ ih => omega
theorem Desc.par {sp p : Nat} (h : Desc sp p) (hlt : sp < p) : Desc sp ((p - 1) / 2) ∧ sp ≤ (p - 1) / 2 := by
  cases h with
  | refl => omega
  | down h1 h2 h3 => rw [h3]; exact ⟨h1, h1.le⟩
section
variable (lt : Value → Value → Bool) (key : Value → Int) (S : Value → Prop)
noncomputable def gk (vs : List Value) (i : Nat) : Int := key (vs.getD i .none)
noncomputable def HpFrom (sp : Nat) (vs : List Value) : Prop := ∀ i, 0 < i → i < vs.length → sp ≤ (i - 1) / 2 → gk key vs ((i - 1) / 2) ≤ gk key vs i
variable {lt key S}
theorem getD_set {vs : List Value} {p i : Nat} {v : Value} (h : p < vs.length) : (vs.set p v).getD i .none = if i = p then v else vs.getD i .none := by
  rw [List.getD_eq_getElem?_getD, List.getD_eq_getElem?_getD]
  by_cases hi : i = p
  · subst hi
    rw [if_pos rfl, List.getElem?_set_self h]; rfl
  · rw [if_neg hi, List.getElem?_set_ne (Ne.symm hi)]
theorem gk_set {vs : List Value} {p i : Nat} {v : Value} (h : p < vs.length) : gk key (vs.set p v) i = if i = p then key v else gk key vs i := by
  unfold gk
  rw [getD_set h]
  split <;> rfl
theorem S_getD {vs : List Value} (h : ∀ v ∈ vs, S v) {i : Nat} (hi : i < vs.length) : S (vs.getD i .none) := by
  rw [List.getD_eq_getElem?_getD, List.getElem?_eq_getElem hi]; exact h _ (List.getElem_mem hi)
theorem S_set {vs : List Value} (h : ∀ v ∈ vs, S v) {p : Nat} {x : Value} (hx : S x) : ∀ v ∈ vs.set p x, S v := fun v hv => by
  rcases List.mem_or_eq_of_mem_set hv with q | q
  · exact h v q
  · exact q ▸ hx
theorem set_swap {vs : List Value} {p k : Nat} {x : Value} (hp : p < vs.length) (hk : k < vs.length) (hne : p ≠ k) : ((vs.set p (vs.getD k .none)).set k x).Perm (vs.set p x) := by
  have h1 : p < (vs.set p x).length := by simpa using hp
  have h2 : k < (vs.set p x).length := by simpa using hk
  have := List.set_set_perm (as := vs.set p x) h1 h2
  have e1 : (vs.set p x)[k] = vs.getD k .none := by
    rw [List.getElem_set_ne hne, List.getD_eq_getElem?_getD, List.getElem?_eq_getElem hk]; rfl
  have e2 : (vs.set p x)[p] = x := List.getElem_set_self _
  rw [e1, e2, List.set_set] at this
  exact this
theorem sdn_perm {x : Value} {sp : Nat} : ∀ (f p : Nat) (vs : List Value), p < vs.length → (sdn lt x sp f vs p).Perm (vs.set p x)
  | 0, p, vs, _ => List.Perm.refl _
  | f + 1, p, vs, hp => by
    unfold sdn
    split
    · split
      · refine (sdn_perm f _ _ (by simp; omega)).trans ?_
        exact set_swap hp (by omega) (by omega)
      · exact List.Perm.refl _
    · exact List.Perm.refl _
theorem supN_perm {x : Value} {sp : Nat} : ∀ (f p : Nat) (vs : List Value), p < vs.length → (supN lt x sp f vs p).Perm (vs.set p x)
  | 0, p, vs, hp => by
    unfold supN
    refine (sdn_perm _ _ _ (by simpa using hp)).trans ?_
    rw [List.set_set]
  | f + 1, p, vs, hp => by
    unfold supN
    split
    · rename_i hc
      have hk := kid_lt lt hc
      refine (supN_perm f _ _ (by simpa using hk.1)).trans ?_
      exact set_swap hp hk.1 (by omega)
    · refine (sdn_perm _ _ _ (by simpa using hp)).trans ?_
      rw [List.set_set]
variable (hk : ∀ a b, S a → S b → lt a b = decide (key a < key b))
include hk
theorem sdn_heap {x : Value} {sp : Nat} (hx : S x) : ∀ (f p : Nat) (vs : List Value), p ≤ f → p < vs.length → Desc sp p → (∀ v ∈ vs, S v) →
    (∀ i, 0 < i → i < vs.length → sp ≤ (i - 1) / 2 → i ≠ p → (if (i - 1) / 2 = p then key x else gk key vs ((i - 1) / 2)) ≤ gk key vs i) →
    (sp < p → ∀ i, 0 < i → i < vs.length → (i - 1) / 2 = p → gk key vs ((p - 1) / 2) ≤ gk key vs i) →
    HpFrom key sp (sdn lt x sp f vs p) := by
  have stop : ∀ (p : Nat) (vs : List Value), p < vs.length → (sp < p → ¬ key x < gk key vs ((p - 1) / 2)) → Desc sp p →
      (∀ i, 0 < i → i < vs.length → sp ≤ (i - 1) / 2 → i ≠ p → (if (i - 1) / 2 = p then key x else gk key vs ((i - 1) / 2)) ≤ gk key vs i) → HpFrom key sp (vs.set p x) := by
    intro p vs hp hs hd hA i h0 hi hsp
    rw [List.length_set] at hi
    rw [gk_set hp, gk_set hp]
    by_cases hip : i = p
    · subst hip
      rw [if_neg (by omega), if_pos rfl]
      have := hs (by have := hd.le; omega)
      omega
    · have := hA i h0 hi hsp hip
      rw [if_neg hip]
      exact this
  intro f
  induction f with
  | zero =>
    intro p vs hf hp hd hS hA hB
    obtain rfl : p = 0 := by omega
    exact stop 0 vs hp (fun h => by omega) hd hA
  | succ f ih =>
    intro p vs hf hp hd hS hA hB
    unfold sdn
    split
    · rename_i hlt
      have hdp := hd.par hlt
      have hlk : lt x (vs.getD ((p - 1) / 2) .none) = decide (key x < gk key vs ((p - 1) / 2)) := hk _ _ hx (S_getD hS (by omega))
      split
      · rename_i hl
        rw [hlk, decide_eq_true_eq] at hl
        refine ih _ _ (by omega) (by simp; omega) hdp.1 (S_set hS (S_getD hS (by omega))) ?_ ?_
        · intro i h0 hi hsp hne
          rw [List.length_set] at hi
          rw [gk_set hp, gk_set hp]
          have hge : key (vs.getD ((p - 1) / 2) .none) = gk key vs ((p - 1) / 2) := rfl
          rw [hge]
          by_cases h1 : (i - 1) / 2 = (p - 1) / 2
          · rw [if_pos h1]
            by_cases h2 : i = p
            · rw [if_pos h2]; omega
            · rw [if_neg h2]
              have := hA i h0 hi hsp h2
              rw [if_neg (by omega), h1] at this
              omega
          · rw [if_neg h1]
            have h2 : i ≠ p := fun q => h1 (by rw [q])
            rw [if_neg h2]
            by_cases h3 : (i - 1) / 2 = p
            · rw [if_pos h3]
              exact hB hlt i h0 hi h3
            · rw [if_neg h3]
              have := hA i h0 hi hsp h2
              rw [if_neg h3] at this
              exact this
        · intro hlt2 i h0 hi hpi
          rw [List.length_set] at hi
          rw [gk_set hp, gk_set hp]
          have hge : key (vs.getD ((p - 1) / 2) .none) = gk key vs ((p - 1) / 2) := rfl
          rw [hge, if_neg (by omega)]
          have hq := hA ((p - 1) / 2) (by omega) (by omega) (hdp.1.par hlt2).2 (by omega)
          rw [if_neg (by omega)] at hq
          by_cases h2 : i = p
          · rw [if_pos h2]; exact hq
          · rw [if_neg h2]
            have := hA i h0 hi (by have := hdp.2; omega) h2
            rw [if_neg (by omega), hpi] at this
            omega
      · rename_i hl
        rw [hlk, decide_eq_true_eq] at hl
        exact stop p vs hp (fun _ => hl) hd hA
    · rename_i hlt
      exact stop p vs hp (fun h => absurd h hlt) hd hA
theorem kid_min {vs : List Value} {p : Nat} (h : 2 * p + 1 < vs.length) (hS : ∀ v ∈ vs, S v) : ∀ i, 0 < i → i < vs.length → (i - 1) / 2 = p → gk key vs (kid lt vs p) ≤ gk key vs i := by
  intro i h0 hi hp
  have hc : i = 2 * p + 1 ∨ i = 2 * p + 2 := by omega
  unfold kid
  by_cases h2 : 2 * p + 2 < vs.length
  · have e : lt (vs.getD (2 * p + 1) .none) (vs.getD (2 * p + 2) .none) = decide (gk key vs (2 * p + 1) < gk key vs (2 * p + 2)) := hk _ _ (S_getD hS h) (S_getD hS h2)
    rw [e]
    split
    · rename_i q
      have := of_decide_eq_false q.2
      rcases hc with rfl | rfl <;> omega
    · rename_i q
      have : gk key vs (2 * p + 1) < gk key vs (2 * p + 2) := Classical.byContradiction fun r => q ⟨h2, decide_eq_false r⟩
      rcases hc with rfl | rfl <;> omega
  · rw [if_neg (fun q => h2 q.1)]
    rcases hc with rfl | rfl
    · exact Int.le_refl _
    · omega
omit hk in
theorem kid_par {vs : List Value} {p : Nat} : 0 < kid lt vs p ∧ (kid lt vs p - 1) / 2 = p := by
  unfold kid; split <;> omega
theorem supN_heap {x : Value} {sp : Nat} (hx : S x) : ∀ (f p : Nat) (vs : List Value), vs.length - p ≤ f → p < vs.length → Desc sp p → (∀ v ∈ vs, S v) →
    (∀ i, 0 < i → i < vs.length → sp ≤ (i - 1) / 2 → (i - 1) / 2 ≠ p → i ≠ p → gk key vs ((i - 1) / 2) ≤ gk key vs i) →
    (sp < p → ∀ i, 0 < i → i < vs.length → (i - 1) / 2 = p → gk key vs ((p - 1) / 2) ≤ gk key vs i) →
    HpFrom key sp (supN lt x sp f vs p) := by
  have leaf : ∀ (p : Nat) (vs : List Value), ¬ 2 * p + 1 < vs.length → p < vs.length → Desc sp p → (∀ v ∈ vs, S v) →
      (∀ i, 0 < i → i < vs.length → sp ≤ (i - 1) / 2 → (i - 1) / 2 ≠ p → i ≠ p → gk key vs ((i - 1) / 2) ≤ gk key vs i) → HpFrom key sp (sdn lt x sp p (vs.set p x) p) := by
    intro p vs hl hp hd hS hC
    refine sdn_heap hk hx p p _ (Nat.le_refl _) (by simpa using hp) hd (S_set hS hx) ?_ ?_
    · intro i h0 hi hsp hne
      rw [List.length_set] at hi
      rw [gk_set hp, gk_set hp, if_neg hne]
      have h3 : (i - 1) / 2 ≠ p := by omega
      rw [if_neg h3, if_neg h3]
      exact hC i h0 hi hsp h3 hne
    · intro _ i h0 hi hpi
      rw [List.length_set] at hi
      omega
  intro f
  induction f with
  | zero => intro p vs hf hp; omega
  | succ f ih =>
    intro p vs hf hp hd hS hC hC2
    unfold supN
    split
    · rename_i hc
      have hkl := kid_lt lt hc
      have hkp := kid_par (lt := lt) (vs := vs) (p := p)
      have hmin := kid_min hk hc hS
      have hge : key (vs.getD (kid lt vs p) .none) = gk key vs (kid lt vs p) := rfl
      generalize hkd : kid lt vs p = c at *
      refine ih _ _ (by simp; omega) (by simpa using hkl.1) (hd.down hkp.1 hkp.2) (S_set hS (S_getD hS hkl.1)) ?_ ?_
      · intro i h0 hi hsp h1 h2
        rw [List.length_set] at hi
        rw [gk_set hp, gk_set hp, hge]
        by_cases h3 : i = p
        · rw [if_pos h3, if_neg (by omega)]
          rw [h3]
          exact hC2 (by have := hd.le; omega) c hkp.1 hkl.1 hkp.2
        · rw [if_neg h3]
          by_cases h4 : (i - 1) / 2 = p
          · rw [if_pos h4]
            exact hmin i h0 hi h4
          · rw [if_neg h4]
            exact hC i h0 hi hsp h4 h3
      · intro _ i h0 hi hpi
        rw [List.length_set] at hi
        rw [gk_set hp, gk_set hp, hge, if_pos hkp.2, if_neg (by omega)]
        have := hC i h0 hi (by have := hd.le; omega) (by omega) (by omega)
        rw [hpi] at this
        exact this
    · rename_i hc
      exact leaf p vs hc hp hd hS hC
omit hk in
theorem siftup_perm {vs : List Value} {p : Nat} (hp : p < vs.length) : (siftup lt vs p).Perm vs := by
  unfold siftup
  refine (supN_perm _ _ _ hp).trans ?_
  have e : vs.getD p .none = vs[p] := by rw [List.getD_eq_getElem?_getD, List.getElem?_eq_getElem hp]; rfl
  rw [e, List.set_getElem_self]
theorem siftup_heap {vs : List Value} {p : Nat} (hp : p < vs.length) (hS : ∀ v ∈ vs, S v) (h : HpFrom key (p + 1) vs) : HpFrom key p (siftup lt vs p) := by
  unfold siftup
  exact supN_heap hk (S_getD hS hp) _ _ _ (Nat.le_refl _) hp .refl hS (fun i h0 hi hsp h1 h2 => h i h0 hi (by omega)) (fun h => absurd h (Nat.lt_irrefl _))
theorem heapify_heap : ∀ (k : Nat) (vs : List Value), k ≤ vs.length → (∀ v ∈ vs, S v) → HpFrom key k vs → HpFrom key 0 (heapifyV lt k vs) ∧ (heapifyV lt k vs).Perm vs
  | 0, vs, _, _, h => ⟨h, List.Perm.refl _⟩
  | k + 1, vs, hl, hS, h => by
    have p1 := siftup_perm (lt := lt) (vs := vs) (p := k) (by omega)
    have h1 := siftup_heap hk (vs := vs) (p := k) (by omega) hS h
    obtain ⟨a, b⟩ := heapify_heap k (siftup lt vs k) (by rw [p1.length_eq]; omega) (fun v hv => hS v (p1.mem_iff.mp hv)) h1
    exact ⟨a, b.trans p1⟩
theorem heapify_ok {vs : List Value} (hS : ∀ v ∈ vs, S v) : HpFrom key 0 (heapifyV lt (vs.length / 2) vs) ∧ (heapifyV lt (vs.length / 2) vs).Perm vs :=
  heapify_heap hk _ _ (by omega) hS fun i h0 hi hsp => by omega
omit hk in
theorem heap_min {vs : List Value} (h : HpFrom key 0 vs) : ∀ i, i < vs.length → gk key vs 0 ≤ gk key vs i := by
  intro i
  induction i using Nat.strongRecOn with
  | _ i ih =>
    intro hi
    by_cases h0 : i = 0
    · subst h0; exact Int.le_refl _
    · have h1 := h i (by omega) hi (by omega)
      have h2 := ih ((i - 1) / 2) (by omega) (by omega)
      omega
theorem hpop {vs : List Value} {y : Value} (hS : ∀ v ∈ vs ++ [y], S v) (h : HpFrom key 0 (vs ++ [y])) : HpFrom key 0 (hrest lt vs y) ∧ (htop vs y :: hrest lt vs y).Perm (vs ++ [y]) ∧ ∀ u ∈ vs ++ [y], key (htop vs y) ≤ key u := by
  have hmin : ∀ u ∈ vs ++ [y], gk key (vs ++ [y]) 0 ≤ key u := fun u hu => by
    obtain ⟨i, hi, rfl⟩ := List.getElem_of_mem hu
    have := heap_min h i hi
    have e : gk key (vs ++ [y]) i = key (vs ++ [y])[i] := by unfold gk; rw [List.getD_eq_getElem?_getD, List.getElem?_eq_getElem hi]; rfl
    rwa [e] at this
  cases vs with
  | nil => exact ⟨fun i _ hi _ => absurd hi (Nat.not_lt_zero _), List.Perm.refl _, hmin⟩
  | cons v r =>
    have e : (v :: r).set 0 y = y :: r := rfl
    have hS' : ∀ u ∈ y :: r, S u := fun u hu => hS u (by
      rcases List.mem_cons.mp hu with rfl | hu
      · simp
      · simp [hu])
    have h1 : HpFrom key 1 (y :: r) := fun i h0 hi hsp => by
      have := h i h0 (by simp at hi ⊢; omega) (by omega)
      unfold gk at this ⊢
      have e2 : ∀ j, 0 < j → j < (y :: r).length → ((v :: r) ++ [y]).getD j .none = (y :: r).getD j .none := fun j hj hjl => by
        obtain ⟨j, rfl⟩ : ∃ k, j = k + 1 := ⟨j - 1, by omega⟩
        rw [List.getD_eq_getElem?_getD, List.getD_eq_getElem?_getD, List.getElem?_append_left (by simpa using hjl)]
        rfl
      rwa [e2 _ (by omega) (by omega), e2 i h0 hi] at this
    show HpFrom key 0 (siftup lt (y :: r) 0) ∧ (v :: siftup lt (y :: r) 0).Perm (v :: r ++ [y]) ∧ ∀ u ∈ v :: r ++ [y], key v ≤ key u
    refine ⟨siftup_heap hk (by simp) hS' h1, ?_, hmin⟩
    have p1 := siftup_perm (lt := lt) (vs := y :: r) (p := 0) (by simp)
    refine (p1.cons v).trans ?_
    rw [List.cons_append]
    refine List.Perm.cons v ?_
    exact (List.perm_append_singleton y r).symm
end
end

section
set_option maxRecDepth 100000
set_option linter.unusedVariables false
open PySem PySem.W
/-! the heaps of a tour -/
noncomputable def SP (v : Value) : Prop := ∃ a t, V5 a ∧ v = .str (pgI a) t
noncomputable def idxS (x : Str) : Int := if x = pg 0 then 0 else if x = pg 1 then 1 else if x = pg 2 then 2 else if x = pg 3 then 3 else 4
noncomputable def idxV (v : Value) : Int := idxS (unS v)
theorem idxS_pg : ∀ a : Fin 5, idxS (pg a) = (a.val : Int) := by decide +kernel
theorem idxS_pgI {a : Int} (h : V5 a) : idxS (pgI a) = a := by
  obtain ⟨k, e, e'⟩ := pgI_fin h
  rw [e, idxS_pg, e']
theorem idxV_str {a : Int} {t : Tok} (h : V5 a) : idxV (.str (pgI a) t) = a := idxS_pgI h
theorem SP.eq {v : Value} (h : SP v) : V5 (idxV v) ∧ ∃ t, v = .str (pgI (idxV v)) t := by
  obtain ⟨a, t, ha, rfl⟩ := h
  rw [idxV_str ha]
  exact ⟨ha, t, rfl⟩
theorem pgI_inj {a b : Int} (ha : V5 a) (hb : V5 b) (h : pgI a = pgI b) : a = b := by rw [← idxS_pgI ha, h, idxS_pgI hb]
noncomputable def keyV (big : Bool) (v : Value) : Int := if big = true then -(idxV v) else idxV v
noncomputable def ltV (big : Bool) : Value → Value → Bool := if big = true then vgt else vlt
theorem vlt_pg {a b : Int} {t t' : Tok} (ha : V5 a) (hb : V5 b) : vlt (.str (pgI a) t) (.str (pgI b) t') = decide (a < b) := by
  obtain ⟨k, e, e'⟩ := pgI_fin ha
  obtain ⟨l, f, f'⟩ := pgI_fin hb
  rw [e, f, ← e', ← f']
  show decide ((pg k).cps.toList < (pg l).cps.toList) = _
  rw [pg_lt k l]
  rw [Bool.eq_iff_iff, decide_eq_true_eq, decide_eq_true_eq]
  omega
theorem ltV_key (big : Bool) (a b : Value) (ha : SP a) (hb : SP b) : ltV big a b = decide (keyV big a < keyV big b) := by
  obtain ⟨x, t, hx, rfl⟩ := ha
  obtain ⟨y, t', hy, rfl⟩ := hb
  unfold ltV keyV
  rw [idxV_str hx, idxV_str hy]
  cases big with
  | false =>
    show vlt (.str (pgI x) t) (.str (pgI y) t') = decide (x < y)
    exact vlt_pg hx hy
  | true =>
    show vlt (.str (pgI y) t') (.str (pgI x) t) = decide (-x < -y)
    rw [vlt_pg hy hx, Bool.eq_iff_iff, decide_eq_true_eq, decide_eq_true_eq]
    omega
theorem SP.isStrs {vs : List Value} (h : ∀ v ∈ vs, SP v) : IsStrs vs := fun v hv => by obtain ⟨a, t, _, e⟩ := h v hv; exact ⟨_, _, e⟩
theorem SL.pages {ns : List Int} {vs : List Value} (h : SL (ns.map pgI) vs) (hn : ∀ a ∈ ns, V5 a) : vs.map idxV = ns ∧ ∀ v ∈ vs, SP v := by
  have e : vs.map idxV = ns := by
    have : vs.map idxV = (vs.map unS).map idxS := by rw [List.map_map]; rfl
    rw [this, h.eqS, List.map_map]
    calc ns.map (idxS ∘ pgI) = ns.map id := List.map_congr_left fun a ha => idxS_pgI (hn a ha)
      _ = ns := List.map_id ns
  refine ⟨e, fun v hv => ?_⟩
  obtain ⟨x, t, rfl⟩ := h.isS v hv
  have : x ∈ vs.map unS := List.mem_map.mpr ⟨_, hv, rfl⟩
  rw [h.eqS] at this
  obtain ⟨a, ha, rfl⟩ := List.mem_map.mp this
  exact ⟨a, t, hn a ha, rfl⟩
structure HE where
  p : Int
  a : Addr
  us : List Value
  c : Nat
noncomputable def HE.kv (e : HE) : Str × Value := (pgI e.p, .ref e.a)
noncomputable def HE.ob (e : HE) : Addr × Obj := (e.a, listOf e.us.toArray e.c)
noncomputable def outs (E : List (Int × Int)) (p : Int) : List Int := (E.filter fun e => e.1 == p).map (·.2)
theorem mem_outs {E : List (Int × Int)} {p v : Int} : v ∈ outs E p ↔ (p, v) ∈ E := by
  unfold outs
  rw [List.mem_map]
  constructor
  · rintro ⟨e, he, rfl⟩
    have := List.mem_filter.mp he
    rw [beq_iff_eq] at this
    rw [← this.2]; exact this.1
  · exact fun h => ⟨(p, v), List.mem_filter.mpr ⟨h, by simp⟩, rfl⟩
theorem outs_perm {E E' : List (Int × Int)} (h : E.Perm E') (p : Int) : (outs E p).Perm (outs E' p) := (h.filter _).map _
theorem outs_erase {E : List (Int × Int)} {u v : Int} (hm : (u, v) ∈ E) : (outs E u).Perm (v :: outs (E.erase (u, v)) u) := by
  have := outs_perm (List.perm_cons_erase hm) u
  have e : outs ((u, v) :: E.erase (u, v)) u = v :: outs (E.erase (u, v)) u := by unfold outs; simp [List.filter_cons]
  rwa [e] at this
theorem outs_erase_ne {E : List (Int × Int)} {u v p : Int} (hm : (u, v) ∈ E) (hp : p ≠ u) : (outs E p).Perm (outs (E.erase (u, v)) p) := by
  have := outs_perm (List.perm_cons_erase hm) p
  have e : outs ((u, v) :: E.erase (u, v)) p = outs (E.erase (u, v)) p := by
    unfold outs
    rw [List.filter_cons]
    have : ((u, v).1 == p) = false := by simpa using Ne.symm hp
    rw [this]; rfl
  rwa [e] at this
structure EOne (big : Bool) (E : List (Int × Int)) (e : HE) : Prop where
  v5 : V5 e.p
  sp : ∀ v ∈ e.us, SP v
  hp : HpFrom (keyV big) 0 e.us
  pm : (e.us.map idxV).Perm (outs E e.p)
  ln : e.us.length ≤ 60
structure HInv (big : Bool) (E : List (Int × Int)) (H : List HE) : Prop where
  np : (H.map HE.p).Nodup
  na : (H.map HE.a).Nodup
  one : ∀ e ∈ H, EOne big E e
theorem nodup_mid {α β : Type} {f : α → β} {A B : List α} {e : α} (h : ((A ++ e :: B).map f).Nodup) : ∀ x ∈ A ++ B, f x ≠ f e := by
  rw [List.map_append, List.map_cons] at h
  intro x hx q
  have h' := (List.nodup_append.mp h)
  rcases List.mem_append.mp hx with hx | hx
  · exact h'.2.2 (f x) (List.mem_map_of_mem hx) (f e) (.head _) q
  · have := (List.nodup_cons.mp h'.2.1).1
    exact this (q ▸ List.mem_map_of_mem hx)
/-- where nothing goes on -/
theorem HInv.stuck {big : Bool} {E : List (Int × Int)} {H : List HE} {e : HE} {ts out ans : List Int} (h : HInv big E H) (he : e ∈ H) (hn : e.us = []) (hF : FR (ord big) (e.p :: ts) E out ans) : FR (ord big) ts E (e.p :: out) ans :=
  hF.pop fun v hv => by
    have := (h.one e he).pm
    rw [hn] at this
    have := List.nil_perm.mp this
    have h2 := mem_outs.mpr hv
    rw [this] at h2
    cases h2
/-- the least goal is taken -/
theorem HInv.take {big : Bool} {E : List (Int × Int)} {A B : List HE} {e : HE} {vs : List Value} {y : Value} {c : Nat} {ts out ans : List Int} (h : HInv big E (A ++ e :: B)) (hn : e.us = vs ++ [y]) (hF : FR (ord big) (e.p :: ts) E out ans) :
    ∃ v t, htop vs y = .str (pgI v) t ∧ V5 v ∧ (e.p, v) ∈ E ∧ HInv big (E.erase (e.p, v)) (A ++ ⟨e.p, e.a, hrest (ltV big) vs y, c⟩ :: B) ∧ FR (ord big) (v :: e.p :: ts) (E.erase (e.p, v)) out ans := by
  have ho := h.one e (List.mem_append_right _ (.head _))
  have hsp : ∀ v ∈ vs ++ [y], SP v := hn ▸ ho.sp
  obtain ⟨q1, q2, q3⟩ := hpop (ltV_key big) hsp (hn ▸ ho.hp)
  have htm : htop vs y ∈ vs ++ [y] := q2.mem_iff.mp (.head _)
  obtain ⟨v5, t, et⟩ := (hsp _ htm).eq
  have pm : ((vs ++ [y]).map idxV).Perm (outs E e.p) := hn ▸ ho.pm
  have hE : (e.p, idxV (htop vs y)) ∈ E := mem_outs.mp (pm.mem_iff.mp (List.mem_map_of_mem htm))
  have hle : ∀ v', (e.p, v') ∈ E → ord big (idxV (htop vs y)) v' := fun v' hv' => by
    obtain ⟨u, hu, rfl⟩ := List.mem_map.mp (pm.mem_iff.mpr (mem_outs.mpr hv'))
    have := q3 u hu
    unfold keyV at this
    unfold ord
    cases hb : big
    · rw [hb] at this
      simp only [Bool.false_eq_true, if_false] at this ⊢
      exact this
    · rw [hb] at this
      simp only [if_true] at this ⊢
      omega
  have keys : (A ++ ⟨e.p, e.a, hrest (ltV big) vs y, c⟩ :: B).map HE.p = (A ++ e :: B).map HE.p := by rw [List.map_append, List.map_append]; rfl
  have adrs : (A ++ ⟨e.p, e.a, hrest (ltV big) vs y, c⟩ :: B).map HE.a = (A ++ e :: B).map HE.a := by rw [List.map_append, List.map_append]; rfl
  have lenq : (hrest (ltV big) vs y).length ≤ 60 := by
    have := q2.length_eq
    have h1 := ho.ln
    rw [hn] at h1
    simp at this h1
    omega
  refine ⟨idxV (htop vs y), t, et, v5, hE, ⟨keys ▸ h.np, adrs ▸ h.na, fun x hx => ?_⟩, hF.push (ord_anti big) hE hle⟩
  rcases List.mem_append.mp hx with hx | hx
  · have hne := nodup_mid h.np x (List.mem_append_left _ hx)
    have z := h.one x (List.mem_append_left _ hx)
    exact ⟨z.v5, z.sp, z.hp, z.pm.trans (outs_erase_ne hE hne), z.ln⟩
  · rcases List.mem_cons.mp hx with rfl | hx
    · refine ⟨ho.v5, fun u hu => hsp u (q2.mem_iff.mp (.tail _ hu)), q1, ?_, lenq⟩
      have p1 := (q2.map idxV).trans (pm.trans (outs_erase hE))
      rw [List.map_cons] at p1
      exact (List.perm_cons _).mp p1
    · have hne := nodup_mid h.np x (List.mem_append_right _ hx)
      have z := h.one x (List.mem_append_right _ (.tail _ hx))
      exact ⟨z.v5, z.sp, z.hp, z.pm.trans (outs_erase_ne hE hne), z.ln⟩
/-- a new heap -/
theorem HInv.snoc {big : Bool} {E : List (Int × Int)} {H : List HE} {p : Int} {a : Addr} {us : List Value} {c : Nat} (h : HInv big E H) (hp : V5 p) (hnew : ∀ e ∈ H, e.p ≠ p) (hna : ∀ e ∈ H, e.a ≠ a) (hs : SL ((outs E p).map pgI) us) (hV : EOk E) (hl : us.length ≤ 60) :
    HInv big E (H ++ [⟨p, a, heapifyV (ltV big) (us.length / 2) us, c⟩]) := by
  have hv : ∀ x ∈ outs E p, V5 x := fun x hx => (hV _ (mem_outs.mp hx)).2
  obtain ⟨e1, e2⟩ := hs.pages hv
  obtain ⟨q1, q2⟩ := heapify_ok (ltV_key big) e2
  refine ⟨?_, ?_, fun x hx => ?_⟩
  · rw [List.map_append, List.map_singleton]
    refine List.nodup_append.mpr ⟨h.np, (by simp), fun x hx y hy q => ?_⟩
    obtain ⟨e, he, rfl⟩ := List.mem_map.mp hx
    exact hnew e he (q.trans (List.mem_singleton.mp hy))
  · rw [List.map_append, List.map_singleton]
    refine List.nodup_append.mpr ⟨h.na, (by simp), fun x hx y hy q => ?_⟩
    obtain ⟨e, he, rfl⟩ := List.mem_map.mp hx
    exact hna e he (q.trans (List.mem_singleton.mp hy))
  · rcases List.mem_append.mp hx with hx | hx
    · exact h.one x hx
    · rw [List.mem_singleton.mp hx]
      exact ⟨hp, fun u hu => e2 u (q2.mem_iff.mp hu), q1, (q2.map idxV).trans (by rw [e1]), by rw [q2.length_eq]; exact hl⟩
theorem valueAt_none {H : List HE} {u : Int} (hu : V5 u) (hv : ∀ e ∈ H, V5 e.p) (h : ∀ e ∈ H, e.p ≠ u) : valueAt (H.map HE.kv) (pgI u) = none := by
  unfold valueAt
  have : (H.map HE.kv).find? (fun kv => decide (kv.1 = pgI u)) = none := by
    rw [List.find?_eq_none]
    rintro kv hkv
    obtain ⟨e, he, rfl⟩ := List.mem_map.mp hkv
    simp only [decide_eq_true_eq]
    exact fun q => h e he (pgI_inj (hv e he) hu q)
  rw [this]; rfl
theorem valueAt_some {H : List HE} (hv : ∀ e ∈ H, V5 e.p) (hn : (H.map HE.p).Nodup) : ∀ e ∈ H, valueAt (H.map HE.kv) (pgI e.p) = some (.ref e.a) := by
  intro e he
  unfold valueAt
  induction H with
  | nil => cases he
  | cons x H ih =>
    rw [List.map_cons, List.find?_cons]
    rw [List.map_cons, List.nodup_cons] at hn
    rcases List.mem_cons.mp he with rfl | he
    · simp [HE.kv]
    · have hne : (decide ((HE.kv x).1 = pgI e.p)) = false := by
        simp only [decide_eq_false_iff_not]
        intro q
        have := pgI_inj (hv x (.head _)) (hv e (.tail _ he)) q
        exact hn.1 (this ▸ List.mem_map_of_mem he)
      rw [hne]
      exact ih (fun e he => hv e (.tail _ he)) hn.2 he
theorem stored_new {H : List HE} {u : Int} {v : Value} (hu : V5 u) (hv : ∀ e ∈ H, V5 e.p) (h : ∀ e ∈ H, e.p ≠ u) : stored (H.map HE.kv) (pgI u) v = H.map HE.kv ++ [(pgI u, v)] := by
  unfold stored
  rw [if_neg]
  rw [List.any_eq_true]
  rintro ⟨kv, hkv, q⟩
  obtain ⟨e, he, rfl⟩ := List.mem_map.mp hkv
  simp only [decide_eq_true_eq] at q
  exact h e he (pgI_inj (hv e he) hu q)
end

section
set_option maxRecDepth 100000
set_option maxHeartbeats 4000000
open PySem PySem.W PyProof.Rows PySem.Calls
/-- the ways of a page, with their goals -/
inductive WR (a : Int) : List Int → List Str → Prop
  | nil : WR a [] []
  | cons {b : Int} {y : Str} {bs : List Int} {ys : List Str} : WayOk (pgI a) (pgI b) y → WR a bs ys → WR a (b :: bs) (y :: ys)
theorem WR.length {a : Int} {bs : List Int} {ys : List Str} (h : WR a bs ys) : ys.length = bs.length := by
  induction h with
  | nil => rfl
  | cons _ _ ih => simp [ih]
theorem WR.get {a : Int} : ∀ {bs : List Int} {ys : List Str} {k : Nat}, WR a bs ys → k < bs.length → WayOk (pgI a) (pgI (bs.getD k 0)) (ys.getD k ⟨#[]⟩)
  | _, _, 0, .cons h _, _ => h
  | _, _, k + 1, .cons _ r, hk => WR.get (k := k) r (by simpa using hk)
theorem ways_rel {a : Int} (ha : V5 a) : ∀ {es : List (Int × Int)} {ss : List Int}, EOk es → ss.length = es.length → WR a (outs es a) (((List.zipWith rowOf es ss).filter fun q => Txt.lower q.1 == pgI a).map (·.2))
  | [], _, _, _ => .nil
  | e :: es, [], _, h => by cases h
  | e :: es, s :: ss, ok, h => by
    have ih := ways_rel ha (es := es) (ss := ss) (fun x hx => ok x (.tail _ hx)) (by simpa using h)
    have he := ok e (.head _)
    have R := row_ok (s := s) he.1 he.2
    unfold outs at ih ⊢
    rw [List.zipWith_cons_cons, List.filter_cons, List.filter_cons, R.2.2.1]
    by_cases hea : e.1 = a
    · rw [if_pos (by simpa using hea), if_pos (by rw [hea]; simp)]
      exact .cons (hea ▸ R.2.2.2) ih
    · rw [if_neg (by simpa using hea), if_neg (by
        rw [beq_iff_eq]; exact fun q => hea (pgI_inj he.1 ha q))]
      exact ih
/-- [normpath(join(page, way)) for way in ..]: a turn -/
theorem tour_turn {w : World} {mg mb : Str → Option Value} {A : Around} {g h : Heap} {gs : Array GenState} {d : Drawn} {tk : Nat} {os : OsState} {it : Addr} {m : Str → Option Value} {news : List (Addr × Obj)} {env : Env}
    {p1 p2 p3 p4 p5 p6 p7 : Pos} {c : Addr} {co : Obj} {pg y gl : Str} {tp t0 : Tok} {P : (Str → Option Value) → List (Addr × Obj) → Prop} {P2 : Value → (Str → Option Value) → List (Addr × Obj) → Prop}
    (V : FnEnv env) (F : Fr g env.locals h m) (N : News g env.locals h news) (hh : A.handled = none) (hA : A.depth + 200 < recursionLimit)
    (kw : env.kindOf "way" = some .local) (kp : env.kindOf "page" = some .cell) (lp : env.cells.lookup ("page" : Str) = some c) (kn : env.kindOf "normpath" = some .globalImplicit) (kj : env.kindOf "join" = some .globalImplicit)
    (hc : g.get? c = some co) (hco : co.data = .cell (some (.str pg tp))) (hP : PgOk pg) (hW : WayOk pg gl y)
    (h1 : ∀ m' t, P2 (.str gl t) m' news) :
    Gd (hd.heap_1 w.params) vw (looseW vw lo) mg mb g → wpAny (model PySem.Challenge.rw_il0096_01.row.prog w) A (letOwnedTupleGo (.Name "way" p1) (.ref it) (.str y t0)) (fun _ s₁ => wpAny (model PySem.Challenge.rw_il0096_01.row.prog w) A (assign (.Name "way" p1) env (.str y t0)) (fun _ s₂ =>
        wpAny (model PySem.Challenge.rw_il0096_01.row.prog w) A (testsOf [] env) (fun b s₃ => if b = true then wpAny (model PySem.Challenge.rw_il0096_01.row.prog w) A (eval (.Call (.Name "normpath" p2) [.Call (.Name "join" p3) [.Name "page" p4, .Name "way" p5] [] p6] [] p7) env) (fun v s₄ => At g env.locals gs d os (P2 v) s₄) (fun _ _ => False) s₃
          else At g env.locals gs d os P s₃) (fun _ _ => False) s₂) (fun _ _ => False) s₁) (fun _ _ => False) ⟨h, gs, d, tk, os⟩ := by
  k_fill
  intro Y
  refine letGo_name ?_
  refine sN V F N kw ?_
  intro h7 tk7 F7 N7
  refine tests0 ?_
  simp only [if_true]
  refine callGE V F7 Y (by k_dflt k_is) (by k_dflt k_is) kn ?_
  refine args_cons ?_
  refine callGE V F7 Y (by k_dflt k_is) (by k_dflt k_is) kj ?_
  refine args_cons ?_
  refine cN V kp lp (F7.keep _ _ hc) hco ?_
  refine args_cons ?_
  refine lN V F7 kw (by walk_at "lk") ?_
  refine args_nil ?_
  refine ⟨Y.X.keeps F7.keep, ?_⟩
  refine join_c w mg mb g A h7 gs d _ os pg y _ _ _ _ (by omega) hh (Kept.ofFr F7) hP.l hW.l hP.p ?_ Y
  intro h8 tk8 v8 t8 k8 e8
  have F8 := fr_back0 F7 k8
  have N8 := news_back0 N7 k8
  refine args_nil ?_
  refine ⟨Y.X.keeps F8.keep, ?_⟩
  subst e8
  refine normpath_c w mg mb g A h8 gs d _ os (joinF pg y) _ _ _ (by omega) hh (Kept.ofFr F8) hW.jl hW.j0 hW.s1 hW.s2 hW.sp ?_ Y
  intro h9 tk9 v9 t9 k9 e9
  have F9 := fr_back0 F8 k9
  have N9 := news_back0 N8 k9
  rw [e9, hW.n]
  exact At.mk F9 N9 (h1 _ _)
end

section
set_option maxRecDepth 100000
set_option maxHeartbeats 4000000
open PySem PySem.W PyProof.Rows PySem.Calls
/-- the tour's loop -/
theorem tour_while {w : World} {mg mb : Str → Option Value} {A : Around} {g h : Heap} {gs : Array GenState} {d : Drawn} {tk : Nat} {os : OsState} {m : Str → Option Value} {env : Env}
    {p1 p2 p3 p4 p5 p6 p7 p8 p9 p10 p11 p12 p13 p14 p15 p16 p17 p18 p19 p20 p21 p22 p23 p24 p25 p26 p27 p28 p29 p30 p31 : Pos} {i1 : Nat} {TR NO D : Addr} {od : Obj} {H0 : List HE} {rest : List (Addr × Obj)} {es : List (Int × Int)} {big : Bool} {ans : List Int} {t0 : Tok} {Q : Flow → Shared → Prop}
    (V : FnEnv env) (hin : interactive env = false) (F : Fr g env.locals h m) (N : News g env.locals h ((TR, listOf #[Value.str (pgI 0) t0] 0) :: (NO, listOf #[] 0) :: (H0.map HE.ob ++ rest))) (hA : A.depth + 100 < recursionLimit) (hu : A.units + 20 < cLine)
    (kh : env.kindOf "heaps" = some .local) (kt : env.kindOf "trail" = some .local) (kn : env.kindOf "noted" = some .local) (kg : env.kindOf "goals" = some .local) (kr : env.kindOf "greatest" = some .local) (km : env.kindOf "_heappop_max" = some .globalImplicit) (kp : env.kindOf "heappop" = some .globalImplicit)
    (mh : m "heaps" = some (.ref D)) (mt : m "trail" = some (.ref TR)) (mn : m "noted" = some (.ref NO)) (mr : m "greatest" = some (.bool big))
    (hD : (D, od) ∈ rest) (hod : od.IsDictOf (PySem.strKind PySem.Challenge.rw_il0096_01.row.prog w) (H0.map HE.kv)) (hTN : TR ≠ NO) (hT : ∀ p ∈ H0.map HE.ob ++ rest, p.1 ≠ TR) (hN : ∀ p ∈ H0.map HE.ob ++ rest, p.1 ≠ NO) (hR : ∀ e ∈ H0, ∀ p ∈ rest, p.1 ≠ e.a)
    (hI : HInv big es H0) (hV : EOk es) (hz : es.length ≤ 50) (hsrc : ∀ x ∈ es, ∃ e ∈ H0, e.p = x.1) (hes : ∀ x ∈ es, ∃ x' ∈ es, x'.1 = x.2) (h00 : ∃ x ∈ es, x.1 = 0) (hF : FR (ord big) [0] es [] ans)
    (hQ : ∀ h' tk' m' us c, Fr g env.locals h' m' → News g env.locals h' ((NO, listOf us.toArray c) :: rest) → m' "noted" = some (.ref NO) → SL (ans.reverse.map pgI) us → us.length ≤ 60 → Q .next ⟨h', gs, d, tk', os⟩) :
    Gd (hd.heap_1 w.params) vw (looseW vw lo) mg mb g → wpAny (model PySem.Challenge.rw_il0096_01.row.prog w) A (exec (.While (.Compare (.Name "trail" p1) [.NotEq] [.List [] p2] p3) [
      .Assign [.Name "goals" p4] (.Subscript (.Name "heaps" p5) (.Subscript (.Name "trail" p6) (.UnaryOp .USub (.Constant (.int 1) i1 p7) p8) p9) p10) p11,
      .If (.Compare (.Name "goals" p12) [.Eq] [.List [] p13] p14)
        [.Expr (.Call (.Attribute (.Name "noted" p15) "append" ⟨327, 12, 327, 24⟩) [.Call (.Attribute (.Name "trail" p16) "pop" ⟨327, 25, 327, 34⟩) [] [] ⟨327, 25, 327, 36⟩] [] ⟨327, 12, 327, 37⟩) p17]
        [.If (.Name "greatest" p18)
          [.Expr (.Call (.Attribute (.Name "trail" p19) "append" ⟨329, 12, 329, 24⟩) [.Call (.Name "_heappop_max" p20) [.Name "goals" p21] [] p22] [] ⟨329, 12, 329, 45⟩) p23]
          [.Expr (.Call (.Attribute (.Name "trail" p24) "append" ⟨331, 12, 331, 24⟩) [.Call (.Name "heappop" p25) [.Name "goals" p26] [] p27] [] ⟨331, 12, 331, 40⟩) p28] p29] p30] [] p31) env) Q (fun _ _ => False) ⟨h, gs, d, tk, os⟩ := by
  k_fill
  intro Y
  have s0 : ∃ e ∈ H0, e.p = 0 := by
    obtain ⟨x, hx, e0⟩ := h00
    obtain ⟨e, he, ep⟩ := hsrc x hx
    exact ⟨e, he, ep.trans e0⟩
  refine whileL (n₀ := 2 * es.length + 1) (fun j m nw => ∃ (H : List HE) (E : List (Int × Int)) (ts out : List Int) (trs nos : List Value) (ct cn : Nat),
      nw = (TR, listOf trs.toArray ct) :: (NO, listOf nos.toArray cn) :: (H.map HE.ob ++ rest) ∧ HInv big E H ∧ FR (ord big) ts E out ans ∧ SL (ts.reverse.map pgI) trs ∧ SL (out.reverse.map pgI) nos ∧ (∀ u ∈ ts, V5 u ∧ ∃ e ∈ H, e.p = u) ∧ (∀ x ∈ E, x ∈ es) ∧
      j = 2 * E.length + ts.length ∧ out.length + ts.length + E.length = es.length + 1 ∧ H.map HE.kv = H0.map HE.kv ∧ H.map HE.a = H0.map HE.a ∧ H.map HE.p = H0.map HE.p ∧
      m "heaps" = some (.ref D) ∧ m "trail" = some (.ref TR) ∧ m "noted" = some (.ref NO) ∧ m "greatest" = some (.bool big))
    (fun m nw => ∃ (nos : List Value) (cn : Nat), nw = (NO, listOf nos.toArray cn) :: rest ∧ SL (ans.reverse.map pgI) nos ∧ nos.length ≤ 60 ∧ m "noted" = some (.ref NO))
    F N ⟨H0, es, [0], [], _, _, 0, 0, rfl, hI, hF, .cons .nil, .nil, fun u hu => by rw [List.mem_singleton.mp hu]; exact ⟨by unfold V5; decide, s0⟩, fun x hx => hx, rfl, by simp; omega, rfl, rfl, rfl, mh, mt, mn, mr⟩ ?_ ?_
  · rintro j m nw h tk F N ⟨H, E, ts, out, trs, nos, ct, cn, rfl, hI, hF, hts, hout, hin5, hsub, rfl, hlen, kv0, a0, p0, mh, mt, mn, mr⟩
    have htl := hts.length
    have hol := hout.length
    rw [List.length_map, List.length_reverse] at htl hol
    have aT : ∀ p ∈ H.map HE.ob ++ rest, p.1 ∉ [TR, NO] := by
      have ha : ∀ e ∈ H, e.a ∉ [TR, NO] := fun e he q => by
        have : e.a ∈ H0.map HE.a := a0 ▸ List.mem_map_of_mem he
        obtain ⟨e', he', q'⟩ := List.mem_map.mp this
        have m1 : e'.ob ∈ H0.map HE.ob ++ rest := List.mem_append_left _ (List.mem_map_of_mem he')
        have e1 : e'.ob.1 = e.a := q'
        simp only [List.mem_cons, List.not_mem_nil, or_false] at q
        rcases q with q | q
        · exact hT _ m1 (e1.trans q)
        · exact hN _ m1 (e1.trans q)
      intro p hp q
      rcases List.mem_append.mp hp with hp | hp
      · obtain ⟨e, he, rfl⟩ := List.mem_map.mp hp
        exact ha e he q
      · simp only [List.mem_cons, List.not_mem_nil, or_false] at q
        rcases q with q | q
        · exact hT p (List.mem_append_right _ hp) q
        · exact hN p (List.mem_append_right _ hp) q
    have nT : ∀ p ∈ H.map HE.ob ++ rest, p.1 ≠ TR := fun p hp q => aT p hp (by rw [q]; exact .head _)
    have nN : ∀ p ∈ H.map HE.ob ++ rest, p.1 ≠ NO := fun p hp q => aT p hp (by rw [q]; exact .tail _ (.head _))
    refine wpAny_isTrue_Compare1 ?_
    refine lN V F kt mt ?_
    refine List_ ?_
    refine args_nil ?_
    refine newL F N (by simp) ?_
    intro D5 h5 F5 N5 hne5 hD5 hk5
    refine ne_nilL (N5 _ (.tail _ (.head _))).1 (N5 _ (.head _)).1 (by omega) ?_
    refine wpAny_truthy_bool ?_
    replace N5 := News.sub N5 (fun p hp => .tail _ hp)
    cases ts with
    | nil =>
      have : trs = [] := List.length_eq_zero_iff.mp htl
      subst this
      simp only [List.isEmpty_nil, Bool.not_true, Bool.false_eq_true, if_false]
      cases hF
      exact At.mk F5 (News.sub N5 (nw' := (NO, listOf nos.toArray cn) :: rest) fun p hp => by
        rcases List.mem_cons.mp hp with rfl | hp
        · exact .tail _ (.head _)
        · exact .tail _ (.tail _ (List.mem_append_right _ hp))) ⟨nos, cn, rfl, hout, by simp at hlen; omega, mn⟩
    | cons u ts =>
      simp only [List.length_cons] at htl hlen
      have hte : trs.isEmpty = false := by
        cases trs with
        | nil => simp at htl
        | cons _ _ => rfl
      simp only [hte, Bool.not_false, if_true]
      obtain ⟨hu5, e, he, hep⟩ := hin5 u (.head _)
      subst hep
      have eo := hI.one e he
      have hod' : od.IsDictOf (PySem.strKind PySem.Challenge.rw_il0096_01.row.prog w) (H.map HE.kv) := kv0 ▸ hod
      have hDm : (D, od) ∈ (TR, listOf trs.toArray ct) :: (NO, listOf nos.toArray cn) :: (H.map HE.ob ++ rest) := .tail _ (.tail _ (List.mem_append_right _ hD))
      refine wpAny_execs_cons ?_
      refine wpAny_Assign_Name ?_
      refine Subscript_ ?_
      refine lN V F5 kh mh ?_
      refine Subscript_ ?_
      refine lN V F5 kt mt ?_
      refine negI ?_
      intro _ _
      refine item_lastS (N5 _ (.head _)).1 hts (by rw [hte]; rfl) (by omega) ?_
      intro tu
      have hlast : ((e.p :: ts).reverse.map pgI).getD (((e.p :: ts).reverse.map pgI).length - 1) ⟨#[]⟩ = pgI e.p := by
        rw [List.reverse_cons, List.map_append, List.length_append, List.getD_eq_getElem?_getD, List.getElem?_append_right (by simp)]
        simp
      rw [hlast]
      refine kda_item (s := ⟨_, _, _, _, _⟩) (knd := PySem.strKind _ _) N5 hDm hod' (strKind_is _ _ _ _) (valueAt_some (fun e he => (hI.one e he).v5) hI.np e he) ?_
      refine stE F5 N5 ?_ kg V.c
      intro h6 tk6 F6 N6
      have emem : e.ob ∈ (TR, listOf trs.toArray ct) :: (NO, listOf nos.toArray cn) :: (H.map HE.ob ++ rest) := .tail _ (.tail _ (List.mem_append_left _ (List.mem_map_of_mem he)))
      refine wpAny_execs_cons ?_
      refine wpAny_If ?_
      refine wpAny_isTrue_Compare1 ?_
      refine lN V F6 kg (by walk_at "lk") ?_
      refine List_ ?_
      refine args_nil ?_
      refine newL F6 N6 (by simp) ?_
      intro D7 h7 F7 N7 hne7 hD7 hk7
      refine eq_nilL (N7 e.ob (.tail _ emem)).1 (N7 _ (.head _)).1 (by omega) ?_
      refine wpAny_truthy_bool ?_
      replace N7 := News.sub N7 (fun p hp => .tail _ hp)
      clear N6 F6 hk7 N5 F5 hk5 N F
      have nR : ∀ e ∈ H, ∀ p ∈ rest, p.1 ≠ e.a := fun e he p hp q => by
        have : e.a ∈ H0.map HE.a := a0 ▸ List.mem_map_of_mem he
        obtain ⟨e', he', q'⟩ := List.mem_map.mp this
        exact hR e' he' p hp (q.trans q'.symm)
      cases hus : e.us with
      | nil =>
        simp only [List.isEmpty_nil, if_true]
        refine wpAny_execs_cons ?_
        refine wpAny_Expr ?_ hin
        refine MethodCall_ ?_
        refine lN V F7 kn (by walk_at "lk") ?_
        refine methL (N7 _ (.tail _ (.head _))).1 PySem.F.slot_list_append PySem.F.type_list_append ?_
        refine callWith_method1 ?_
        refine args_cons ?_
        refine MethodCall_ ?_
        refine lN V F7 kt (by walk_at "lk") ?_
        refine methL (N7 _ (.head _)).1 PySem.F.slot_list_pop PySem.F.type_list_pop ?_
        refine callWith_method0 ?_
        refine popM (B := 100) F7 N7 (.head _) hte (by omega) (.head ?_) ?_
        · intro p hp
          rcases List.mem_cons.mp hp with rfl | hp
          · exact hTN.symm
          · exact nT p hp
        intro h8 F8 N8
        refine args_nil ?_
        have hget := hts.get (k := trs.length - 1) (by rw [← hts.length]; omega)
        obtain ⟨tv, ev⟩ := hget
        have hlast' : ((e.p :: ts).reverse.map pgI).getD (trs.length - 1) ⟨#[]⟩ = pgI e.p := by rw [hts.length]; exact hlast
        rw [hlast'] at ev
        rw [ev]
        refine appendM (B := 100) F8 N8 (.tail _ (.head _)) (by omega) (.tail hTN (.head nN)) ?_
        intro h9 F9 N9
        refine wpAny_execs_nil ?_
        refine wpAny_execs_nil ?_
        refine At.mk F9 N9 ⟨2 * E.length + ts.length, by simp only [List.length_cons]; omega, H, E, ts, e.p :: out, trs.dropLast, nos ++ [Value.str (pgI e.p) tv], ct + 1, cn + 1, rfl, hI, hI.stuck he hus hF, ?_, ?_, fun u hu' => hin5 u (.tail _ hu'), hsub, rfl, by simp only [List.length_cons]; omega, kv0, a0, p0, by walk_at "lk", by walk_at "lk", by walk_at "lk", by walk_at "lk"⟩
        · have := hts.dropLast
          rwa [List.reverse_cons, List.map_append, List.map_singleton, List.dropLast_concat] at this
        · rw [List.reverse_cons, List.map_append]
          exact hout.snoc
      | cons u0 us0 =>
      obtain ⟨vs, y, hvy⟩ : ∃ vs y, e.us = vs ++ [y] := ⟨_, _, (List.dropLast_concat_getLast (by rw [hus]; simp)).symm⟩
      simp only [List.isEmpty_cons, Bool.false_eq_true, if_false]
      have hvl : vs.length ≤ 60 := by have := eo.ln; rw [hvy] at this; simp at this; omega
      clear hus
      obtain ⟨A0, B0, rfl⟩ := List.append_of_mem he
      obtain ⟨v, t, et, v5, hE, hI', hF'⟩ := hI.take (c := e.c + 1) hvy hF
      refine wpAny_execs_cons ?_
      refine wpAny_If ?_
      refine isTrue_plain ?_
      refine lN V F7 kr (by walk_at "lk") ?_
      refine wpAny_truthy_bool ?_
      cases big with
      | true =>
        simp only [if_true]
        refine wpAny_execs_cons ?_
        refine wpAny_Expr ?_ hin
        refine MethodCall_ ?_
        refine lN V F7 kt (by walk_at "lk") ?_
        refine methL (N7 _ (.head _)).1 PySem.F.slot_list_append PySem.F.type_list_append ?_
        refine callWith_method1 ?_
        refine args_cons ?_
        refine callGE V F7 Y (by k_dflt k_is) (by k_dflt k_is) km ?_
        refine args_cons ?_
        refine lN V F7 kg (by walk_at "lk") ?_
        refine args_nil ?_
        refine ⟨Y.X.keeps F7.keep, ?_⟩
        refine heappop_max_c w mg mb g A h7 gs d _ os e.a vs y e.c _ _ (by omega) (Kept.ofFr F7) (hvy ▸ (N7 e.ob emem).1) (N7 e.ob emem).2.2 (by omega) (hvy ▸ SP.isStrs eo.sp) ?_ Y
        intro h9 tk9 k9 e9
        have ea := N7 e.ob emem
        have eL : e.a ≠ env.locals := ea.2.1
        have eG : g.get? e.a = none := ea.2.2
        have F9 := fr_back F7 k9 (by simpa using Ne.symm eL) (by simpa using eG)
        have N9 : News g env.locals h9 ((TR, listOf trs.toArray ct) :: (NO, listOf nos.toArray cn) :: ((A0 ++ ⟨e.p, e.a, hrest (ltV true) vs y, e.c + 1⟩ :: B0).map HE.ob ++ rest)) := fun p hp => by
          have keep : ∀ p ∈ (TR, listOf trs.toArray ct) :: (NO, listOf nos.toArray cn) :: ((A0 ++ e :: B0).map HE.ob ++ rest), p.1 ≠ e.a → h9.get? p.1 = some p.2 ∧ p.1 ≠ env.locals ∧ g.get? p.1 = none := fun p hp hne => by
            have z := N7 p hp
            exact ⟨k9.1 _ _ z.1 (by simpa using hne), z.2⟩
          have eobm : e.ob ∈ (A0 ++ e :: B0).map HE.ob ++ rest := List.mem_append_left _ (List.mem_map_of_mem he)
          rcases List.mem_cons.mp hp with rfl | hp
          · exact keep _ (.head _) (nT _ eobm).symm
          rcases List.mem_cons.mp hp with rfl | hp
          · exact keep _ (.tail _ (.head _)) (nN _ eobm).symm
          rcases List.mem_append.mp hp with hp | hp
          · obtain ⟨x, hx, rfl⟩ := List.mem_map.mp hp
            rcases List.mem_append.mp hx with hx | hx
            · exact keep _ (.tail _ (.tail _ (List.mem_append_left _ (List.mem_map_of_mem (List.mem_append_left _ hx))))) (nodup_mid hI.na x (List.mem_append_left _ hx))
            rcases List.mem_cons.mp hx with rfl | hx
            · exact ⟨e9, ea.2⟩
            · exact keep _ (.tail _ (.tail _ (List.mem_append_left _ (List.mem_map_of_mem (List.mem_append_right _ (.tail _ hx)))))) (nodup_mid hI.na x (List.mem_append_right _ hx))
          · exact keep _ (.tail _ (.tail _ (List.mem_append_right _ hp))) (nR e he p hp)
        refine args_nil ?_
        rw [et]
        refine appendM (B := 100) F9 N9 (.head _) (by omega) (.head ?_) ?_
        · intro p hp
          rcases List.mem_cons.mp hp with rfl | hp
          · exact hTN.symm
          rcases List.mem_append.mp hp with hp | hp
          · obtain ⟨x, hx, rfl⟩ := List.mem_map.mp hp
            have : x.a ∈ (A0 ++ e :: B0).map HE.a := by
              have q : (A0 ++ ⟨e.p, e.a, hrest (ltV true) vs y, e.c + 1⟩ :: B0).map HE.a = (A0 ++ e :: B0).map HE.a := by rw [List.map_append, List.map_append]; rfl
              rw [← q]; exact List.mem_map_of_mem hx
            obtain ⟨x', hx', q'⟩ := List.mem_map.mp this
            have := nT x'.ob (List.mem_append_left _ (List.mem_map_of_mem hx'))
            exact fun q => this (q'.trans q)
          · exact nT p (List.mem_append_right _ hp)
        intro h10 F10 N10
        refine wpAny_execs_nil ?_
        refine wpAny_execs_nil ?_
        refine wpAny_execs_nil ?_
        have hlE := List.length_erase_of_mem hE
        have hpE : 0 < E.length := List.length_pos_of_mem hE
        refine At.mk F10 N10 ⟨2 * (E.erase (e.p, v)).length + (v :: e.p :: ts).length, by simp only [List.length_cons]; omega, A0 ++ ⟨e.p, e.a, hrest (ltV true) vs y, e.c + 1⟩ :: B0, E.erase (e.p, v), v :: e.p :: ts, out, trs ++ [Value.str (pgI v) t], nos, ct + 1, cn, rfl, hI', hF', ?_, hout, ?_, fun x hx => hsub x (List.mem_of_mem_erase hx), rfl, by simp only [List.length_cons]; omega, ?_, ?_, ?_, by walk_at "lk", by walk_at "lk", by walk_at "lk", by walk_at "lk"⟩
        · rw [List.reverse_cons, List.map_append]
          exact hts.snoc
        · have pp : (A0 ++ ⟨e.p, e.a, hrest (ltV true) vs y, e.c + 1⟩ :: B0).map HE.p = (A0 ++ e :: B0).map HE.p := by rw [List.map_append, List.map_append]; rfl
          have find : ∀ u, u ∈ (A0 ++ e :: B0).map HE.p → ∃ x ∈ A0 ++ ⟨e.p, e.a, hrest (ltV true) vs y, e.c + 1⟩ :: B0, x.p = u := fun u hu' => by
            rw [← pp] at hu'
            obtain ⟨x, hx, q⟩ := List.mem_map.mp hu'
            exact ⟨x, hx, q⟩
          intro u hu'
          rcases List.mem_cons.mp hu' with rfl | hu'
          · refine ⟨v5, find _ ?_⟩
            obtain ⟨x', hx', q⟩ := hes _ (hsub _ hE)
            obtain ⟨e0, he0, q0⟩ := hsrc x' hx'
            rw [p0]
            exact List.mem_map.mpr ⟨e0, he0, q0.trans q⟩
          · obtain ⟨a, x, hx, q⟩ := hin5 u hu'
            exact ⟨a, find u (q ▸ List.mem_map_of_mem hx)⟩
        · rw [← kv0, List.map_append, List.map_append]; rfl
        · rw [← a0, List.map_append, List.map_append]; rfl
        · rw [← p0, List.map_append, List.map_append]; rfl
      | false =>
        simp only [Bool.false_eq_true, if_false]
        refine wpAny_execs_cons ?_
        refine wpAny_Expr ?_ hin
        refine MethodCall_ ?_
        refine lN V F7 kt (by walk_at "lk") ?_
        refine methL (N7 _ (.head _)).1 PySem.F.slot_list_append PySem.F.type_list_append ?_
        refine callWith_method1 ?_
        refine args_cons ?_
        refine callGE V F7 Y (by k_dflt k_is) (by k_dflt k_is) kp ?_
        refine args_cons ?_
        refine lN V F7 kg (by walk_at "lk") ?_
        refine args_nil ?_
        refine ⟨Y.X.keeps F7.keep, ?_⟩
        refine heappop_c w mg mb g A h7 gs d _ os e.a vs y e.c _ _ (by omega) (Kept.ofFr F7) (hvy ▸ (N7 e.ob emem).1) (N7 e.ob emem).2.2 (by omega) (hvy ▸ SP.isStrs eo.sp) ?_ Y
        intro h9 tk9 k9 e9
        have ea := N7 e.ob emem
        have eL : e.a ≠ env.locals := ea.2.1
        have eG : g.get? e.a = none := ea.2.2
        have F9 := fr_back F7 k9 (by simpa using Ne.symm eL) (by simpa using eG)
        have N9 : News g env.locals h9 ((TR, listOf trs.toArray ct) :: (NO, listOf nos.toArray cn) :: ((A0 ++ ⟨e.p, e.a, hrest (ltV false) vs y, e.c + 1⟩ :: B0).map HE.ob ++ rest)) := fun p hp => by
          have keep : ∀ p ∈ (TR, listOf trs.toArray ct) :: (NO, listOf nos.toArray cn) :: ((A0 ++ e :: B0).map HE.ob ++ rest), p.1 ≠ e.a → h9.get? p.1 = some p.2 ∧ p.1 ≠ env.locals ∧ g.get? p.1 = none := fun p hp hne => by
            have z := N7 p hp
            exact ⟨k9.1 _ _ z.1 (by simpa using hne), z.2⟩
          have eobm : e.ob ∈ (A0 ++ e :: B0).map HE.ob ++ rest := List.mem_append_left _ (List.mem_map_of_mem he)
          rcases List.mem_cons.mp hp with rfl | hp
          · exact keep _ (.head _) (nT _ eobm).symm
          rcases List.mem_cons.mp hp with rfl | hp
          · exact keep _ (.tail _ (.head _)) (nN _ eobm).symm
          rcases List.mem_append.mp hp with hp | hp
          · obtain ⟨x, hx, rfl⟩ := List.mem_map.mp hp
            rcases List.mem_append.mp hx with hx | hx
            · exact keep _ (.tail _ (.tail _ (List.mem_append_left _ (List.mem_map_of_mem (List.mem_append_left _ hx))))) (nodup_mid hI.na x (List.mem_append_left _ hx))
            rcases List.mem_cons.mp hx with rfl | hx
            · exact ⟨e9, ea.2⟩
            · exact keep _ (.tail _ (.tail _ (List.mem_append_left _ (List.mem_map_of_mem (List.mem_append_right _ (.tail _ hx)))))) (nodup_mid hI.na x (List.mem_append_right _ hx))
          · exact keep _ (.tail _ (.tail _ (List.mem_append_right _ hp))) (nR e he p hp)
        refine args_nil ?_
        rw [et]
        refine appendM (B := 100) F9 N9 (.head _) (by omega) (.head ?_) ?_
        · intro p hp
          rcases List.mem_cons.mp hp with rfl | hp
          · exact hTN.symm
          rcases List.mem_append.mp hp with hp | hp
          · obtain ⟨x, hx, rfl⟩ := List.mem_map.mp hp
            have : x.a ∈ (A0 ++ e :: B0).map HE.a := by
              have q : (A0 ++ ⟨e.p, e.a, hrest (ltV false) vs y, e.c + 1⟩ :: B0).map HE.a = (A0 ++ e :: B0).map HE.a := by rw [List.map_append, List.map_append]; rfl
              rw [← q]; exact List.mem_map_of_mem hx
            obtain ⟨x', hx', q'⟩ := List.mem_map.mp this
            have := nT x'.ob (List.mem_append_left _ (List.mem_map_of_mem hx'))
            exact fun q => this (q'.trans q)
          · exact nT p (List.mem_append_right _ hp)
        intro h10 F10 N10
        refine wpAny_execs_nil ?_
        refine wpAny_execs_nil ?_
        refine wpAny_execs_nil ?_
        have hlE := List.length_erase_of_mem hE
        have hpE : 0 < E.length := List.length_pos_of_mem hE
        refine At.mk F10 N10 ⟨2 * (E.erase (e.p, v)).length + (v :: e.p :: ts).length, by simp only [List.length_cons]; omega, A0 ++ ⟨e.p, e.a, hrest (ltV false) vs y, e.c + 1⟩ :: B0, E.erase (e.p, v), v :: e.p :: ts, out, trs ++ [Value.str (pgI v) t], nos, ct + 1, cn, rfl, hI', hF', ?_, hout, ?_, fun x hx => hsub x (List.mem_of_mem_erase hx), rfl, by simp only [List.length_cons]; omega, ?_, ?_, ?_, by walk_at "lk", by walk_at "lk", by walk_at "lk", by walk_at "lk"⟩
        · rw [List.reverse_cons, List.map_append]
          exact hts.snoc
        · have pp : (A0 ++ ⟨e.p, e.a, hrest (ltV false) vs y, e.c + 1⟩ :: B0).map HE.p = (A0 ++ e :: B0).map HE.p := by rw [List.map_append, List.map_append]; rfl
          have find : ∀ u, u ∈ (A0 ++ e :: B0).map HE.p → ∃ x ∈ A0 ++ ⟨e.p, e.a, hrest (ltV false) vs y, e.c + 1⟩ :: B0, x.p = u := fun u hu' => by
            rw [← pp] at hu'
            obtain ⟨x, hx, q⟩ := List.mem_map.mp hu'
            exact ⟨x, hx, q⟩
          intro u hu'
          rcases List.mem_cons.mp hu' with rfl | hu'
          · refine ⟨v5, find _ ?_⟩
            obtain ⟨x', hx', q⟩ := hes _ (hsub _ hE)
            obtain ⟨e0, he0, q0⟩ := hsrc x' hx'
            rw [p0]
            exact List.mem_map.mpr ⟨e0, he0, q0.trans q⟩
          · obtain ⟨a, x, hx, q⟩ := hin5 u hu'
            exact ⟨a, find u (q ▸ List.mem_map_of_mem hx)⟩
        · rw [← kv0, List.map_append, List.map_append]; rfl
        · rw [← a0, List.map_append, List.map_append]; rfl
        · rw [← p0, List.map_append, List.map_append]; rfl
  · rintro h' tk' m' nw F' N' ⟨nos, cn, rfl, hs, hl, mn⟩
    exact hQ h' tk' m' nos cn F' N' mn hs hl
end

section
set_option maxRecDepth 100000
set_option maxHeartbeats 4000000
open PySem PySem.W PyProof.Rows PySem.Calls
theorem tour_c (w : World) (mg mb : Str → Option Value) (G : Heap) (A : Around) (hp : Heap) (gs : Array GenState) (d : Drawn) (tk : Nat) (os : OsState) (x dx lh : Addr) (t : Tok) (vs : List Value) (n : Nat) (es : List (Int × Int)) (ss : List Int) (big : Bool) (ans : List Int)
   (Q E : Value → Shared → Prop)
   (hA : A.depth + 250 < recursionLimit) (hh : A.handled = none) (hG : Kept [] G hp) (hl : hp.get? lh = some (listOf vs.toArray n)) (hgl : G.get? lh = none) (hx : hp.get? x = some (instObj 182 dx)) (hgx : G.get? x = none) (hdx : hp.get? dx = some (hdrD w.params lh t)) (hgdx : G.get? dx = none) (hld : lh ≠ dx) (hxdx : x ≠ dx) (hxl : x ≠ lh) (hrows : Rows hp (List.zipWith rowOf es ss) vs) (hlen : ss.length = es.length) (hz : es.length ≤ 50) (hV : EOk es) (hes : ∀ x ∈ es, ∃ x' ∈ es, x'.1 = x.2) (h00 : ∃ x ∈ es, x.1 = 0) (hFR : FR (ord big) [0] es [] ans) (hu : A.units + 40 < cLine)
   (hQ : ∀ h' tk' D us c, Kept [] hp h' → h'.get? D = some (listOf us.toArray c) → hp.get? D = none → SL (ans.map pgI) us → Q (.ref D) ⟨h', gs, d, tk', os⟩) :
   (Gd (hd.heap_1 w.params) vw (looseW vw lo) mg mb G) → 
   wpAny (model PySem.Challenge.rw_il0096_01.row.prog w) A (call (.ref 376) [.ref x, .bool big]) Q E ⟨hp, gs, d, tk, os⟩ := by
  k_fill
  intro X
  obtain ⟨aH, aD, aF, aG, aU⟩ := A
  obtain rfl : aH = none := hh
  replace hA : aD + 250 < recursionLimit := hA
  refine' enterK (news := [(x, instObj 182 dx), (dx, hdrD w.params lh t), (lh, listOf vs.toArray n)]) (binds := [("table", .ref x), ("greatest", .bool big)]) X hG [x, dx, lh] (by simp [hgl, hgx, hgdx]) (by simp [hl, hx, hdx]) ?ho ?hcd ?hroom ?hbind ?hkind ?hnd ?_ ?h1 ?h2 ?h3
  case ho => k_dflt k_is
  case hcd => k_dflt k_is
  case hroom => first | omega | (show aD < _; omega)
  case hbind => first | exact BindsTo.of_eq rfl | exact kp_binds (X.keeps hG).X (fun _ => rfl)
  case hkind => exact kindsX rfl
  case hnd => decide +kernel
  case h1 => rfl
  case h2 => rfl
  case h3 => rfl
  intro g L h₁ tk1 cells Y hgs hgz F N hcells hL
  have KX := Y.X
  have TT := Y.T
  have hu : aU + 40 < cLine := hu
  obtain ⟨co, rfl, hco⟩ := hcells.one
  have xL := hL (x, instObj 182 dx) (.head _)
  have dxL := hL (dx, hdrD w.params lh t) (.tail _ (.head _))
  have lhL := hL (lh, listOf vs.toArray n) (.tail _ (.tail _ (.head _)))
  dsimp only at xL dxL lhL
  have cx : x ≠ L + 1 := Nat.ne_of_lt (Nat.lt_succ_of_lt xL)
  have cdx : dx ≠ L + 1 := Nat.ne_of_lt (Nat.lt_succ_of_lt dxL)
  have clh : lh ≠ L + 1 := Nat.ne_of_lt (Nat.lt_succ_of_lt lhL)
  generalize hm0 : bindL _ _ _ = m0 at F
  have m1 : m0 "table" = some (.ref x) := by rw [← hm0]; rfl
  have m2 : m0 "greatest" = some (.bool big) := by rw [← hm0]; rfl
  clear hm0
  have N : News g L h₁ [(L + 1, co), (x, instObj 182 dx), (dx, hdrD w.params lh t), (lh, listOf vs.toArray n)] := N
  have hrg : Rows g (List.zipWith rowOf es ss) vs := hrows.mono fun b o hc e => hgs b o e (by
    simp only [List.mem_cons, List.not_mem_nil, or_false]
    rintro (rfl | rfl | rfl)
    · rw [hx] at e; cases e; cases hc
    · rw [hdx] at e; cases e; exact absurd hc (by simp)
    · rw [hl] at e; cases e; exact absurd hc (by simp [PySem.W.listOf]))
  have hzl : (List.zipWith rowOf es ss).length = es.length := by rw [List.length_zipWith]; omega
  have hvl : vs.length = es.length := by rw [hrows.length, hzl]
  refine wpAny_execs_cons ?_
  refine wpAny_Assign_Name ?_
  refine newDict_K (s := ⟨_, _, _, _, _⟩) F N TT.nolimit ?_
  intro D h2 od0 F2 N2 l1 hlo hod0 _ _ _
  have dD : ∀ p ∈ [L + 1, x, dx, lh], p ≠ D := by
    intro p hp
    simp only [List.mem_cons, List.not_mem_nil, or_false] at hp
    rcases hp with rfl | rfl | rfl | rfl
    · exact Nat.ne_of_lt (l1 (L + 1, co) (.head _))
    · exact Nat.ne_of_lt (l1 (p, instObj 182 dx) (.tail _ (.head _)))
    · exact Nat.ne_of_lt (l1 (p, hdrD w.params lh t) (.tail _ (.tail _ (.head _))))
    · exact Nat.ne_of_lt (l1 (p, listOf vs.toArray n) (.tail _ (.tail _ (.tail _ (.head _)))))
  refine stE F2 N2 ?_ (by kernel_rfl!) (by kernel_rfl!)
  intro h3 tk3 F3 N3
  refine wpAny_execs_cons ?_
  refine wpAny_For ?_
  refine MethodCall_ ?_
  refine lN ⟨rfl, by kernel_rfl!, rfl, rfl⟩ F3 (by kernel_rfl!) (by walk_at "lk") ?_
  clear F N F2 N2
  walk_at "getMethod ref"
  refine callWith_K0 (first := [.ref x]) (Y.X.keeps F3.keep) (by k_dflt k_is) ?_
  have zx := N3 (x, instObj 182 dx) (.tail _ (.tail _ (.head _)))
  have zd := N3 (dx, hdrD w.params lh t) (.tail _ (.tail _ (.tail _ (.head _))))
  have zl := N3 (lh, listOf vs.toArray n) (.tail _ (.tail _ (.tail _ (.tail _ (.head _)))))
  refine keys_c w mg mb g _ h3 gs d _ os x dx lh t vs n (List.zipWith rowOf es ss) _ _ (by show aD + 1 + 60 < _; omega) (by exact rfl) (Kept.ofFr F3) zl.1 zl.2.2 zx.1 zx.2.2 zd.1 zd.2.2 hld hxdx hxl (by omega) (hrg.mono fun b o _ e => F3.keep b o e) ?_ Y
  intro h4 tk4 lk names cl k4 elk hlkn hnames
  have F4 := fr_back0 F3 k4
  have N4 := News.back F3 N3 k4 elk hlkn
  have lkne : ∀ p ∈ [D, L + 1, x, dx, lh], p ≠ lk := by
    intro p hp q
    subst q
    simp only [List.mem_cons, List.not_mem_nil, or_false] at hp
    rcases hp with rfl | rfl | rfl | rfl | rfl
    · rw [(N3 _ (.head _)).1] at hlkn; cases hlkn
    · rw [(N3 _ (.tail _ (.head _))).1] at hlkn; cases hlkn
    · rw [zx.1] at hlkn; cases hlkn
    · rw [zd.1] at hlkn; cases hlkn
    · rw [zl.1] at hlkn; cases hlkn
  refine iterList (xs := names) F4 N4 (N4 _ (.head _)).1 ?_
  intro it h5 o F5 N5 hne5 h05
  have hnl : names.length = es.length := by rw [hnames.length, List.length_map, hzl]
  refine forS (Steps.list (l := lk) (xs := names) (side := fun nw => (lk, listOf names.toArray cl) ∈ nw) (by exact rfl) (fun h m nw F N s => ⟨_, (N _ s).1⟩))
    (fun j m nw => ∃ (od oc : Obj) (v0 : Option Value) (H : List HE), nw = (lk, listOf names.toArray cl) :: (D, od) :: (L + 1, oc) :: (x, instObj 182 dx) :: (dx, hdrD w.params lh t) :: (lh, listOf vs.toArray n) :: H.map HE.ob ∧
      od.IsDictOf (PySem.strKind PySem.Challenge.rw_il0096_01.row.prog w) (H.map HE.kv) ∧ oc.data = .cell v0 ∧ HInv big es H ∧ (∀ e ∈ H, e.a ∉ [lk, D, L + 1, x, dx, lh]) ∧ (∀ i, i < j → ∃ e ∈ H, e.p = (es.getD i default).1) ∧ H.length ≤ j ∧ m "heaps" = some (.ref D) ∧ m "table" = some (.ref x) ∧ m "greatest" = some (.bool big))
    (fun m nw => ∃ (od oc : Obj) (H : List HE), nw = (lk, listOf names.toArray cl) :: (D, od) :: (L + 1, oc) :: (x, instObj 182 dx) :: (dx, hdrD w.params lh t) :: (lh, listOf vs.toArray n) :: H.map HE.ob ∧
      od.IsDictOf (PySem.strKind PySem.Challenge.rw_il0096_01.row.prog w) (H.map HE.kv) ∧ HInv big es H ∧ (∀ e ∈ H, e.a ∉ [lk, D, L + 1, x, dx, lh]) ∧ (∀ x ∈ es, ∃ e ∈ H, e.p = x.1) ∧ m "heaps" = some (.ref D) ∧ m "greatest" = some (.bool big))
    (fun j m nw q => by obtain ⟨od, oc, v0, H, rfl, _⟩ := q; exact .head _)
    F5 (News.sub N5 (nw' := (it, o) :: (lk, listOf names.toArray cl) :: (D, od0) :: (L + 1, co) :: (x, instObj 182 dx) :: (dx, hdrD w.params lh t) :: (lh, listOf vs.toArray n) :: []) (fun p hp => hp)) hne5 h05 ⟨od0, co, _, [], rfl, hod0, hco, ⟨.nil, .nil, (fun e he => nomatch he)⟩, (fun e he => nomatch he), fun i hi => absurd hi (Nat.not_lt_zero _), Nat.le_refl _, by walk_at "lk", by walk_at "lk", by walk_at "lk"⟩ ?_ ?_ ?_
  · rintro j o m nw h6 tk6 hj F6 N6 hne6 ok6 ⟨od, oc, v0, H, rfl, hd, hoc, hI, hHa, hcov, hHl, mh, mt, mr⟩
    have hje : j < es.length := by omega
    have hjs : j < ss.length := by omega
    obtain ⟨tn, en⟩ := hnames.get (k := j) (by rw [List.length_map, hzl]; exact hje)
    generalize hep : es.getD j default = ep
    generalize hsp : ss.getD j 0 = sp
    have hepm : ep ∈ es := by rw [← hep, List.getD_eq_getElem?_getD, List.getElem?_eq_getElem hje]; exact List.getElem_mem hje
    have hrow : ((List.zipWith rowOf es ss).map (·.1)).getD j ⟨#[]⟩ = (rowOf ep sp).1 := by
      have hjz : j < (List.zipWith rowOf es ss).length := by omega
      rw [List.getD_eq_getElem?_getD, List.getElem?_map, List.getElem?_eq_getElem hjz, List.getElem_zipWith]
      show (rowOf es[j] ss[j]).1 = _
      congr 2
      · rw [← hep, List.getD_eq_getElem?_getD, List.getElem?_eq_getElem hje]; rfl
      · rw [← hsp, List.getD_eq_getElem?_getD, List.getElem?_eq_getElem hjs]; rfl
    rw [hrow] at en
    have ok2 := hV ep hepm
    have RO := row_ok (s := sp) ok2.1 ok2.2
    have PG := pg_ok ok2.1
    generalize hnm : (rowOf ep sp).1 = nm at *
    obtain ⟨a, haj⟩ : ∃ a, ep.1 = a := ⟨_, rfl⟩
    have ha5 : V5 a := haj ▸ ok2.1
    have hlow : Txt.lower nm = pgI a := haj ▸ RO.2.2.1
    rw [haj] at PG
    rw [en]
    refine letGo_name ?_
    refine sN ⟨rfl, by kernel_rfl!, rfl, rfl⟩ F6 N6 (by kernel_rfl!) ?_
    intro h7 tk7 F7 N7
    refine wpAny_execs_cons ?_
    refine wpAny_Assign_Name ?_
    refine MethodCall_ ?_
    refine lN ⟨rfl, by kernel_rfl!, rfl, rfl⟩ F7 (by kernel_rfl!) (by walk_at "lk") ?_
    refine GM.lower ?_
    refine callWith_method0 ?_
    refine PyProof.Rows.SCL.lower (s := ⟨_, _, _, _, _⟩) (by have := RO.2.1; omega) ?_
    intro _
    rw [hlow]
    refine sC (c := L + 1) (rest := (lk, listOf names.toArray cl) :: (D, od) :: (x, instObj 182 dx) :: (dx, hdrD w.params lh t) :: (lh, listOf vs.toArray n) :: (it, o) :: H.map HE.ob) F7 (News.sub N7 (by
      intro p hp
      simp only [List.mem_cons] at hp ⊢
      rcases hp with hp | hp | hp | hp | hp | hp | hp | hp
      · exact .inr (.inr (.inr (.inl hp)))
      · exact .inr (.inl hp)
      · exact .inr (.inr (.inl hp))
      · exact .inr (.inr (.inr (.inr (.inl hp))))
      · exact .inr (.inr (.inr (.inr (.inr (.inl hp)))))
      · exact .inr (.inr (.inr (.inr (.inr (.inr (.inl hp))))))
      · exact .inl hp
      · exact .inr (.inr (.inr (.inr (.inr (.inr (.inr hp)))))))) ?_ hoc ?_ rfl (by kernel_rfl!) (by rfl)
    · intro p hp
      simp only [List.mem_cons] at hp
      rcases hp with rfl | rfl | rfl | rfl | rfl | rfl | hp
      · exact (lkne _ (.tail _ (.head _))).symm
      · exact (dD _ (.head _)).symm
      · exact cx
      · exact cdx
      · exact clh
      · exact (hne6 (L + 1, oc) (.tail _ (.tail _ (.head _)))).symm
      · obtain ⟨e, he, rfl⟩ := List.mem_map.mp hp
        exact fun q => hHa e he (by rw [show e.a = L + 1 from q]; exact .tail _ (.tail _ (.head _)))
    intro h9 oc9 F9 N9 hoc9
    refine wpAny_execs_cons ?_
    refine wpAny_If ?_
    refine wpAny_isTrue_Compare1 ?_
    refine cN ⟨rfl, by kernel_rfl!, rfl, rfl⟩ (by kernel_rfl!) (by rfl) (N9 _ (.head _)).1 hoc9 ?_
    refine lN ⟨rfl, by kernel_rfl!, rfl, rfl⟩ F9 (by kernel_rfl!) (by walk_at "lk") ?_
    refine wpAny_notIn_of (s := ⟨_, _, _, _, _⟩) (knd := PySem.strKind _ _) (strKind_is _ _ _ _) hlo (kda_dict N9 (.tail _ (.tail _ (.head _))) hd).mapOf ?_
    refine wpAny_truthy_bool ?_
    by_cases hold : ∃ e ∈ H, e.p = a
    · obtain ⟨e, he, hea⟩ := hold
      have hva := valueAt_some (fun e he => (hI.one e he).v5) hI.np e he
      rw [hea] at hva
      show if (!(valueAt (H.map HE.kv) (pgI a)).isSome) = true then _ else _
      rw [hva]
      simp only [Option.isSome_some, Bool.not_true, Bool.false_eq_true, if_false]
      refine wpAny_execs_nil ?_
      refine wpAny_execs_nil ?_
      refine At.mk F9 (News.sub N9 (nw' := (it, o) :: (lk, listOf names.toArray cl) :: (D, od) :: (L + 1, oc9) :: (x, instObj 182 dx) :: (dx, hdrD w.params lh t) :: (lh, listOf vs.toArray n) :: H.map HE.ob) (by
        intro p hp
        simp only [List.mem_cons] at hp ⊢
        rcases hp with hp | hp | hp | hp | hp | hp | hp | hp
        · exact .inr (.inr (.inr (.inr (.inr (.inr (.inl hp))))))
        · exact .inr (.inl hp)
        · exact .inr (.inr (.inl hp))
        · exact .inl hp
        · exact .inr (.inr (.inr (.inl hp)))
        · exact .inr (.inr (.inr (.inr (.inl hp))))
        · exact .inr (.inr (.inr (.inr (.inr (.inl hp)))))
        · exact .inr (.inr (.inr (.inr (.inr (.inr (.inr hp)))))))) ⟨_, rfl, ?_, od, oc9, _, H, rfl, hd, hoc9, hI, hHa, ?_, by omega, by walk_at "lk", by walk_at "lk", by walk_at "lk"⟩
      · intro p hp
        rcases List.mem_cons.mp hp with rfl | hp
        · exact hne6 _ (.head _)
        rcases List.mem_cons.mp hp with rfl | hp
        · exact hne6 _ (.tail _ (.head _))
        rcases List.mem_cons.mp hp with rfl | hp
        · exact hne6 (L + 1, oc) (.tail _ (.tail _ (.head _)))
        exact hne6 p (.tail _ (.tail _ (.tail _ hp)))
      · intro i hi
        by_cases hij : i = j
        · subst hij
          exact ⟨e, he, by rw [hea, hep, haj]⟩
        · exact hcov i (by omega)
    · have hnew : ∀ e ∈ H, e.p ≠ a := fun e he q => hold ⟨e, he, q⟩
      have hva0 := valueAt_none ha5 (fun e he => (hI.one e he).v5) hnew
      show if (!(valueAt (H.map HE.kv) (pgI a)).isSome) = true then _ else _
      rw [hva0]
      simp only [Option.isSome_none, Bool.not_false, if_true]
      refine wpAny_execs_cons ?_
      refine wpAny_Assign_Subscript ?_
      refine listComp (cl := [("page", L + 1)]) (by with_unfolding_all rfl) rfl (by decide) ?_
      refine MethodCall_ ?_
      refine lN ⟨rfl, by kernel_rfl!, rfl, rfl⟩ F9 (by kernel_rfl!) (by walk_at "lk") ?_
      have N9s : News g L h9 [(x, instObj 182 dx), (dx, hdrD w.params lh t), (lh, listOf vs.toArray n)] := News.sub N9 (by
        intro p hp
        simp only [List.mem_cons, List.not_mem_nil, or_false] at hp ⊢
        rcases hp with hp | hp | hp
        · exact .inr (.inr (.inr (.inl hp)))
        · exact .inr (.inr (.inr (.inr (.inl hp))))
        · exact .inr (.inr (.inr (.inr (.inr (.inl hp))))))
      clear F3 N3 F4 N4 F5 N5 F6 N6 F7 N7
      have N9b := N9
      clear N9
      walk_at "getMethod ref"
      refine callWith_K (first := [.ref x]) Y.X (by k_dflt k_is) ?_
      refine args_cons ?_
      refine lN ⟨rfl, by kernel_rfl!, rfl, rfl⟩ F9 (by kernel_rfl!) (by walk_at "lk") ?_
      refine args_nil ?_
      refine ⟨Y.X.keeps F9.keep, ?_⟩
      have y1 := N9s _ (.head _)
      have y2 := N9s _ (.tail _ (.head _))
      have y3 := N9s _ (.tail _ (.tail _ (.head _)))
      have hall : ∀ q ∈ List.zipWith rowOf es ss, q.1.length ≤ 30 := fun q hq => by
        obtain ⟨i, hi, rfl⟩ := List.getElem_of_mem hq
        rw [List.getElem_zipWith]
        rw [List.length_zipWith] at hi
        have := hV es[i] (List.getElem_mem (by omega))
        exact (row_ok (s := ss[i]) this.1 this.2).2.1
      refine getall_c w mg mb g _ h9 gs d _ os x dx lh t vs n (List.zipWith rowOf es ss) nm tn _ _ (by show aD + 1 + 60 < _; omega) (by exact rfl) (Kept.ofFr F9) y3.1 y3.2.2 y1.1 y1.2.2 y2.1 y2.2.2 hld hxdx hxl (by omega) (hrg.mono fun b o _ e => F9.keep b o e) RO.2.1 hall (by rw [hlow]; have : (pgI a).cps.size ≤ 30 := PG.l; omega) (by rw [hlow]; exact PG.c) ?_ Y
      intro h11 tk11 rw11 wys cw k11 erw hrwn hwys
      rw [hlow] at hwys
      have F11 := fr_back0 F9 k11
      have N11 := News.back F9 N9b k11 erw hrwn
      have WRa := ways_rel ha5 hV hlen
      generalize hwl : ((List.zipWith rowOf es ss).filter fun q => Txt.lower q.1 == pgI a).map (·.2) = wl at *
      have hwlen := WRa.length
      have hwyl := hwys.length
      have hol : (outs es a).length ≤ es.length := by unfold outs; rw [List.length_map]; exact List.length_filter_le _ _
      refine compList (xs := wys) Y F11 N11 (N11 _ (.head _)).1 (by omega) (fun k2 us => SL (((outs es a).take k2).map pgI) us) .nil ?_ ?_
      · intro k2 us g2 C h12 tk12 m12 o12 nw12 it12 hk2 Y2 hgs2 hz2 F12 N12 hm12 ok12 hsl
        obtain ⟨tw, ew⟩ := hwys.get (k := k2) (by omega)
        rw [ew]
        have hko : k2 < (outs es a).length := by omega
        refine tour_turn ⟨rfl, by kernel_rfl!, rfl, rfl⟩ F12 N12 (by exact rfl) (by show aD + 1 + 200 < _; omega) (by kernel_rfl!) (by kernel_rfl!) (by rfl) (by kernel_rfl!) (by kernel_rfl!) (hgs2 _ _ (N11 _ (.tail _ (.head _))).1) hoc9 PG (WRa.get hko) ?_ Y2
        intro m' t
        refine ⟨rfl, ?_⟩
        rw [List.take_succ_eq_append_getElem hko, List.map_append, show (outs es a)[k2] = (outs es a).getD k2 0 by rw [List.getD_eq_getElem?_getD, List.getElem?_eq_getElem hko]; rfl]
        exact hsl.snoc
      · intro h13 tk13 Dn us cn F13 N13 hsl hul hDn hn13
        rw [List.take_of_length_le (by omega)] at hsl
        have usS : IsStrs us := hsl.isS
        have usl : us.length ≤ 50 := by have := hsl.length; rw [List.length_map] at this; omega
        refine lN ⟨rfl, by kernel_rfl!, rfl, rfl⟩ F13 (by kernel_rfl!) (by walk_at "lk") ?_
        refine cN ⟨rfl, by kernel_rfl!, rfl, rfl⟩ (by kernel_rfl!) (by rfl) (N13 _ (.tail _ (.tail _ (.head _)))).1 hoc9 ?_
        have hDnNe : ∀ p ∈ (D, od) :: (L + 1, oc9) :: (lk, listOf names.toArray cl) :: (x, instObj 182 dx) :: (dx, hdrD w.params lh t) :: (lh, listOf vs.toArray n) :: (it, o) :: H.map HE.ob, p.1 ≠ Dn := fun p hp => by
          refine hDn p (List.mem_cons_of_mem _ ?_)
          simp only [List.mem_cons] at hp ⊢
          rcases hp with hp | hp | hp | hp | hp | hp | hp | hp
          · exact .inr (.inr (.inl hp))
          · exact .inl hp
          · exact .inr (.inl hp)
          · exact .inr (.inr (.inr (.inl hp)))
          · exact .inr (.inr (.inr (.inr (.inl hp))))
          · exact .inr (.inr (.inr (.inr (.inr (.inl hp)))))
          · exact .inr (.inr (.inr (.inr (.inr (.inr (.inl hp))))))
          · exact .inr (.inr (.inr (.inr (.inr (.inr (.inr hp))))))
        have hkl : (H.map HE.kv).length ≤ sizeLine := by
          rw [List.length_map]; simp [sizeLine]; omega
        refine kda_set (s := ⟨_, _, _, _, _⟩) (knd := PySem.strKind _ _) (g := fun o' => (D, o') :: (L + 1, oc9) :: (Dn, listOf us.toArray cn) :: (lk, listOf names.toArray cl) :: (x, instObj 182 dx) :: (dx, hdrD w.params lh t) :: (lh, listOf vs.toArray n) :: (it, o) :: H.map HE.ob) F13 (News.sub N13 (nw' := (D, od) :: (L + 1, oc9) :: (Dn, listOf us.toArray cn) :: (lk, listOf names.toArray cl) :: (x, instObj 182 dx) :: (dx, hdrD w.params lh t) :: (lh, listOf vs.toArray n) :: (it, o) :: H.map HE.ob) (by
          intro p hp
          simp only [List.mem_cons] at hp ⊢
          rcases hp with hp | hp | hp | hp | hp | hp | hp | hp | hp
          · exact .inr (.inr (.inr (.inr (.inl hp))))
          · exact .inr (.inr (.inl hp))
          · exact .inl hp
          · exact .inr (.inr (.inr (.inl hp)))
          · exact .inr (.inr (.inr (.inr (.inr (.inl hp)))))
          · exact .inr (.inr (.inr (.inr (.inr (.inr (.inl hp))))))
          · exact .inr (.inr (.inr (.inr (.inr (.inr (.inr (.inl hp)))))))
          · exact .inr (.inr (.inr (.inr (.inr (.inr (.inr (.inr (.inl hp))))))))
          · exact .inr (.inr (.inr (.inr (.inr (.inr (.inr (.inr (.inr hp)))))))))) (.head ?_) hd (strKind_is _ _ _ _) hkl ?_
        · intro p hp
          simp only [List.mem_cons] at hp
          rcases hp with rfl | rfl | rfl | rfl | rfl | rfl | rfl | hp
          · exact dD _ (.head _)
          · exact (hDnNe (D, od) (.head _)).symm
          · exact (lkne _ (.head _)).symm
          · exact dD _ (.tail _ (.head _))
          · exact dD _ (.tail _ (.tail _ (.head _)))
          · exact dD _ (.tail _ (.tail _ (.tail _ (.head _))))
          · exact (hne6 (D, od) (.tail _ (.head _))).symm
          · obtain ⟨e, he, rfl⟩ := List.mem_map.mp hp
            exact fun q => hHa e he (by rw [show e.a = D from q]; exact .tail _ (.head _))
        intro h15 od15 F15 N15 hd15
        rw [stored_new ha5 (fun e he => (hI.one e he).v5) hnew] at hd15
        have hva : valueAt (H.map HE.kv ++ [(pgI a, Value.ref Dn)]) (pgI a) = some (.ref Dn) := by
          unfold valueAt at hva0 ⊢
          rw [List.find?_append]
          cases hf : (H.map HE.kv).find? (fun kv => decide (kv.1 = pgI a)) with
          | some q => rw [hf] at hva0; cases hva0
          | none => simp
        have zDn := N15 (Dn, listOf us.toArray cn) (.tail _ (.tail _ (.head _)))
        have hDnNe : ∀ p ∈ (D, od15) :: (L + 1, oc9) :: (lk, listOf names.toArray cl) :: (x, instObj 182 dx) :: (dx, hdrD w.params lh t) :: (lh, listOf vs.toArray n) :: (it, o) :: H.map HE.ob, p.1 ≠ Dn := fun p hp => by
          rcases List.mem_cons.mp hp with rfl | hp
          · exact hDnNe (D, od) (.head _)
          · exact hDnNe p (.tail _ hp)
        have haj2 : (es.getD j default).1 = a := by rw [hep, haj]
        refine wpAny_execs_cons ?_
        refine wpAny_If ?_
        refine isTrue_plain ?_
        refine lN ⟨rfl, by kernel_rfl!, rfl, rfl⟩ F15 (by kernel_rfl!) (by walk_at "lk") ?_
        refine wpAny_truthy_bool ?_
        cases big with
        | true =>
          simp only [if_true]
          refine wpAny_execs_cons ?_
          refine wpAny_Expr ?_
          refine callGE ⟨rfl, by kernel_rfl!, rfl, rfl⟩ F15 Y (by k_dflt k_is) (by k_dflt k_is) (by kernel_rfl!) ?_
          refine args_cons ?_
          refine Subscript_ ?_
          refine lN ⟨rfl, by kernel_rfl!, rfl, rfl⟩ F15 (by kernel_rfl!) (by walk_at "lk") ?_
          refine cN ⟨rfl, by kernel_rfl!, rfl, rfl⟩ (by kernel_rfl!) (by rfl) (N15 _ (.tail _ (.head _))).1 hoc9 ?_
          refine kda_item (s := ⟨_, _, _, _, _⟩) (knd := PySem.strKind _ _) N15 (.head _) hd15 (strKind_is _ _ _ _) hva ?_
          refine args_nil ?_
          refine ⟨Y.X.keeps F15.keep, ?_⟩
          refine heapify_max_c w mg mb g _ _ gs d _ os Dn us cn _ _ (by show aD + 1 + 30 < _; omega) (by exact rfl) (Kept.ofFr F15) zDn.1 zDn.2.2 (by omega) usS ?_ Y
          intro h16 tk16 k16 e16
          refine wpAny_execs_nil ?_
          refine wpAny_execs_nil ?_
          refine wpAny_execs_nil ?_
          have F16 := fr_back F15 k16 (by simpa using Ne.symm zDn.2.1) (by simpa using zDn.2.2)
          have N16 : News g L h16 ((lk, listOf names.toArray cl) :: (D, od15) :: (L + 1, oc9) :: (x, instObj 182 dx) :: (dx, hdrD w.params lh t) :: (lh, listOf vs.toArray n) :: (it, o) :: (H ++ [HE.mk a Dn (heapifyV (ltV true) (us.length / 2) us) cn]).map HE.ob) := fun p hp => by
            have keep : ∀ p ∈ (D, od15) :: (L + 1, oc9) :: (lk, listOf names.toArray cl) :: (x, instObj 182 dx) :: (dx, hdrD w.params lh t) :: (lh, listOf vs.toArray n) :: (it, o) :: H.map HE.ob, h16.get? p.1 = some p.2 ∧ p.1 ≠ L ∧ g.get? p.1 = none := fun p hp => by
              have z := N15 p (by
                rcases List.mem_cons.mp hp with rfl | hp
                · exact .head _
                rcases List.mem_cons.mp hp with rfl | hp
                · exact .tail _ (.head _)
                exact .tail _ (.tail _ (.tail _ hp)))
              exact ⟨k16.1 _ _ z.1 (by simpa using hDnNe p hp), z.2⟩
            rcases List.mem_cons.mp hp with rfl | hp
            · exact keep _ (.tail _ (.tail _ (.head _)))
            rcases List.mem_cons.mp hp with rfl | hp
            · exact keep _ (.head _)
            rcases List.mem_cons.mp hp with rfl | hp
            · exact keep _ (.tail _ (.head _))
            rcases List.mem_cons.mp hp with rfl | hp
            · exact keep _ (.tail _ (.tail _ (.tail _ (.head _))))
            rcases List.mem_cons.mp hp with rfl | hp
            · exact keep _ (.tail _ (.tail _ (.tail _ (.tail _ (.head _)))))
            rcases List.mem_cons.mp hp with rfl | hp
            · exact keep _ (.tail _ (.tail _ (.tail _ (.tail _ (.tail _ (.head _))))))
            rcases List.mem_cons.mp hp with rfl | hp
            · exact keep _ (.tail _ (.tail _ (.tail _ (.tail _ (.tail _ (.tail _ (.head _)))))))
            rw [List.map_append] at hp
            rcases List.mem_append.mp hp with hp | hp
            · exact keep _ (.tail _ (.tail _ (.tail _ (.tail _ (.tail _ (.tail _ (.tail _ hp)))))))
            · rw [List.map_singleton] at hp
              rw [List.mem_singleton.mp hp]
              exact ⟨e16, zDn.2⟩
          refine At.mk F16 (News.sub N16 (nw' := (it, o) :: (lk, listOf names.toArray cl) :: (D, od15) :: (L + 1, oc9) :: (x, instObj 182 dx) :: (dx, hdrD w.params lh t) :: (lh, listOf vs.toArray n) :: (H ++ [HE.mk a Dn (heapifyV (ltV true) (us.length / 2) us) cn]).map HE.ob) (by
            intro p hp
            simp only [List.mem_cons] at hp ⊢
            rcases hp with hp | hp | hp | hp | hp | hp | hp | hp
            · exact .inr (.inr (.inr (.inr (.inr (.inr (.inl hp))))))
            · exact .inl hp
            · exact .inr (.inl hp)
            · exact .inr (.inr (.inl hp))
            · exact .inr (.inr (.inr (.inl hp)))
            · exact .inr (.inr (.inr (.inr (.inl hp))))
            · exact .inr (.inr (.inr (.inr (.inr (.inl hp)))))
            · exact .inr (.inr (.inr (.inr (.inr (.inr (.inr hp)))))))) ⟨_, rfl, ?_, od15, oc9, _, H ++ [HE.mk a Dn (heapifyV (ltV true) (us.length / 2) us) cn], rfl, ?_, hoc9, hI.snoc ha5 hnew (fun e he q => hDnNe e.ob (.tail _ (.tail _ (.tail _ (.tail _ (.tail _ (.tail _ (.tail _ (List.mem_map_of_mem he)))))))) q) hsl hV (by omega), ?_, ?_, by rw [List.length_append]; exact Nat.succ_le_succ hHl, by walk_at "lk", by walk_at "lk", by walk_at "lk"⟩
          · intro p hp
            have hit : Dn ≠ it := (hDnNe (it, o) (.tail _ (.tail _ (.tail _ (.tail _ (.tail _ (.tail _ (.head _)))))))).symm
            have old := hne6
            rw [List.map_append] at hp
            simp only [List.mem_cons, List.mem_append, List.map_singleton, List.not_mem_nil, or_false] at hp
            rcases hp with rfl | rfl | rfl | rfl | rfl | rfl | hp | rfl
            · exact old (lk, listOf names.toArray cl) (.head _)
            · exact old (D, od) (.tail _ (.head _))
            · exact old (L + 1, oc) (.tail _ (.tail _ (.head _)))
            · exact old (x, instObj 182 dx) (.tail _ (.tail _ (.tail _ (.head _))))
            · exact old (dx, hdrD w.params lh t) (.tail _ (.tail _ (.tail _ (.tail _ (.head _)))))
            · exact old (lh, listOf vs.toArray n) (.tail _ (.tail _ (.tail _ (.tail _ (.tail _ (.head _))))))
            · exact old p (.tail _ (.tail _ (.tail _ (.tail _ (.tail _ (.tail _ hp))))))
            · exact hit
          · rw [List.map_append]; exact hd15
          · intro e he
            rcases List.mem_append.mp he with he | he
            · exact hHa e he
            · rw [List.mem_singleton.mp he]
              show Dn ∉ [lk, D, L + 1, x, dx, lh]
              simp only [List.mem_cons, List.not_mem_nil, or_false]
              rintro (q | q | q | q | q | q)
              · exact hDnNe (lk, listOf names.toArray cl) (.tail _ (.tail _ (.head _))) q.symm
              · exact hDnNe (D, od15) (.head _) q.symm
              · exact hDnNe (L + 1, oc9) (.tail _ (.head _)) q.symm
              · exact hDnNe (x, instObj 182 dx) (.tail _ (.tail _ (.tail _ (.head _)))) q.symm
              · exact hDnNe (dx, hdrD w.params lh t) (.tail _ (.tail _ (.tail _ (.tail _ (.head _))))) q.symm
              · exact hDnNe (lh, listOf vs.toArray n) (.tail _ (.tail _ (.tail _ (.tail _ (.tail _ (.head _)))))) q.symm
          · intro i hi
            by_cases hij : i = j
            · subst hij
              exact ⟨_, List.mem_append_right _ (.head _), haj2.symm⟩
            · obtain ⟨e, he, q⟩ := hcov i (by omega)
              exact ⟨e, List.mem_append_left _ he, q⟩

        | false =>
          simp only [Bool.false_eq_true, if_false]
          refine wpAny_execs_cons ?_
          refine wpAny_Expr ?_
          refine callGE ⟨rfl, by kernel_rfl!, rfl, rfl⟩ F15 Y (by k_dflt k_is) (by k_dflt k_is) (by kernel_rfl!) ?_
          refine args_cons ?_
          refine Subscript_ ?_
          refine lN ⟨rfl, by kernel_rfl!, rfl, rfl⟩ F15 (by kernel_rfl!) (by walk_at "lk") ?_
          refine cN ⟨rfl, by kernel_rfl!, rfl, rfl⟩ (by kernel_rfl!) (by rfl) (N15 _ (.tail _ (.head _))).1 hoc9 ?_
          refine kda_item (s := ⟨_, _, _, _, _⟩) (knd := PySem.strKind _ _) N15 (.head _) hd15 (strKind_is _ _ _ _) hva ?_
          refine args_nil ?_
          refine ⟨Y.X.keeps F15.keep, ?_⟩
          refine heapify_c w mg mb g _ _ gs d _ os Dn us cn _ _ (by show aD + 1 + 30 < _; omega) (by exact rfl) (Kept.ofFr F15) zDn.1 zDn.2.2 (by omega) usS ?_ Y
          intro h16 tk16 k16 e16
          refine wpAny_execs_nil ?_
          refine wpAny_execs_nil ?_
          refine wpAny_execs_nil ?_
          have F16 := fr_back F15 k16 (by simpa using Ne.symm zDn.2.1) (by simpa using zDn.2.2)
          have N16 : News g L h16 ((lk, listOf names.toArray cl) :: (D, od15) :: (L + 1, oc9) :: (x, instObj 182 dx) :: (dx, hdrD w.params lh t) :: (lh, listOf vs.toArray n) :: (it, o) :: (H ++ [HE.mk a Dn (heapifyV (ltV false) (us.length / 2) us) cn]).map HE.ob) := fun p hp => by
            have keep : ∀ p ∈ (D, od15) :: (L + 1, oc9) :: (lk, listOf names.toArray cl) :: (x, instObj 182 dx) :: (dx, hdrD w.params lh t) :: (lh, listOf vs.toArray n) :: (it, o) :: H.map HE.ob, h16.get? p.1 = some p.2 ∧ p.1 ≠ L ∧ g.get? p.1 = none := fun p hp => by
              have z := N15 p (by
                rcases List.mem_cons.mp hp with rfl | hp
                · exact .head _
                rcases List.mem_cons.mp hp with rfl | hp
                · exact .tail _ (.head _)
                exact .tail _ (.tail _ (.tail _ hp)))
              exact ⟨k16.1 _ _ z.1 (by simpa using hDnNe p hp), z.2⟩
            rcases List.mem_cons.mp hp with rfl | hp
            · exact keep _ (.tail _ (.tail _ (.head _)))
            rcases List.mem_cons.mp hp with rfl | hp
            · exact keep _ (.head _)
            rcases List.mem_cons.mp hp with rfl | hp
            · exact keep _ (.tail _ (.head _))
            rcases List.mem_cons.mp hp with rfl | hp
            · exact keep _ (.tail _ (.tail _ (.tail _ (.head _))))
            rcases List.mem_cons.mp hp with rfl | hp
            · exact keep _ (.tail _ (.tail _ (.tail _ (.tail _ (.head _)))))
            rcases List.mem_cons.mp hp with rfl | hp
            · exact keep _ (.tail _ (.tail _ (.tail _ (.tail _ (.tail _ (.head _))))))
            rcases List.mem_cons.mp hp with rfl | hp
            · exact keep _ (.tail _ (.tail _ (.tail _ (.tail _ (.tail _ (.tail _ (.head _)))))))
            rw [List.map_append] at hp
            rcases List.mem_append.mp hp with hp | hp
            · exact keep _ (.tail _ (.tail _ (.tail _ (.tail _ (.tail _ (.tail _ (.tail _ hp)))))))
            · rw [List.map_singleton] at hp
              rw [List.mem_singleton.mp hp]
              exact ⟨e16, zDn.2⟩
          refine At.mk F16 (News.sub N16 (nw' := (it, o) :: (lk, listOf names.toArray cl) :: (D, od15) :: (L + 1, oc9) :: (x, instObj 182 dx) :: (dx, hdrD w.params lh t) :: (lh, listOf vs.toArray n) :: (H ++ [HE.mk a Dn (heapifyV (ltV false) (us.length / 2) us) cn]).map HE.ob) (by
            intro p hp
            simp only [List.mem_cons] at hp ⊢
            rcases hp with hp | hp | hp | hp | hp | hp | hp | hp
            · exact .inr (.inr (.inr (.inr (.inr (.inr (.inl hp))))))
            · exact .inl hp
            · exact .inr (.inl hp)
            · exact .inr (.inr (.inl hp))
            · exact .inr (.inr (.inr (.inl hp)))
            · exact .inr (.inr (.inr (.inr (.inl hp))))
            · exact .inr (.inr (.inr (.inr (.inr (.inl hp)))))
            · exact .inr (.inr (.inr (.inr (.inr (.inr (.inr hp)))))))) ⟨_, rfl, ?_, od15, oc9, _, H ++ [HE.mk a Dn (heapifyV (ltV false) (us.length / 2) us) cn], rfl, ?_, hoc9, hI.snoc ha5 hnew (fun e he q => hDnNe e.ob (.tail _ (.tail _ (.tail _ (.tail _ (.tail _ (.tail _ (.tail _ (List.mem_map_of_mem he)))))))) q) hsl hV (by omega), ?_, ?_, by rw [List.length_append]; exact Nat.succ_le_succ hHl, by walk_at "lk", by walk_at "lk", by walk_at "lk"⟩
          · intro p hp
            have hit : Dn ≠ it := (hDnNe (it, o) (.tail _ (.tail _ (.tail _ (.tail _ (.tail _ (.tail _ (.head _)))))))).symm
            have old := hne6
            rw [List.map_append] at hp
            simp only [List.mem_cons, List.mem_append, List.map_singleton, List.not_mem_nil, or_false] at hp
            rcases hp with rfl | rfl | rfl | rfl | rfl | rfl | hp | rfl
            · exact old (lk, listOf names.toArray cl) (.head _)
            · exact old (D, od) (.tail _ (.head _))
            · exact old (L + 1, oc) (.tail _ (.tail _ (.head _)))
            · exact old (x, instObj 182 dx) (.tail _ (.tail _ (.tail _ (.head _))))
            · exact old (dx, hdrD w.params lh t) (.tail _ (.tail _ (.tail _ (.tail _ (.head _)))))
            · exact old (lh, listOf vs.toArray n) (.tail _ (.tail _ (.tail _ (.tail _ (.tail _ (.head _))))))
            · exact old p (.tail _ (.tail _ (.tail _ (.tail _ (.tail _ (.tail _ hp))))))
            · exact hit
          · rw [List.map_append]; exact hd15
          · intro e he
            rcases List.mem_append.mp he with he | he
            · exact hHa e he
            · rw [List.mem_singleton.mp he]
              show Dn ∉ [lk, D, L + 1, x, dx, lh]
              simp only [List.mem_cons, List.not_mem_nil, or_false]
              rintro (q | q | q | q | q | q)
              · exact hDnNe (lk, listOf names.toArray cl) (.tail _ (.tail _ (.head _))) q.symm
              · exact hDnNe (D, od15) (.head _) q.symm
              · exact hDnNe (L + 1, oc9) (.tail _ (.head _)) q.symm
              · exact hDnNe (x, instObj 182 dx) (.tail _ (.tail _ (.tail _ (.head _)))) q.symm
              · exact hDnNe (dx, hdrD w.params lh t) (.tail _ (.tail _ (.tail _ (.tail _ (.head _))))) q.symm
              · exact hDnNe (lh, listOf vs.toArray n) (.tail _ (.tail _ (.tail _ (.tail _ (.tail _ (.head _)))))) q.symm
          · intro i hi
            by_cases hij : i = j
            · subst hij
              exact ⟨_, List.mem_append_right _ (.head _), haj2.symm⟩
            · obtain ⟨e, he, q⟩ := hcov i (by omega)
              exact ⟨e, List.mem_append_left _ he, q⟩

  · rintro m nw ⟨od, oc, v0, H, rfl, hd, hoc, hI, hHa, hcov, hHl, mh, mt, mr⟩
    refine ⟨od, oc, H, rfl, hd, hI, hHa, fun e he => ?_, mh, mr⟩
    obtain ⟨i, hi, rfl⟩ := List.getElem_of_mem he
    obtain ⟨e', he', q⟩ := hcov i (by omega)
    exact ⟨e', he', by rw [q, List.getD_eq_getElem?_getD, List.getElem?_eq_getElem hi]; rfl⟩
  · rintro h6 tk6 m6 nw F6 N6 ⟨od, oc, H, rfl, hd, hI, hHa, hcov, mh, mr⟩
    clear F3 N3 F4 N4 F5 N5
    refine wpAny_execs_cons ?_
    refine wpAny_Assign_Name ?_
    refine List_ ?_
    refine args_cons ?_
    refine cS ?_
    intro tS _
    refine args_nil ?_
    refine newL F6 N6 (by simp) ?_
    intro TR h7 F7 N7 hne7 hTR hk7
    refine stE F7 N7 ?_ (by kernel_rfl!) (by kernel_rfl!)
    intro h8 tk8 F8 N8
    refine wpAny_execs_cons ?_
    refine wpAny_Assign_Name ?_
    refine List_ ?_
    refine args_nil ?_
    refine newL F8 N8 (by simp) ?_
    intro NO h9 F9 N9 hne9 hNO hk9
    refine stE F9 N9 ?_ (by kernel_rfl!) (by kernel_rfl!)
    intro h10 tk10 F10 N10
    refine wpAny_execs_cons ?_
    have rsub : ∀ p ∈ H.map HE.ob ++ [(D, od), (L + 1, oc), (x, instObj 182 dx), (dx, hdrD w.params lh t), (lh, listOf vs.toArray n)], p ∈ (lk, listOf names.toArray cl) :: (D, od) :: (L + 1, oc) :: (x, instObj 182 dx) :: (dx, hdrD w.params lh t) :: (lh, listOf vs.toArray n) :: H.map HE.ob := by
      intro p hp
      simp only [List.mem_cons, List.mem_append, List.not_mem_nil, or_false] at hp ⊢
      rcases hp with hp | hp | hp | hp | hp | hp
      · exact .inr (.inr (.inr (.inr (.inr (.inr hp)))))
      · exact .inr (.inl hp)
      · exact .inr (.inr (.inl hp))
      · exact .inr (.inr (.inr (.inl hp)))
      · exact .inr (.inr (.inr (.inr (.inl hp))))
      · exact .inr (.inr (.inr (.inr (.inr (.inl hp)))))
    refine tour_while (TR := TR) (NO := NO) (D := D) (od := od) (H0 := H) (rest := [(D, od), (L + 1, oc), (x, instObj 182 dx), (dx, hdrD w.params lh t), (lh, listOf vs.toArray n)]) (es := es) (big := big) (ans := ans) (t0 := tS) ⟨rfl, by kernel_rfl!, rfl, rfl⟩ (by rfl) F10 (News.sub N10 ?_) (by show aD + 1 + 100 < _; omega) (by show aU + 3 + 20 < cLine; omega) (by kernel_rfl!) (by kernel_rfl!) (by kernel_rfl!) (by kernel_rfl!) (by kernel_rfl!) (by kernel_rfl!) (by kernel_rfl!) (by walk_at "lk") (by walk_at "lk") (by walk_at "lk") (by walk_at "lk") (.head _) hd ?_ ?_ ?_ ?_ hI hV hz hcov hes h00 hFR ?_ Y
    · intro p hp
      rcases List.mem_cons.mp hp with rfl | hp
      · exact .tail _ (.head _)
      rcases List.mem_cons.mp hp with rfl | hp
      · exact .head _
      · exact .tail _ (.tail _ (rsub p hp))
    · exact hne9 (TR, _) (.head _)
    · exact fun p hp => hne7 p (rsub p hp)
    · exact fun p hp => hne9 p (.tail _ (rsub p hp))
    · intro e he p hp
      have hn := hHa e he
      simp only [List.mem_cons, List.not_mem_nil, or_false] at hp hn
      rcases hp with rfl | rfl | rfl | rfl | rfl
      · exact fun q => hn (.inr (.inl q.symm))
      · exact fun q => hn (.inr (.inr (.inl q.symm)))
      · exact fun q => hn (.inr (.inr (.inr (.inl q.symm))))
      · exact fun q => hn (.inr (.inr (.inr (.inr (.inl q.symm)))))
      · exact fun q => hn (.inr (.inr (.inr (.inr (.inr q.symm)))))
    · intro h11 tk11 m11 us c F11 N11 mn hus husl
      refine wpAny_execs_cons ?_
      refine wpAny_Return_some ?_
      refine Subscript_ ?_
      refine lN ⟨rfl, by kernel_rfl!, rfl, rfl⟩ F11 (by kernel_rfl!) mn ?_
      refine wpAny_Slice ?_
      refine wpAny_pure ?_
      refine wpAny_pure ?_
      show wpAny _ _ (eval _ _) _ _ _
      refine negI ?_
      intro tn _
      refine krv_lit (s := ⟨_, _, _, _, _⟩) (its := us.toArray) (zs := us.reverse) F11 N11 (PySem.IsL.isList (N11 _ (.head _)).1) (.int _ _) rfl ?_ (by with_unfolding_all rfl) (by intro _; rfl) (by simp [sizeLine]; omega)
      intro D12 h12 F12 N12 hlt12
      have h0 : ∀ p ∈ [(x, instObj 182 dx), (dx, hdrD w.params lh t), (lh, PySem.W.listOf vs.toArray n)], hp.get? p.1 = some p.2 := by simp [hx, hdx, hl]
      have old := kept_all _ h0 hgs F12 N12 (fun p hp => .tail _ (.tail _ (.tail _ (.tail _ hp))))
      have hrev : SL (ans.map pgI) us.reverse := ⟨fun v hv => hus.isS v (List.mem_reverse.mp hv), by rw [List.map_reverse, hus.eqS, ← List.map_reverse, List.reverse_reverse]⟩
      refine hQ h12 _ D12 us.reverse 0 ⟨fun b o e _ => old b o e, ?_⟩ (N12 _ (.head _)).1 ?_ hrev
      · rw [← hgz]; exact Nat.le_trans F12.above (Nat.le_of_lt F12.ns.lt)
      · cases e : hp.get? D12 with
        | none => rfl
        | some o' =>
          have gn := (N12 _ (.head _)).2.2
          have ne : ∀ q ∈ [(x, instObj 182 dx), (dx, hdrD w.params lh t), (lh, PySem.W.listOf vs.toArray n)], D12 ≠ q.1 := fun q hq => Nat.ne_of_gt (hlt12 q (.tail _ (.tail _ (.tail _ hq))))
          have := hgs D12 o' e (by
            simp only [List.mem_cons, List.not_mem_nil, or_false]
            rintro (q | q | q)
            · exact ne _ (.head _) q
            · exact ne _ (.tail _ (.head _)) q
            · exact ne _ (.tail _ (.tail _ (.head _))) q)
          rw [this] at gn; cases gn
end

section
set_option maxRecDepth 100000
set_option maxHeartbeats 4000000
set_option linter.unusedVariables false
open PySem PySem.W PyProof.Rows PySem.Calls PySem.SeqAt
abbrev zipX (TI TO T : Addr) (f : Bool) : Obj := { cls := .type "zip", dict := none, data := .fields #[rawInt T, .bool f, .bool false, .ref TI, .ref TO], slots := #[] }
section
variable {prog : Program} {w : World} {A : Around} {E : Value → Shared → Prop} {s : Shared}
/-- the next pair of a zip whose last pair is still held -/
theorem zip_out_item {z TI TO T i1 i2 l1 l2 : Addr} {f : Bool} {oT : Obj} {k1 k2 : Nat} {xs ys : Array Value} {x y : Value} {Q : Option Value → Shared → Prop} (D : ZipApart z TI TO i1 i2 l1 l2)
    (hz : s.heap.get? z = some (zipX TI TO T f)) (hT : s.heap.get? T = some oT) (hTI : IsPair s.heap TI (.ref i1) (.ref i2))
    (h1 : s.heap.IsListIter i1 l1 k1) (h2 : s.heap.IsListIter i2 l2 k2) (hl1 : s.heap.IsList l1 xs) (hl2 : s.heap.IsList l2 ys) (hx : xs[k1]? = some x) (hy : ys[k2]? = some y)
    (hQ : ∀ h', h'.get? z = some (zipX TI TO T true) → h'.IsListIter i1 l1 (k1 + 1) → h'.IsListIter i2 l2 (k2 + 1) → IsPair h' s.heap.objs.size x y → h'.objs.size = s.heap.objs.size + 1 →
      (∀ c o, c ≠ z → c ≠ i1 → c ≠ i2 → s.heap.get? c = some o → h'.get? c = some o) → Q (some (.ref s.heap.objs.size)) { s with heap := h' }) :
    wpAny (model prog w) A (pyNext (.ref z)) Q E s := by
  have hTy : s.TypeIs (.ref z) "zip" := ⟨_, hz, rfl⟩
  unfold pyNext
  refine wpAny_bind (wpAny_attempt (wpAny_callSpecial?_slot (name := Str.ofString "__next__") hTy F.slot_zip_next
    (wpAny_call_entry F.slot_zip_next hTy F.entry_zip_next ?_ (F.args_zip_next_1 _))))
  show wpAny _ _ (field (.ref z) 2 >>= _) _ _ _
  refine wpAny_bind (wpAny_field hz rfl (x := .bool false) rfl ?_)
  show wpAny _ _ (field (.ref z) 3 >>= _) _ _ _
  refine wpAny_bind (wpAny_field hz rfl (x := .ref TI) rfl ?_)
  refine wpAny_bind (wpAny_seqItems hTI rfl ?_)
  show wpAny _ _ (Builtin.SmallTypes.ownedTupleIsFree (.ref z) >>= _) _ _ _
  refine wpAny_bind ?_
  unfold Builtin.SmallTypes.ownedTupleIsFree
  refine wpAny_bind (wpAny_field hz rfl (x := rawInt T) rfl ?_)
  show wpAny _ _ (loadIfAlive ((T : Int).toNat) >>= _) _ _ _
  rw [Int.toNat_natCast]
  refine wpAny_bind (kdx_alive hT ?_)
  simp only [Option.isNone_some, Bool.false_eq_true, if_false]
  refine wpAny_bind (wpAny_field hz rfl (x := .bool f) rfl ?_)
  have fr : ∀ (Q' : Bool → Shared → Prop) (E' : Value → Shared → Prop), (∀ h₃ : Heap, h₃.get? z = some (zipX TI TO T true) → Heap.SameBut z s.heap h₃ → Q' false { s with heap := h₃ }) →
      wpAny (model prog w) A.in1 (if (Value.bool f != Value.bool true) = true then do
        setField (Value.ref z) 1 (Value.bool true)
        pure false
      else pure false) Q' E' s := by
    intro Q' E' hq
    cases f with
    | true =>
      rw [if_neg (show ¬ ((Value.bool true != Value.bool true) = true) from Bool.false_ne_true)]
      exact wpAny_pure (hq s.heap hz (Heap.SameBut.refl _ _))
    | false =>
      rw [if_pos (show (Value.bool false != Value.bool true) = true from rfl)]
      exact wpAny_bind (wpAny_setField_rec hz (by simp) fun h₃ hz₃ hs₃ => wpAny_pure (hq h₃ hz₃ hs₃))
  refine fr _ _ fun h₃ hz₃ hs₃ => ?_
  simp only [Bool.false_eq_true, if_false]
  all_goals
    refine wpAny_bind ?_
    rw [← Array.forIn_toList]
    show wpAny _ _ (forIn [Value.ref i1, Value.ref i2] _ _) _ _ _
    simp only [List.forIn_cons, List.forIn_nil]
    refine wpAny_bind (wpAny_bind (wpAny_holding ?_))
    show wpAny _ _ (Builtin.SmallTypes.nextOf (.ref i1) >>= _) _ _ _
    refine wpAny_bind (wpAny_nextOf_list_item (h1.extBut hs₃.extBut D.i1z) (hl1.extBut hs₃.extBut D.l1z) hx fun h₄ h1₄ hs₄ => wpAny_pure ?_)
    refine wpAny_pure ?_
    dsimp only
    refine wpAny_bind (wpAny_bind (wpAny_holding ?_))
    show wpAny _ _ (Builtin.SmallTypes.nextOf (.ref i2) >>= _) _ _ _
    refine wpAny_bind (wpAny_nextOf_list_item ((h2.extBut hs₃.extBut D.i2z).extBut hs₄.extBut D.i12.symm) ((hl2.extBut hs₃.extBut D.l2z).extBut hs₄.extBut D.l2i1) hy fun h₅ h2₅ hs₅ => wpAny_pure ?_)
    refine wpAny_pure ?_
    dsimp only
    refine wpAny_pure ?_
    dsimp only
    refine wpAny_bind (wpAny_newTuple (hsz := by show (2 : Nat) ≤ sizeLine; decide) ?_)
    have sz : h₅.objs.size = s.heap.objs.size := by rw [hs₅.1, hs₄.1, hs₃.1]
    have up : ∀ c o, c ≠ z → c ≠ i1 → c ≠ i2 → s.heap.get? c = some o → h₅.get? c = some o := fun c o a1 a2 a3 e => hs₅.extBut _ _ a3 (hs₄.extBut _ _ a2 (hs₃.extBut _ _ a1 e))
    have hz₅ : h₅.get? z = some (zipX TI TO T true) := hs₅.extBut _ _ D.i2z.symm (hs₄.extBut _ _ D.i1z.symm hz₃)
    have pu : ∀ c o, h₅.get? c = some o → (h₅.push { cls := .type "tuple", data := .seq #[x, y] }).get? c = some o := fun c o e => Heap.get?_push_of_some _ e
    refine wpAny_pure ⟨_, rfl, wpAny_pure ?_⟩
    have q := hQ (h₅.push { cls := .type "tuple", data := .seq #[x, y] }) (pu _ _ hz₅) ((h1₄.extBut hs₅.extBut D.i12).at fun o e => pu _ o e) (h2₅.at fun o e => pu _ o e) (by rw [← sz]; exact Heap.get?_push_size _ rfl) (by rw [Heap.size_push, sz]) fun c o a1 a2 a3 e => pu _ _ (up c o a1 a2 a3 e)
    rw [← sz] at q
    exact q
/-- no pair is left -/
theorem zip_out_end {z TI TO T i1 i2 l1 l2 : Addr} {f : Bool} {oT : Obj} {k1 k2 : Nat} {xs ys : Array Value} {x y : Value} {Q : Option Value → Shared → Prop} (D : ZipApart z TI TO i1 i2 l1 l2)
    (hz : s.heap.get? z = some (zipX TI TO T f)) (hT : s.heap.get? T = some oT) (hTI : IsPair s.heap TI (.ref i1) (.ref i2))
    (h1 : s.heap.IsListIter i1 l1 k1) (h2 : s.heap.IsListIter i2 l2 k2) (hl1 : s.heap.IsList l1 xs) (hl2 : s.heap.IsList l2 ys) (hx : xs[k1]? = some x) (hy : ys[k2]? = none) (hh : A.handled = none)
    (hQ : ∀ h', (∀ c o, c ≠ z → c ≠ i1 → c ≠ i2 → s.heap.get? c = some o → h'.get? c = some o) → Q none { s with heap := h' }) :
    wpAny (model prog w) A (pyNext (.ref z)) Q E s := by
  have hTy : s.TypeIs (.ref z) "zip" := ⟨_, hz, rfl⟩
  unfold pyNext
  refine wpAny_bind (wpAny_attempt (wpAny_callSpecial?_slot (name := Str.ofString "__next__") hTy F.slot_zip_next
    (wpAny_call_entry F.slot_zip_next hTy F.entry_zip_next ?_ (F.args_zip_next_1 _))))
  show wpAny _ _ (field (.ref z) 2 >>= _) _ _ _
  refine wpAny_bind (wpAny_field hz rfl (x := .bool false) rfl ?_)
  show wpAny _ _ (field (.ref z) 3 >>= _) _ _ _
  refine wpAny_bind (wpAny_field hz rfl (x := .ref TI) rfl ?_)
  refine wpAny_bind (wpAny_seqItems hTI rfl ?_)
  show wpAny _ _ (Builtin.SmallTypes.ownedTupleIsFree (.ref z) >>= _) _ _ _
  refine wpAny_bind ?_
  unfold Builtin.SmallTypes.ownedTupleIsFree
  refine wpAny_bind (wpAny_field hz rfl (x := rawInt T) rfl ?_)
  show wpAny _ _ (loadIfAlive ((T : Int).toNat) >>= _) _ _ _
  rw [Int.toNat_natCast]
  refine wpAny_bind (kdx_alive hT ?_)
  simp only [Option.isNone_some, Bool.false_eq_true, if_false]
  refine wpAny_bind (wpAny_field hz rfl (x := .bool f) rfl ?_)
  have fr : ∀ (Q' : Bool → Shared → Prop) (E' : Value → Shared → Prop), (∀ h₃ : Heap, h₃.get? z = some (zipX TI TO T true) → Heap.SameBut z s.heap h₃ → Q' false { s with heap := h₃ }) →
      wpAny (model prog w) A.in1 (if (Value.bool f != Value.bool true) = true then do
        setField (Value.ref z) 1 (Value.bool true)
        pure false
      else pure false) Q' E' s := by
    intro Q' E' hq
    cases f with
    | true =>
      rw [if_neg (show ¬ ((Value.bool true != Value.bool true) = true) from Bool.false_ne_true)]
      exact wpAny_pure (hq s.heap hz (Heap.SameBut.refl _ _))
    | false =>
      rw [if_pos (show (Value.bool false != Value.bool true) = true from rfl)]
      exact wpAny_bind (wpAny_setField_rec hz (by simp) fun h₃ hz₃ hs₃ => wpAny_pure (hq h₃ hz₃ hs₃))
  refine fr _ _ fun h₃ hz₃ hs₃ => ?_
  simp only [Bool.false_eq_true, if_false]
  all_goals
    refine wpAny_bind ?_
    rw [← Array.forIn_toList]
    show wpAny _ _ (forIn [Value.ref i1, Value.ref i2] _ _) _ _ _
    simp only [List.forIn_cons, List.forIn_nil]
    refine wpAny_bind (wpAny_bind (wpAny_holding ?_))
    show wpAny _ _ (Builtin.SmallTypes.nextOf (.ref i1) >>= _) _ _ _
    refine wpAny_bind (wpAny_nextOf_list_item (h1.extBut hs₃.extBut D.i1z) (hl1.extBut hs₃.extBut D.l1z) hx fun h₄ h1₄ hs₄ => wpAny_pure ?_)
    refine wpAny_pure ?_
    dsimp only
    refine wpAny_bind (wpAny_bind (wpAny_holding ?_))
    show wpAny _ _ (Builtin.SmallTypes.nextOf (.ref i2) >>= _) _ _ _
    refine wpAny_bind (wpAny_nextOf_list_end hh ((h2.extBut hs₃.extBut D.i2z).extBut hs₄.extBut D.i12.symm) ((hl2.extBut hs₃.extBut D.l2z).extBut hs₄.extBut D.l2i1) hy fun h₅ e hs₅ he => ?_)
    obtain ⟨o, ho, hc⟩ := he
    refine wpAny_bind (wpAny_isInstance (T := "StopIteration") (b := true) ⟨o, ho, hc⟩ isSubtype_stop ?_)
    exact wpAny_pure (hQ _ fun c o a1 a2 a3 e => hs₅ _ _ a3 (hs₄.extBut _ _ a2 (hs₃.extBut _ _ a1 e)))
end
end

section
set_option maxRecDepth 100000
set_option maxHeartbeats 4000000
set_option linter.unusedVariables false
open PySem PySem.W PyProof.Rows PySem.Calls PySem.SeqAt
theorem zip_no_len : typeLookup (.type "zip") "__len__" = pure none := by rw [typeLookup_type, builtinLookup_eq_fast]; kernel_rfl
theorem zip_no_hint : typeLookup (.type "zip") "__length_hint__" = pure none := by rw [typeLookup_type, builtinLookup_eq_fast]; kernel_rfl
structure ZSt (h : Heap) (TI i1 i2 l1 l2 : Addr) (k : Nat) (xs ys : Array Value) : Prop where
  ti : IsPair h TI (.ref i1) (.ref i2)
  h1 : h.IsListIter i1 l1 k
  h2 : h.IsListIter i2 l2 k
  hl1 : h.IsList l1 xs
  hl2 : h.IsList l2 ys
theorem ZSt.keep {h h' : Heap} {TI i1 i2 l1 l2 : Addr} {k : Nat} {xs ys : Array Value} (x : ZSt h TI i1 i2 l1 l2 k xs ys) (hk : ∀ c ∈ [TI, i1, i2, l1, l2], ∀ o, h.get? c = some o → h'.get? c = some o) : ZSt h' TI i1 i2 l1 l2 k xs ys :=
  ⟨hk _ (.head _) _ x.ti, x.h1.at fun o e => hk _ (.tail _ (.head _)) o e, x.h2.at fun o e => hk _ (.tail _ (.tail _ (.head _))) o e, x.hl1.at fun o e => hk _ (.tail _ (.tail _ (.tail _ (.head _)))) o e, x.hl2.at fun o e => hk _ (.tail _ (.tail _ (.tail _ (.tail _ (.head _))))) o e⟩
/-- the pairs that were given out -/
noncomputable def PairsAt (h : Heap) (xs ys : Array Value) (as : List Addr) : Prop := ∀ (j : Nat) (a : Addr), as[j]? = some a → ∃ x y, xs[j]? = some x ∧ ys[j]? = some y ∧ h.get? a = some (tup x y)
section
variable {prog : Program} {w : World} {A : Around} {E : Value → Shared → Prop} {s : Shared} {R : Result → Shared → Prop}
theorem zip_loop {S z TI TO i1 i2 l1 l2 : Addr} {xs ys : Array Value} (D : ZipApart z TI TO i1 i2 l1 l2) (hh : A.handled = none) (hS : ∀ c ∈ [z, TI, TO, i1, i2, l1, l2], c ≠ S) (hn : ys.size ≤ 1000) (hxy : xs.size = ys.size + 1) (res : Value) {h₁ : Heap}
    (hR : ∀ h' tk acc c as, (∀ b o, b ∉ [S, z, TO, i1, i2] → h₁.get? b = some o → h'.get? b = some o) → h'.get? S = some { cls := .type "list", dict := none, data := .seq acc c, slots := #[] } → as.length = ys.size → PairsAt h' xs ys as → (∀ a ∈ as, h₁.objs.size ≤ a) →
      acc.toList = as.map Value.ref → R (.ok (.ret res)) { s with heap := h', toks := tk }) :
    ∀ (k i : Nat) (h : Heap) (tk c : Nat) (acc : Array Value) (as : List Addr) (T : Addr) (f : Bool) (oT : Obj), ys.size - i = k → (∃ o, h.get? TO = some o) → i ≤ ys.size → h.get? z = some (zipX TI TO T f) → h.get? T = some oT → T ∉ [S, z, TO, i1, i2] → ZSt h TI i1 i2 l1 l2 i xs ys → (∀ b o, b ∉ [S, z, TO, i1, i2] → h₁.get? b = some o → h.get? b = some o) →
      h.get? S = some { cls := .type "list", dict := none, data := .seq acc c, slots := #[] } → acc.toList = as.map Value.ref → as.length = i → PairsAt h xs ys as → (∀ a ∈ as, a ∉ [S, z, TO, i1, i2]) → h₁.objs.size ≤ h.objs.size → (∀ a ∈ as, h₁.objs.size ≤ a) →
      codeAny (model prog w) A (.builtin "list.extend.loop" ⟨[.ref S, .ref z, res], []⟩) R { s with heap := h, toks := tk } := by
  have nz : S ≠ z := (hS z (.head _)).symm
  intro k
  induction k with
  | zero =>
    intro i h tk c acc as T f oT hk hTO hi hz hT hTn hst hkeep hSl hacc hal hP hA hsz1 hge
    have hin : i = ys.size := by omega
    refine codeAny_builtin PySem.F.entry_extend_loop ?_
    rw [Around.under_plainId PySem.F.plain_extend_loop _]
    show wpAny _ A.in1 (pyNext (.ref z) >>= _) _ _ _
    refine wpAny_bind (zip_out_end (y := .none) (s := { s with heap := h, toks := tk }) (A := A.in1) D hz hT hst.ti hst.h1 hst.h2 hst.hl1 hst.hl2 (x := xs[i]'(by omega)) (Array.getElem?_eq_getElem (by omega)) (Array.getElem?_eq_none (by omega)) hh fun h' he => ?_)
    have he' : ∀ b o, b ∉ [S, z, TO, i1, i2] → h.get? b = some o → h'.get? b = some o := fun b o hb e => he b o (fun q => hb (by simp [q])) (fun q => hb (by simp [q])) (fun q => hb (by simp [q])) e
    refine wpAny_pure (hR h' tk acc c as (fun b o hb e => he' b o hb (hkeep b o hb e)) (he S _ nz (hS i1 (by simp)).symm (hS i2 (by simp)).symm hSl) (by omega) (fun j a hj => ?_) hge hacc)
    obtain ⟨x, y, e1, e2, e3⟩ := hP j a hj
    exact ⟨x, y, e1, e2, he' a _ (hA a (List.mem_of_getElem? hj)) e3⟩
  | succ k ih =>
    intro i h tk c acc as T f oT hk hTO hi hz hT hTn hst hkeep hSl hacc hal hP hA hsz1 hge
    have hlt : i < ys.size := by omega
    have hlx : i < xs.size := by omega
    have hsz : acc.size = i := by rw [← Array.length_toList, hacc, List.length_map, hal]
    refine codeAny_builtin PySem.F.entry_extend_loop ?_
    rw [Around.under_plainId PySem.F.plain_extend_loop _]
    show wpAny _ A.in1 (pyNext (.ref z) >>= _) _ _ _
    refine wpAny_bind (zip_out_item (s := { s with heap := h, toks := tk }) (A := A.in1) D hz hT hst.ti hst.h1 hst.h2 hst.hl1 hst.hl2 (Array.getElem?_eq_getElem hlx) (Array.getElem?_eq_getElem hlt) fun h' a1 a2 a3 a4 a5 he => ?_)
    dsimp only at a4 a5 he ⊢
    have he' : ∀ b o, b ∉ [S, z, TO, i1, i2] → h.get? b = some o → h'.get? b = some o := fun b o hb e => he b o (fun q => hb (by simp [q])) (fun q => hb (by simp [q])) (fun q => hb (by simp [q])) e
    have hS' := he S _ nz (hS i1 (by simp)).symm (hS i2 (by simp)).symm hSl
    have up : ∀ b o, b ≠ S → h'.get? b = some o → (h'.update S (Obj.mapSeq (·.push (Value.ref h.objs.size)))).get? b = some o := fun b o hb e => (Heap.get?_update_other _ _ (Ne.symm hb)).trans e
    have hnew : h.objs.size ∉ [S, z, TO, i1, i2] := by
      simp only [List.mem_cons, List.not_mem_nil, or_false]
      have lt : ∀ {c o}, h.get? c = some o → h.objs.size ≠ c := fun e => Nat.ne_of_gt (Heap.lt_size e)
      rintro (q | q | q | q | q)
      · exact lt hSl q
      · exact lt hz q
      · obtain ⟨o, e⟩ := hTO; exact lt e q
      · obtain ⟨o, e, _⟩ := hst.h1; exact lt e q
      · obtain ⟨o, e, _⟩ := hst.h2; exact lt e q
    have st' : ZSt h' TI i1 i2 l1 l2 (i + 1) xs ys := ⟨he _ _ D.TIz D.TIi1 D.TIi2 hst.ti, a2, a3, hst.hl1.at fun o e => he _ o D.l1z D.l1i1 D.l1i2 e, hst.hl2.at fun o e => he _ o D.l2z D.l2i1 D.l2i2 e⟩
    have hTS : T ≠ S := fun q => hTn (by simp [q])
    show wpAny _ A.in1 (updateSeq S (·.push (Value.ref h.objs.size)) >>= _) _ _ _
    refine wpAny_bind ?_
    refine wpAny_updateSeq hS' rfl (wpAny_pure ⟨plainId_quiet PySem.F.plain_extend_loop _, ih (i + 1) _ tk _ (acc.push (Value.ref h.objs.size)) (as ++ [h.objs.size]) T true oT (by omega) (by obtain ⟨o, e⟩ := hTO; exact ⟨o, up _ _ (hS TO (by simp)) (he _ _ D.TOz D.TOi1 D.TOi2 e)⟩) hlt (up _ _ nz.symm a1) (up _ _ hTS (he' _ _ hTn hT)) hTn
      (st'.keep fun c hc o e => up c o (hS c (by simp at hc ⊢; rcases hc with rfl | rfl | rfl | rfl | rfl <;> simp)) e)
      (fun b o hb e => up b o (fun q => hb (by simp [q])) (he' b o hb (hkeep b o hb e))) (Heap.get?_update_self _ hS' rfl) (by rw [Array.toList_push, hacc, List.map_append]; rfl) (by rw [List.length_append, hal]; rfl) ?_ ?_ (Nat.le_trans hsz1 (Nat.le_trans (Nat.le_succ _) (Nat.le_of_eq (a5.symm.trans (Heap.SameBut.update ..).1.symm)))) (fun a ha => by
        rcases List.mem_append.mp ha with ha | ha
        · exact hge a ha
        · rw [List.mem_singleton.mp ha]; exact hsz1)⟩) (by rw [hsz]; simp [sizeLine]; omega) (by show (acc.push (Value.ref h.objs.size)).size ≤ sizeLine + 1; rw [Array.size_push, hsz]; simp [sizeLine]; omega)
    · intro j b hj
      rcases Nat.lt_trichotomy j as.length with h1 | h1 | h1
      · rw [List.getElem?_append_left h1] at hj
        obtain ⟨x, y, e1, e2, e3⟩ := hP j b hj
        have hb := hA b (List.mem_of_getElem? hj)
        exact ⟨x, y, e1, e2, up b _ (fun q => hb (by simp [q])) (he' b _ hb e3)⟩
      · subst h1
        have hb : h.objs.size = b := by simpa using hj
        subst hb
        exact ⟨_, _, by rw [hal]; exact Array.getElem?_eq_getElem hlx, by rw [hal]; exact Array.getElem?_eq_getElem hlt, up _ _ (fun q => hnew (by simp [q])) a4⟩
      · rw [List.getElem?_append_right (by omega)] at hj
        have : j - as.length ≠ 0 := by omega
        rw [List.getElem?_eq_none (by simp; omega)] at hj
        cases hj
    · intro a ha
      rcases List.mem_append.mp ha with ha | ha
      · exact hA a ha
      · rw [List.mem_singleton.mp ha]; exact hnew
theorem zip_first {S z TI TO i1 i2 l1 l2 : Addr} {xs ys : Array Value} (D : ZipApart z TI TO i1 i2 l1 l2) (hh : A.handled = none) (hS : ∀ c ∈ [z, TI, TO, i1, i2, l1, l2], c ≠ S) (hn : ys.size ≤ 1000) (hn0 : 0 < ys.size) (hxy : xs.size = ys.size + 1) (res : Value) {h₁ : Heap} {h : Heap} {tk c : Nat}
    (hz : IsZip h z TI TO .none) (hTO : ∃ a b, IsPair h TO a b) (hst : ZSt h TI i1 i2 l1 l2 0 xs ys) (hSl : h.get? S = some { cls := .type "list", dict := none, data := .seq #[] c, slots := #[] }) (hkeep : ∀ b o, b ∉ [S, z, TO, i1, i2] → h₁.get? b = some o → h.get? b = some o) (hsz1 : h₁.objs.size ≤ h.objs.size)
    (hR : ∀ h' tk acc c as, (∀ b o, b ∉ [S, z, TO, i1, i2] → h₁.get? b = some o → h'.get? b = some o) → h'.get? S = some { cls := .type "list", dict := none, data := .seq acc c, slots := #[] } → as.length = ys.size → PairsAt h' xs ys as → (∀ a ∈ as, h₁.objs.size ≤ a) →
      acc.toList = as.map Value.ref → R (.ok (.ret res)) { s with heap := h', toks := tk }) :
    codeAny (model prog w) A (.builtin "list.extend.loop" ⟨[.ref S, .ref z, res], []⟩) R { s with heap := h, toks := tk } := by
  have nz : S ≠ z := (hS z (.head _)).symm
  have nTO : TO ≠ S := hS TO (by simp)
  have ni1 : i1 ≠ S := hS i1 (by simp)
  have ni2 : i2 ≠ S := hS i2 (by simp)
  obtain ⟨ta, tb, hTO⟩ := hTO
  have hlx : 0 < xs.size := by omega
  refine codeAny_builtin PySem.F.entry_extend_loop ?_
  rw [Around.under_plainId PySem.F.plain_extend_loop _]
  show wpAny _ A.in1 (pyNext (.ref z) >>= _) _ _ _
  refine wpAny_bind (wpAny_pyNext_zip_item (s := { s with heap := h, toks := tk }) (A := A.in1) D hz hst.ti hTO hst.h1 hst.h2 hst.hl1 hst.hl2 (Array.getElem?_eq_getElem hlx) (Array.getElem?_eq_getElem hn0) fun h' a1 b1 a2 a3 a4 a5 he => ?_)
  dsimp only at a1 a4 a5 he ⊢
  have he' : ∀ b o, b ∉ [S, z, TO, i1, i2] → h.get? b = some o → h'.get? b = some o := fun b o hb e => he b o (fun q => hb (by simp [q])) (fun q => hb (by simp [q])) (fun q => hb (by simp [q])) (fun q => hb (by simp [q])) e
  have hS' := he S _ nz nTO.symm ni1.symm ni2.symm hSl
  have up : ∀ b o, b ≠ S → h'.get? b = some o → (h'.update S (Obj.mapSeq (·.push (Value.ref h.objs.size)))).get? b = some o := fun b o hb e => (Heap.get?_update_other _ _ (Ne.symm hb)).trans e
  have hnew : h.objs.size ∉ [S, z, TO, i1, i2] := by
    simp only [List.mem_cons, List.not_mem_nil, or_false]
    have lt : ∀ {c o}, h.get? c = some o → h.objs.size ≠ c := fun e => Nat.ne_of_gt (Heap.lt_size e)
    rintro (q | q | q | q | q)
    · exact lt hSl q
    · exact lt hz q
    · exact lt hTO q
    · obtain ⟨o, e, _⟩ := hst.h1; exact lt e q
    · obtain ⟨o, e, _⟩ := hst.h2; exact lt e q
  have st' : ZSt h' TI i1 i2 l1 l2 1 xs ys := ⟨he _ _ D.TIz D.TITO D.TIi1 D.TIi2 hst.ti, a2, a3, hst.hl1.at fun o e => he _ o D.l1z D.l1TO D.l1i1 D.l1i2 e, hst.hl2.at fun o e => he _ o D.l2z D.l2TO D.l2i1 D.l2i2 e⟩
  have hTS : h.objs.size ≠ S := fun q => hnew (by simp [q])
  show wpAny _ A.in1 (updateSeq S (·.push (Value.ref h.objs.size)) >>= _) _ _ _
  refine wpAny_bind ?_
  refine wpAny_updateSeq hS' rfl (wpAny_pure ⟨plainId_quiet PySem.F.plain_extend_loop _, zip_loop (s := s) D hh hS hn hxy res hR (ys.size - 1) 1 _ tk _ (#[].push (Value.ref h.objs.size)) [h.objs.size] h.objs.size false _ rfl ⟨_, up _ _ nTO b1⟩ hn0 (up _ _ nz.symm a1) (up _ _ hTS a4) hnew
    (st'.keep fun c hc o e => up c o (hS c (by simp at hc ⊢; rcases hc with rfl | rfl | rfl | rfl | rfl <;> simp)) e)
    (fun b o hb e => up b o (fun q => hb (by simp [q])) (he' b o hb (hkeep b o hb e))) (Heap.get?_update_self _ hS' rfl) rfl rfl ?_ ?_ (Nat.le_trans hsz1 (Nat.le_trans (Nat.le_succ _) (Nat.le_of_eq (a5.symm.trans (Heap.SameBut.update ..).1.symm)))) (fun a ha => by rw [List.mem_singleton.mp ha]; exact hsz1)⟩) (by simp [sizeLine]) (by simp [sizeLine])
  · intro j b hj
    cases j with
    | zero =>
      have hb : h.objs.size = b := by simpa using hj
      subst hb
      exact ⟨_, _, Array.getElem?_eq_getElem hlx, Array.getElem?_eq_getElem hn0, up _ _ hTS a4⟩
    | succ j => simp at hj
  · intro a ha
    rw [List.mem_singleton.mp ha]; exact hnew
theorem zip_hint {z : Addr} {Q : Bool → Shared → Prop} (hT : s.TypeIs (.ref z) "zip") (h : Q true s) : wpAny (model prog w) A (Builtin.List.listLengthHint (.ref z)) Q E s := by
  unfold Builtin.List.listLengthHint
  refine wpAny_bind (wpAny_specialOf hT zip_no_len ?_)
  show wpAny _ _ (specialOf (Value.ref z) (Str.ofString "__length_hint__") >>= _) _ _ _
  refine wpAny_bind (wpAny_specialOf hT zip_no_hint ?_)
  exact wpAny_pure h
theorem zip_extend {S z TI TO i1 i2 l1 l2 : Addr} {xs ys : Array Value} (D : ZipApart z TI TO i1 i2 l1 l2) (hh : A.handled = none) (hS : ∀ c ∈ [z, TI, TO, i1, i2, l1, l2], c ≠ S) (hn : ys.size ≤ 1000) (hn0 : 0 < ys.size) (hxy : xs.size = ys.size + 1) (res : Value) (c₀ : Nat)
    (hz : IsZip s.heap z TI TO .none) (hTO : ∃ a b, IsPair s.heap TO a b) (hst : ZSt s.heap TI i1 i2 l1 l2 0 xs ys) (hSl : s.heap.get? S = some { cls := .type "list", data := .seq #[] c₀ })
    (hR : ∀ h' tk acc c as, (∀ b o, b ∉ [S, z, TO, i1, i2] → s.heap.get? b = some o → h'.get? b = some o) → h'.get? S = some { cls := .type "list", dict := none, data := .seq acc c, slots := #[] } → as.length = ys.size → PairsAt h' xs ys as → (∀ a ∈ as, s.heap.objs.size ≤ a) →
      acc.toList = as.map Value.ref → R (.ok (.ret res)) { s with heap := h', toks := tk }) :
    wpAny (model prog w) A.in1 (Builtin.List.listExtendWith (.ref S) (.ref z) res)
      (fun fin s' => match fin with | .done f => R (.ok f) s' | .again c' => c'.quiet = true ∧ codeAny (model prog w) A c' R s') (fun e s' => R (.error e) s') s := by
  have hT : s.TypeIs (.ref z) "zip" := ⟨_, hz, rfl⟩
  have nz : S ≠ z := (hS z (.head _)).symm
  unfold Builtin.List.listExtendWith
  refine wpAny_bind (wpAny_typeOf hT ?_)
  have h1 : Builtin.List.listSameRef (.ref S) (.ref z) = false := by simp [Builtin.List.listSameRef, nz]
  have h2 : (Value.type "zip" == Value.type "list") = false := by decide
  have h3 : (Value.type "zip" == Value.type "tuple") = false := by decide
  simp only [h1, h2, h3, Bool.or_false, Bool.false_eq_true, if_false]
  refine wpAny_bind (wpAny_pyIter_zip hz ?_)
  refine wpAny_bind (wpAny_holding (zip_hint hT ?_))
  simp only [Bool.true_or, if_true]
  refine wpAny_bind (wpAny_rule ?_)
  refine wpAny_bind ?_
  show wpAny _ _ (updateSeq S (·.push .none) >>= fun _ => updateSeq S (·.pop)) _ _ _
  refine wpAny_bind (wpAny_updateSeq hSl rfl ?_)
  have hS₂ := Heap.get?_update_self (Obj.mapSeq (·.push Value.none)) hSl rfl
  refine wpAny_updateSeq (hz := by seq_fits) hS₂ rfl ?_
  have hS₃ := Heap.get?_update_self (Obj.mapSeq (·.pop)) hS₂ rfl
  have oth : ∀ b o, b ≠ S → s.heap.get? b = some o → ((s.heap.update S (Obj.mapSeq (·.push Value.none))).update S (Obj.mapSeq (·.pop))).get? b = some o :=
    fun b o hb e => (Heap.get?_update_other _ _ (Ne.symm hb)).trans ((Heap.get?_update_other _ _ (Ne.symm hb)).trans e)
  obtain ⟨ta, tb, hTO⟩ := hTO
  refine wpAny_pure ⟨plainId_quiet PySem.F.plain_extend_loop _, zip_first (h₁ := s.heap) (s := s) (tk := s.toks) D hh hS hn hn0 hxy res (oth _ _ nz.symm hz) ⟨ta, tb, oth _ _ (hS TO (by simp)) hTO⟩ (hst.keep fun c hc o e => oth c o (hS c (by simp at hc ⊢; rcases hc with rfl | rfl | rfl | rfl | rfl <;> simp)) e) hS₃ (fun b o hb e => oth b o (fun q => hb (by simp [q])) e) (Nat.le_of_eq ((Heap.SameBut.update ..).1.trans (Heap.SameBut.update ..).1).symm) hR⟩
theorem zip_call {z TI TO i1 i2 l1 l2 : Addr} {xs ys : Array Value} {Q : Value → Shared → Prop} (D : ZipApart z TI TO i1 i2 l1 l2) (hh : A.handled = none) (hn : ys.size ≤ 1000) (hn0 : 0 < ys.size) (hxy : xs.size = ys.size + 1)
    (hz : IsZip s.heap z TI TO .none) (hTO : ∃ a b, IsPair s.heap TO a b) (hst : ZSt s.heap TI i1 i2 l1 l2 0 xs ys)
    (hQ : ∀ h' tk acc c as, (∀ b o, b ∉ [z, TO, i1, i2] → s.heap.get? b = some o → h'.get? b = some o) → h'.get? s.heap.objs.size = some { cls := .type "list", dict := none, data := .seq acc c, slots := #[] } → as.length = ys.size → PairsAt h' xs ys as → (∀ a ∈ as, s.heap.objs.size < a) →
      acc.toList = as.map Value.ref → Q (.ref s.heap.objs.size) { s with heap := h', toks := tk }) :
    wpAny (model prog w) A (call (.type "list") [.ref z]) Q E s := by
  refine callType_codes (Q₁ := fun obj s₁ => obj = .ref s.heap.objs.size ∧ s₁ = { s with heap := s.heap.push { cls := .type "list", data := .seq #[] } }) PySem.F.called_list (PySem.F.typeCall_list_1 _) PySem.F.entry_list_init
    (code_list_new _ ⟨rfl, rfl⟩) fun obj s₁ h₁ => ?_
  obtain ⟨rfl, rfl⟩ := h₁
  obtain ⟨ta, tb, hTO⟩ := hTO
  have hSl : (s.heap.push { cls := .type "list", data := .seq #[] }).get? s.heap.objs.size = some { cls := .type "list", data := .seq #[] } := Heap.get?_push_size _ rfl
  have pu : ∀ b o, s.heap.get? b = some o → (s.heap.push { cls := .type "list", data := .seq #[] }).get? b = some o := fun b o e => Heap.get?_push_of_some _ e
  have lt : ∀ {c o}, s.heap.get? c = some o → c ≠ s.heap.objs.size := fun e => Nat.ne_of_lt (Heap.lt_size e)
  have hS : ∀ c ∈ [z, TI, TO, i1, i2, l1, l2], c ≠ s.heap.objs.size := by
    intro c hc
    simp only [List.mem_cons, List.not_mem_nil, or_false] at hc
    rcases hc with rfl | rfl | rfl | rfl | rfl | rfl | rfl
    · exact lt hz
    · exact lt hst.ti
    · exact lt hTO
    · obtain ⟨o, e, _⟩ := hst.h1; exact lt e
    · obtain ⟨o, e, _⟩ := hst.h2; exact lt e
    · obtain ⟨o, e, _⟩ := hst.hl1; exact lt e
    · obtain ⟨o, e, _⟩ := hst.hl2; exact lt e
  refine ⟨⟨_, hSl, rfl⟩, PySem.F.args_list_init_2 _ _, ?_⟩
  show wpAny _ _ (do let old ← Builtin.List.listItems (.ref s.heap.objs.size); Builtin.List.listUpdate (.ref s.heap.objs.size) (fun _ => #[]); letGo old.toList.reverse; Builtin.List.listExtendWith (.ref s.heap.objs.size) (.ref z) .none) _ _ _
  refine wpAny_bind ?_
  unfold Builtin.List.listItems
  refine wpAny_bind (wpAny_seqItems hSl rfl (wpAny_pure ?_))
  show wpAny _ _ (updateSeq s.heap.objs.size (fun _ => #[]) >>= fun _ => letGo (#[] : Array Value).toList.reverse >>= fun _ => Builtin.List.listExtendWith (.ref s.heap.objs.size) (.ref z) .none) _ _ _
  refine wpAny_bind (wpAny_updateSeq hSl rfl ?_)
  have hS₂ := Heap.get?_update_self (Obj.mapSeq (fun _ => (#[] : Array Value))) hSl rfl
  have oth : ∀ b o, s.heap.get? b = some o → ((s.heap.push { cls := .type "list", data := .seq #[] }).update s.heap.objs.size (Obj.mapSeq (fun _ => (#[] : Array Value)))).get? b = some o :=
    fun b o e => (Heap.get?_update_other _ _ (Ne.symm (lt e))).trans (pu b o e)
  refine wpAny_bind (wpAny_letGo ?_)
  refine zip_extend (A := A.in1) (s := { s with heap := (s.heap.push { cls := .type "list", data := .seq #[] }).update s.heap.objs.size (Obj.mapSeq (fun _ => (#[] : Array Value))) }) D hh hS hn hn0 hxy .none _ (oth _ _ hz) ⟨ta, tb, oth _ _ hTO⟩ (hst.keep fun c _ o e => oth c o e) hS₂ fun h' tk acc c as hk hS' hl hP hge hacc => ?_
  refine ⟨rfl, hQ h' tk acc c as (fun b o hb e => hk b o ?_ (oth b o e)) hS' hl hP (fun a ha => ?_) hacc⟩
  rotate_left
  · have q := hge a ha
    have e1 : ((s.heap.push { cls := .type "list", data := .seq #[] }).update s.heap.objs.size (Obj.mapSeq (fun _ => (#[] : Array Value)))).objs.size = s.heap.objs.size + 1 := by rw [(Heap.SameBut.update ..).1, Heap.size_push]
    exact Nat.lt_of_lt_of_le (by show s.heap.objs.size < _; rw [e1]; exact Nat.lt_succ_self _) q
  simp only [List.mem_cons, not_or] at hb ⊢
  exact ⟨lt e, hb⟩
end
end

section
set_option maxRecDepth 100000
set_option maxHeartbeats 4000000
set_option linter.unusedVariables false
open PySem PySem.W PyProof.Rows PySem.Calls PySem.SeqAt
/-- the steps, in a ledger -/
inductive EdgeT : List (Int × Int) → List Value → List (Addr × Obj) → Prop
  | nil : EdgeT [] [] []
  | cons {es : List (Int × Int)} {vs : List Value} {T : List (Addr × Obj)} {a b : Int} {r : Addr} {t t' : Tok} : EdgeT es vs T → EdgeT ((a, b) :: es) (.ref r :: vs) ((r, tup (.int a t) (.int b t')) :: T)
theorem EdgeT.edges {g h : Heap} {L : Addr} : ∀ {es : List (Int × Int)} {vs : List Value} {T : List (Addr × Obj)}, EdgeT es vs T → News g L h T → Edges h es vs := by
  intro es vs T x
  induction x with
  | nil => intro _; trivial
  | cons _ ih => intro N; exact ⟨⟨_, _, _, rfl, (N _ (.head _)).1⟩, ih fun p hp => N p (.tail _ hp)⟩
theorem edgeT_of {h : Heap} : ∀ {as : List Addr} {xs ys : List Value} {ns ms : List Int}, IntsAre xs ns → IntsAre ys ms → as.length = ms.length → ms.length ≤ ns.length →
    (∀ (j : Nat) (a : Addr), as[j]? = some a → ∃ x y, xs[j]? = some x ∧ ys[j]? = some y ∧ h.get? a = some (tup x y)) →
    ∃ T, EdgeT (ns.zip ms) (as.map Value.ref) T ∧ ∀ p ∈ T, h.get? p.1 = some p.2 ∧ p.1 ∈ as
  | [], xs, ys, ns, ms, hx, hy, hl, _, _ => by
    cases hy with
    | nil => exact ⟨[], by rw [List.zip_nil_right]; exact .nil, fun p hp => nomatch hp⟩
    | cons _ _ _ => simp at hl
  | a :: as, xs, ys, ns, ms, hx, hy, hl, hle, hP => by
    cases hy with
    | nil => simp at hl
    | @cons m t' ys ms hy =>
      cases hx with
      | nil => simp at hle
      | @cons n t xs ns hx =>
        obtain ⟨T, h1, h2⟩ := edgeT_of (as := as) hx hy (by simpa using hl) (by simpa using hle) (fun j b hj => by
          obtain ⟨x, y, e1, e2, e3⟩ := hP (j + 1) b (by simpa using hj)
          exact ⟨x, y, by simpa using e1, by simpa using e2, e3⟩)
        obtain ⟨x, y, e1, e2, e3⟩ := hP 0 a rfl
        have e1 : Value.int n t = x := by simpa using e1
        have e2 : Value.int m t' = y := by simpa using e2
        subst e1
        subst e2
        refine ⟨(a, tup (.int n t) (.int m t')) :: T, .cons h1, fun p hp => ?_⟩
        rcases List.mem_cons.mp hp with rfl | hp
        · exact ⟨e3, .head _⟩
        · exact ⟨(h2 p hp).1, .tail _ (h2 p hp).2⟩
section
variable {prog : Program} {w : World} {A : Around} {g h : Heap} {gs : Array GenState} {d : Drawn} {tk : Nat} {os : OsState} {L it : Addr} {m : Str → Option Value} {news rest : List (Addr × Obj)} {E : Value → Shared → Prop} {env : Env}
/-- list(zip(row, row[1:])) -/
theorem listZipL {z TI TO i1 i2 l1 l2 : Addr} {xs ys : List Value} {ns ms : List Int} {c1 c2 : Nat} {a b : Value} {o1 o2 : Obj} {Q : Value → Shared → Prop} (D : ZipApart z TI TO i1 i2 l1 l2) (hh : A.handled = none) (F : Fr g L h m) (N : News g L h (zS z TI TO i1 i2 a b o1 o2 ++ news))
    (ok1 : listItOk l1 0 o1) (ok2 : listItOk l2 0 o2) (hap : ∀ p ∈ news, ∀ q ∈ [z, TI, TO, i1, i2], p.1 ≠ q) (e1 : h.get? l1 = some (listOf xs.toArray c1)) (e2 : h.get? l2 = some (listOf ys.toArray c2)) (hx : IntsAre xs ns) (hy : IntsAre ys ms) (hn : ms.length ≤ 1000) (hn0 : 0 < ms.length) (hl : ns.length = ms.length + 1)
    (hq : ∀ D' h' tk' vs c T, Fr g L h' m → News g L h' ((D', listOf vs.toArray c) :: T ++ news) → EdgeT (ns.zip ms) vs T → (∀ p ∈ news, p.1 ≠ D') → Q (.ref D') ⟨h', gs, d, tk', os⟩) :
    wpAny (model prog w) A (call (.type "list") [.ref z]) Q E ⟨h, gs, d, tk, os⟩ := by
  have lx := hx.length
  have ly := hy.length
  have n1 := N (z, _) (List.mem_append_left _ (.head _))
  have n2 := N (TI, _) (List.mem_append_left _ (.tail _ (.head _)))
  have n3 := N (TO, _) (List.mem_append_left _ (.tail _ (.tail _ (.head _))))
  have n4 := N (i1, _) (List.mem_append_left _ (.tail _ (.tail _ (.tail _ (.head _)))))
  have n5 := N (i2, _) (List.mem_append_left _ (.tail _ (.tail _ (.tail _ (.tail _ (.head _))))))
  have LL : L ≠ z ∧ L ≠ TO ∧ L ≠ i1 ∧ L ≠ i2 := ⟨n1.2.1.symm, n3.2.1.symm, n4.2.1.symm, n5.2.1.symm⟩
  refine zip_call (s := ⟨h, gs, d, tk, os⟩) (xs := xs.toArray) (ys := ys.toArray) D hh (by simp; omega) (by simp; omega) (by simp; omega) n1.1 ⟨a, b, n3.1⟩ ⟨n2.1, ⟨o1, n4.1, ok1.1, ok1.2⟩, ⟨o2, n5.1, ok2.1, ok2.2⟩, PySem.IsL.isList e1, PySem.IsL.isList e2⟩ fun h' tk' acc c as hk hS hal hP hge hacc => ?_
  have hk' : ∀ x o, x ≠ z → x ≠ TO → x ≠ i1 → x ≠ i2 → h.get? x = some o → h'.get? x = some o := fun x o a1 a2 a3 a4 e => hk x o (by simp [a1, a2, a3, a4]) e
  have F' := Fr.but4 F LL n1.2.2 n3.2.2 n4.2.2 n5.2.2 hk'
  obtain ⟨T, hT, hT2⟩ := edgeT_of (h := h') (as := as) hx hy (by rw [hal]; simpa using ly) (by omega) (fun j a hj => by
    obtain ⟨x, y, q1, q2, q3⟩ := hP j a hj
    exact ⟨x, y, by simpa using q1, by simpa using q2, q3⟩)
  have hLs : L < h.objs.size := F.ns.lt
  have fresh : ∀ x, h.objs.size ≤ x → x ≠ L ∧ g.get? x = none := fun x hx => ⟨Nat.ne_of_gt (Nat.lt_of_lt_of_le hLs hx), by
    cases e : g.get? x with
    | none => rfl
    | some o => exact absurd (Heap.lt_size (F.keep x o e)) (Nat.not_lt.mpr hx)⟩
  have hacc' : acc = (as.map Value.ref).toArray := by rw [← hacc, Array.toArray_toList]
  refine hq h.objs.size h' tk' (as.map Value.ref) c T F' ?_ hT ?_
  · intro p hp
    rcases List.mem_append.mp hp with hp | hp
    · rcases List.mem_cons.mp hp with rfl | hp
      · have f := fresh h.objs.size (Nat.le_refl _)
        rw [hacc'] at hS
        exact ⟨hS, f.1, f.2⟩
      · have q := hT2 p hp
        have f := fresh p.1 (Nat.le_of_lt (hge _ q.2))
        exact ⟨q.1, f.1, f.2⟩
    · have q := N p (List.mem_append_right _ hp)
      exact ⟨hk' _ _ (hap p hp z (by simp)) (hap p hp TO (by simp)) (hap p hp i1 (by simp)) (hap p hp i2 (by simp)) q.1, q.2⟩
  · intro p hp
    exact Nat.ne_of_lt (Heap.lt_size (N p (List.mem_append_right _ hp)).1)
/-- a slice of a list that is told by its kind alone -/
theorem sliceI {value slice : PySem.Expr} {l : Addr} {vs : List Value} {vl vu : Value} {lo hi : Option Int} {Q : Value → Shared → Prop} (F : Fr g L h m) (N : News g L h news) (hl : h.IsList l vs.toArray) (pl : IsPart vl lo) (pu : IsPart vu hi)
    (hq : ∀ D h', Fr g L h' m → News g L h' ((D, listOf (kms_pick vs lo hi).toArray 0) :: news) → (∀ p ∈ news, p.1 < D) → (∀ b o, h.get? b = some o → h'.get? b = some o) → Q (.ref D) ⟨h', gs, d, tk, os⟩) (hz : vs.length ≤ 1000)
    (hs : subscripted slice false (.ref l) (.ref h.objs.size) = operate [.ref h.objs.size, .ref l] (getItem (.ref l) (.ref h.objs.size)) := by with_unfolding_all rfl) (ht : ∀ r, letTemporaryGo value (.ref l) r = pure () := by intro _; rfl) :
    wpAny (model prog w) A (subscriptTail value slice (.ref l) (.ref h.objs.size)) Q E { heap := h.push { cls := .type "slice", data := .fields #[vl, vu, .none] }, gens := gs, drawn := d, toks := tk, os := os } := by
  refine slice_listK (s := ⟨h, gs, d, tk, os⟩) hl pl pu ?_ hs ht (by simp [sizeLine]; omega)
  have e1 : ∀ b o, h.get? b = some o → ((h.push { cls := .type "slice", data := .fields #[vl, vu, .none] }).push { cls := .type "list", data := .seq (slicePick vs.toArray lo hi none) }).get? b = some o := fun b o e => Heap.get?_push_of_some _ (Heap.get?_push_of_some _ e)
  have Fp := (F.push { cls := .type "slice", data := .fields #[vl, vu, .none] })
  have Np : News g L (h.push { cls := .type "slice", data := .fields #[vl, vu, .none] }) news := fun p hp => ⟨Heap.get?_push_of_some _ (N p hp).1, (N p hp).2⟩
  have q := hq (h.objs.size + 1) _ (Fp.push { cls := .type "list", data := .seq (slicePick vs.toArray lo hi none) }) ?_ (fun p hp => Nat.lt_succ_of_lt (Heap.lt_size (N p hp).1)) e1
  · exact q
  · have z := News.push Fp Np { cls := .type "list", data := .seq (slicePick vs.toArray lo hi none) }
    rw [psz] at z
    rw [kms_pick_eq] at z ⊢
    exact z
end
end

section
set_option maxRecDepth 100000
set_option maxHeartbeats 4000000
open PySem PySem.W PyProof.Rows PySem.Calls
theorem pick9 (vs : List Value) : kms_pick vs none (some 9) = vs.take 9 := by
  unfold kms_pick kms_lo kms_hi
  simp only [List.drop_zero, Nat.sub_zero, show ¬ ((9 : Int) < 0) by decide, if_false]
  by_cases h : 9 ≤ vs.length
  · rw [Nat.min_eq_left (by simpa using h)]; rfl
  · rw [Nat.min_eq_right (by simp; omega), List.take_of_length_le (Nat.le_refl _), List.take_of_length_le (by omega)]
theorem pick1 (vs : List Value) (h : 0 < vs.length) : kms_pick vs (some 1) none = vs.drop 1 := by
  unfold kms_pick kms_lo kms_hi
  simp only [show ¬ ((1 : Int) < 0) by decide, if_false]
  rw [Nat.min_eq_left (by show 1 ≤ vs.length; omega)]
  exact List.take_of_length_le (by rw [List.length_drop]; exact Nat.le_refl _)
theorem ints_take : ∀ (k : Nat) {vs : List Value} {ns : List Int}, IntsAre vs ns → IntsAre (vs.take k) (ns.take k)
  | 0, _, _, _ => .nil
  | k + 1, _, _, .nil => .nil
  | k + 1, _, _, .cons n t r => .cons n t (ints_take k r)
/-- [f(x) for x in numbers]: a turn -/
theorem law_walk {w : World} {mg mb : Str → Option Value} {A : Around} {g h : Heap} {gs : Array GenState} {d : Drawn} {tk : Nat} {os : OsState} {m : Str → Option Value} {env : Env}
    {p1 p2 p3 p4 p5 p6 p7 p8 p9 p10 p11 p12 p13 p14 p15 p16 p17 p18 p19 p20 p21 p22 p23 p24 p25 p26 p27 p28 p29 p30 p31 p32 p33 p34 p35 p36 p37 p38 p39 p40 p41 p42 p43 p44 p45 p46 p47 p48 p49 p50 p51 p52 p53 p54 p55 p56 p57 p58 p59 p60 p61 p62 p63 p64 p65 p66 p67 p68 p69 p70 p71 p72 : Pos} {i1 i2 i3 i4 i5 i6 i7 i8 i9 i10 i11 i12 i13 i14 : Nat} {sc : Addr} {svs : List Value} {ns : List Int} {Q : Flow → Shared → Prop}
    (V : FnEnv env) (F : Fr g env.locals h m) (N : News g env.locals h []) (hh : A.handled = none) (hA : A.depth + 300 < recursionLimit) (hu : A.units + 100 < cLine)
    (k_script : env.kindOf "script" = some .local) (k_numbers : env.kindOf "numbers" = some .local) (k_row : env.kindOf "row" = some .local) (k_steps : env.kindOf "steps" = some .local) (k_table : env.kindOf "table" = some .local) (k_list : env.kindOf "list" = some .globalImplicit) (k_zip : env.kindOf "zip" = some .globalImplicit) (k__law_links : env.kindOf "_law_links" = some .globalImplicit) (k__law_tour : env.kindOf "_law_tour" = some .globalImplicit) (k__law_best : env.kindOf "_law_best" = some .globalImplicit)
    (ms : m "script" = some (.ref sc)) (hsc : g.IsList sc svs.toArray) (hi : IntsAre svs ns) (hlen : ns.length ≤ 63)
    (hQ : ∀ h' tk' m', Fr g env.locals h' m' → Q (.ret (.bool true)) ⟨h', gs, d, tk', os⟩) :
    Gd (hd.heap_1 w.params) vw (looseW vw lo) mg mb g → wpAny (model PySem.Challenge.rw_il0096_01.row.prog w) A (execs [.Assign [(.Name "numbers" p9)] (.BinOp (.List [(.Constant (.int 1) i1 p1), (.Constant (.int 5) i2 p2)] p3) .Add (.Subscript (.Name "script" p4) (.Slice none (some (.Constant (.int 9) i3 p5)) none p6) p7) p8) p10,
      .Assign [(.Name "row" p23)] (.BinOp (.BinOp (.List [(.Constant (.int 0) i4 p11)] p12) .Add (.ListComp (.BinOp (.Name "x" p13) .Mod (.Constant (.int 5) i5 p14) p15) [⟨(.Name "x" p16), (.Name "numbers" p17), [], 0⟩] { kind := .function, names := [(PySem.Str.ofString ".0", .local), (PySem.Str.ofString "x", .local)], isGenerator := false, isCoroutine := false, more := [] } p18) p19) .Add (.List [(.Constant (.int 0) i6 p20)] p21) p22) p24,
      .Assign [(.Name "steps" p34)] (.Call (.Name "list" p25) [(.Call (.Name "zip" p26) [(.Name "row" p27), (.Subscript (.Name "row" p28) (.Slice (some (.Constant (.int 1) i7 p29)) none none p30) p31)] [] p32)] [] p33) p35,
      .Assign [(.Name "table" p50)] (.Call (.Name "_law_links" p36) [(.Name "steps" p37), (.BinOp (.ListComp (.BinOp (.BinOp (.Name "x" p38) .FloorDiv (.Constant (.int 5) i8 p39) p40) .Mod (.Constant (.int 4) i9 p41) p42) [⟨(.Name "x" p43), (.Name "numbers" p44), [], 0⟩] { kind := .function, names := [(PySem.Str.ofString ".0", .local), (PySem.Str.ofString "x", .local)], isGenerator := false, isCoroutine := false, more := [] } p45) .Add (.List [(.Constant (.int 0) i10 p46)] p47) p48)] [] p49) p51,
      .Return (some (.BoolOp .And [(.Compare (.Call (.Name "_law_tour" p53) [(.Name "table" p54), (.Constant (.bool false) i12 p55)] [] p56) [.Eq] [(.Call (.Name "_law_best" p57) [(.Name "steps" p58), (.Constant (.int 0) i11 p52)] [] p59)] p60), (.Compare (.Call (.Name "_law_tour" p63) [(.Name "table" p64), (.Constant (.bool true) i14 p65)] [] p66) [.Eq] [(.Call (.Name "_law_best" p67) [(.Name "steps" p68), (.UnaryOp .USub (.Constant (.int 1) i13 p61) p62)] [] p69)] p70)] p71)) p72] env) Q (fun _ _ => False) ⟨h, gs, d, tk, os⟩ := by
  k_fill
  intro Y
  have hsl := hi.length
  have hscF : ∀ {h' : Heap} {m' : Str → Option Value}, Fr g env.locals h' m' → h'.IsList sc svs.toArray := fun F' => hsc.at fun o e => F'.keep _ o e
  obtain ⟨Nu, hNu⟩ : ∃ Nu : List Int, Nu = [1, 5] ++ ns.take 9 := ⟨_, rfl⟩
  have hNl : Nu.length ≤ 11 := by rw [hNu, List.length_append, List.length_take]; simp; omega
  obtain ⟨R, hR⟩ : ∃ R : List Int, R = Nu.map fun x => x.fmod 5 := ⟨_, rfl⟩
  have hRl : R.length = Nu.length := by rw [hR, List.length_map]
  obtain ⟨SS, hSSd⟩ : ∃ SS : List Int, SS = (Nu.map fun x => (x.fdiv 5).fmod 4) ++ [0] := ⟨_, rfl⟩
  -- numbers
  refine wpAny_execs_cons ?_
  refine wpAny_Assign_Name ?_
  refine wpAny_BinOp ?_
  refine List_ ?_
  refine args_cons ?_
  refine cI ?_
  intro ta _
  refine args_cons ?_
  refine cI ?_
  intro tb _
  refine args_nil ?_
  refine newL F N (by simp) ?_
  intro D1 h1 F1 N1 _ _ _
  refine Subscript_ ?_
  refine lN V F1 k_script ms ?_
  refine wpAny_Slice ?_
  refine wpAny_pure ?_
  show wpAny _ _ (eval _ _) _ _ _
  refine cI ?_
  intro _ _
  refine wpAny_pure ?_
  refine sliceI F1 N1 (hscF F1) .none (.int _ _) ?_ (by omega)
  intro D2 h2 F2 N2 _ _
  rw [pick9] at N2
  refine addL F2 N2 (N2 _ (.tail _ (.head _))).1 (N2 _ (.head _)).1 ?_ (by simp; omega)
  intro D3 h3 F3 N3 _ _ _
  refine stE F3 N3 ?_ k_numbers V.c
  intro h4 tk4 F4 N4
  have N4 : News g env.locals h4 [(D3, listOf ([Value.int 1 ta, Value.int 5 tb] ++ svs.take 9).toArray 0)] := News.sub N4 (by simp)
  have iNu : IntsAre ([Value.int 1 ta, Value.int 5 tb] ++ svs.take 9) Nu := by
    rw [hNu]; exact IntsAre.append (.cons _ _ (.cons _ _ .nil)) (ints_take 9 hi)
  generalize hnv : [Value.int 1 ta, Value.int 5 tb] ++ svs.take 9 = nv at *
  have hnl := iNu.length
  clear N N1 N2 N3 F1 F2 F3
  -- row
  refine wpAny_execs_cons ?_
  refine wpAny_Assign_Name ?_
  refine wpAny_BinOp ?_
  refine wpAny_BinOp ?_
  refine List_ ?_
  refine args_cons ?_
  refine cI ?_
  intro tz _
  refine args_nil ?_
  refine newL F4 N4 (by simp) ?_
  intro D5 h5 F5 N5 _ _ _
  refine listComp (cl := []) (by with_unfolding_all rfl) rfl (by decide) ?_
  refine lN V F5 k_numbers (by walk_at "lk") ?_
  refine compList (xs := nv) Y F5 N5 (N5 _ (.tail _ (.head _))).1 (by omega) (fun k us => IntsAre us ((Nu.take k).map fun x => x.fmod 5)) .nil ?_ ?_ hh
  · intro k2 us g2 C h6 tk6 m6 o' nw it hk2 Y2 hgs2 hz2 F6 N6 hm6 ok6 hsl2
    have hk3 : k2 < Nu.length := by omega
    obtain ⟨tv, ev⟩ := intsGet iNu hk3
    rw [ev]
    have Vc : FnEnv (compEnvC { kind := .function, names := [(PySem.Str.ofString ".0", .local), (PySem.Str.ofString "x", .local)], isGenerator := false, isCoroutine := false, more := [] } [] C env) := ⟨rfl, by rfl, V.gl, V.bl⟩
    refine letGo_name ?_
    refine sN Vc F6 N6 (by rfl) ?_
    intro h7 tk7 F7 N7
    refine tests0 ?_
    simp only [if_true]
    refine wpAny_BinOp ?_
    refine lN Vc F7 (by rfl) (by walk_at "lk") ?_
    refine cI ?_
    intro _ _
    refine mod_int (s := ⟨_, _, _, _, _⟩) (by decide) ?_
    refine At.mk F7 N7 ⟨rfl, ?_⟩
    rw [List.take_succ_eq_append_getElem hk3, List.map_append, show Nu[k2] = Nu.getD k2 0 by rw [List.getD_eq_getElem?_getD, List.getElem?_eq_getElem hk3]; rfl]
    exact hsl2.append (.cons _ _ .nil)
  intro h6 tk6 D6 rv c6 F6 N6 hrv _ _ _
  rw [List.take_of_length_le (by omega), ← hR] at hrv
  have hrvl := hrv.length
  refine addL F6 N6 (N6 _ (.tail _ (.head _))).1 (N6 _ (.head _)).1 ?_ (by simp; omega)
  intro D7 h7 F7 N7 _ _ _
  refine List_ ?_
  refine args_cons ?_
  refine cI ?_
  intro ty _
  refine args_nil ?_
  refine newL F7 N7 (by simp) ?_
  intro D8 h8 F8 N8 _ _ _
  refine addL F8 N8 (N8 _ (.tail _ (.head _))).1 (N8 _ (.head _)).1 ?_ (by simp; omega)
  intro D9 h9 F9 N9 _ _ _
  refine stE F9 N9 ?_ k_row V.c
  intro h10 tk10 F10 N10
  have N10 : News g env.locals h10 [(D9, listOf ([Value.int 0 tz] ++ rv ++ [Value.int 0 ty]).toArray 0), (D3, listOf nv.toArray 0)] := News.sub N10 (by simp)
  have iRow : IntsAre ([Value.int 0 tz] ++ rv ++ [Value.int 0 ty]) (0 :: (R ++ [0])) := IntsAre.append (IntsAre.append (.cons _ _ .nil) hrv) (.cons _ _ .nil)
  generalize hrw : [Value.int 0 tz] ++ rv ++ [Value.int 0 ty] = rw_ at *
  have hrl := iRow.length
  simp only [List.length_cons, List.length_append, List.length_nil] at hrl
  have iRow1 : IntsAre (rw_.drop 1) (R ++ [0]) := by
    cases iRow with
    | cons _ _ r => exact r
  clear N4 F4 N5 F5 N6 F6 N7 F7 N8 F8 N9 F9
  -- steps
  refine wpAny_execs_cons ?_
  refine wpAny_Assign_Name ?_
  refine callTE V F10 Y (by k_dflt k_is) (by boot_fast) (by decide +kernel) k_list ?_
  refine args_cons ?_
  refine callTE V F10 Y (by k_dflt k_is) (by boot_fast) (by decide +kernel) k_zip ?_
  refine args_cons ?_
  refine lN V F10 k_row (by walk_at "lk") ?_
  refine args_cons ?_
  refine Subscript_ ?_
  refine lN V F10 k_row (by walk_at "lk") ?_
  refine wpAny_Slice ?_
  show wpAny _ _ (eval _ _) _ _ _
  refine cI ?_
  intro _ _
  refine wpAny_pure ?_
  refine wpAny_pure ?_
  refine sliceL F10 N10 (N10 _ (.head _)).1 (.int _ _) .none ?_ (by omega)
  intro D11 h11 F11 N11 _ _ _
  rw [pick1 _ (by omega)] at N11
  refine args_nil ?_
  refine zipL F11 N11 (N11 _ (.tail _ (.head _))).1 (N11 _ (.head _)).1 ?_
  intro z TI TO i1 i2 h12 o1 o2 DD F12 N12 ok1 ok2 hap
  refine args_nil ?_
  refine listZipL DD hh F12 N12 ok1 ok2 hap (N12 (D9, _) (List.mem_append_right _ (.tail _ (.head _)))).1 (N12 (D11, _) (List.mem_append_right _ (.head _))).1 iRow iRow1 (by simp; omega) (by simp) (by simp) ?_
  intro ls h13 tk13 vst cst T13 F13 N13 hET _
  rw [Zr_zip] at hET
  refine stE F13 N13 ?_ k_steps V.c
  intro h14 tk14 F14 N14
  have N14 : News g env.locals h14 ((ls, listOf vst.toArray cst) :: (D3, listOf nv.toArray 0) :: T13) := News.sub N14 (by
    intro p hp
    simp only [List.mem_cons, List.mem_append] at hp ⊢
    rcases hp with hp | hp | hp
    · exact .inl (.inl hp)
    · exact .inr (.inr (.inr (.inl hp)))
    · exact .inl (.inr hp))
  clear N10 F10 N11 F11 N12 F12 N13 F13
  -- table
  have hesl : (Zr 0 (R ++ [0])).length = Nu.length + 1 := by rw [Zr_length]; simp; omega
  have hSS : SS.length = (Zr 0 (R ++ [0])).length := by rw [hSSd, hesl]; simp
  have hR5 : ∀ x ∈ R ++ [0], V5 x := by
    intro x hx
    rcases List.mem_append.mp hx with hx | hx
    · rw [hR] at hx
      obtain ⟨y, _, rfl⟩ := List.mem_map.mp hx
      exact ⟨Int.fmod_nonneg_of_pos _ (by decide), Int.fmod_lt_of_pos _ (by decide)⟩
    · rw [List.mem_singleton.mp hx]; exact ⟨by decide, by decide⟩
  have hok : EOk (Zr 0 (R ++ [0])) := Zr_ok 0 _ ⟨by decide, by decide⟩ hR5
  have hbal : Bal (Zr 0 (R ++ [0])) 0 0 := by
    have := Zr_bal 0 (R ++ [0])
    rwa [show (0 :: (R ++ [0])).getLast (by simp) = 0 by rw [List.getLast_cons (by simp)]; simp] at this
  have h00 : ∃ x ∈ Zr 0 (R ++ [0]), x.1 = 0 := by
    cases hc : R ++ [0] with
    | nil => simp at hc
    | cons b l => exact ⟨(0, b), .head _, rfl⟩
  obtain ⟨Pfalse, hFfalse, hBfalse⟩ := FR.all (ord_refl false) (ord_least false) hbal (Zr_reach 0 _)
  obtain ⟨Ptrue, hFtrue, hBtrue⟩ := FR.all (ord_refl true) (ord_least true) hbal (Zr_reach 0 _)
  refine wpAny_execs_cons ?_
  refine wpAny_Assign_Name ?_
  refine callGE V F14 Y (by k_dflt k_is) (by k_dflt k_is) k__law_links ?_
  refine args_cons ?_
  refine lN V F14 k_steps (by walk_at "lk") ?_
  refine args_cons ?_
  refine wpAny_BinOp ?_
  refine listComp (cl := []) (by with_unfolding_all rfl) rfl (by decide) ?_
  refine lN V F14 k_numbers (by walk_at "lk") ?_
  refine compList (xs := nv) Y F14 N14 (N14 _ (.tail _ (.head _))).1 (by omega) (fun k us => IntsAre us ((Nu.take k).map fun x => (x.fdiv 5).fmod 4)) .nil ?_ ?_ hh
  · intro k2 us g2 C h6 tk6 m6 o' nw it hk2 Y2 hgs2 hz2 F6 N6 hm6 ok6 hsl2
    have hk3 : k2 < Nu.length := by omega
    obtain ⟨tv, ev⟩ := intsGet iNu hk3
    rw [ev]
    have Vc : FnEnv (compEnvC { kind := .function, names := [(PySem.Str.ofString ".0", .local), (PySem.Str.ofString "x", .local)], isGenerator := false, isCoroutine := false, more := [] } [] C env) := ⟨rfl, by rfl, V.gl, V.bl⟩
    refine letGo_name ?_
    refine sN Vc F6 N6 (by rfl) ?_
    intro h7 tk7 F7 N7
    refine tests0 ?_
    simp only [if_true]
    refine wpAny_BinOp ?_
    refine wpAny_BinOp ?_
    refine lN Vc F7 (by rfl) (by walk_at "lk") ?_
    refine cI ?_
    intro _ _
    refine fdivI (by decide) (by decide) ?_
    intro _ _
    refine cI ?_
    intro _ _
    refine mod_int (s := ⟨_, _, _, _, _⟩) (by decide) ?_
    refine At.mk F7 N7 ⟨rfl, ?_⟩
    rw [List.take_succ_eq_append_getElem hk3, List.map_append, show Nu[k2] = Nu.getD k2 0 by rw [List.getD_eq_getElem?_getD, List.getElem?_eq_getElem hk3]; rfl]
    exact hsl2.append (.cons _ _ .nil)
  intro h15 tk15 D15 sv c15 F15 N15 hsv _ _ _
  rw [List.take_of_length_le (by omega)] at hsv
  have hsvl := hsv.length
  rw [List.length_map] at hsvl
  refine List_ ?_
  refine args_cons ?_
  refine cI ?_
  intro tx _
  refine args_nil ?_
  refine newL F15 N15 (by simp) ?_
  intro D16 h16 F16 N16 _ _ _
  refine addL F16 N16 (N16 _ (.tail _ (.head _))).1 (N16 _ (.head _)).1 ?_ (by simp; omega)
  intro D17 h17 F17 N17 _ _ _
  refine args_nil ?_
  refine ⟨Y.X.keeps F17.keep, ?_⟩
  have hSSi : IntsAre (sv ++ [Value.int 0 tx]) SS := hSSd ▸ IntsAre.append hsv (.cons _ _ .nil)
  refine links_c w mg mb g A h17 gs d _ os ls D17 vst _ cst _ (Zr 0 (R ++ [0])) SS _ _ (by omega) hh (Kept.ofFr F17) (N17 (ls, _) (.tail _ (.tail _ (.tail _ (.head _))))).1 (N17 _ (.head _)).1 (hET.edges (News.sub N17 fun p hp => .tail _ (.tail _ (.tail _ (.tail _ (.tail _ hp)))))) hSSi hSS (by omega) hok ?_ Y
  intro h18 tk18 x dx lh th vs' cr T18 k18 elh nlh ex nx edx ndx q1 q2 q3 hRT hT18
  have F18 := fr_back0 F17 k18
  have fresh18 : ∀ p, h17.get? p = none → p ≠ env.locals ∧ g.get? p = none := by
    intro p hp
    constructor
    · rintro rfl
      obtain ⟨oL, _, _, q, _⟩ := F17.ns
      rw [hp] at q; cases q
    · cases hg : g.get? p with
      | none => rfl
      | some o' => rw [F17.keep p o' hg] at hp; cases hp
  have N18 : News g env.locals h18 ((x, instObj 182 dx) :: (lh, listOf vs'.toArray cr) :: (dx, hdrD w.params lh th) :: (ls, listOf vst.toArray cst) :: (T18 ++ T13)) := fun p hp => by
    rcases List.mem_cons.mp hp with rfl | hp
    · exact ⟨ex, fresh18 _ nx⟩
    rcases List.mem_cons.mp hp with rfl | hp
    · exact ⟨elh, fresh18 _ nlh⟩
    rcases List.mem_cons.mp hp with rfl | hp
    · exact ⟨edx, fresh18 _ ndx⟩
    rcases List.mem_cons.mp hp with rfl | hp
    · have z := N17 (ls, _) (.tail _ (.tail _ (.tail _ (.head _))))
      exact ⟨k18.get z.1, z.2⟩
    rcases List.mem_append.mp hp with hp | hp
    · have z := hT18 p hp
      exact ⟨z.1, fresh18 _ z.2⟩
    · have z := N17 p (.tail _ (.tail _ (.tail _ (.tail _ (.tail _ hp)))))
      exact ⟨k18.get z.1, z.2⟩
  refine stE F18 N18 ?_ k_table V.c
  intro h20 tk20 F20 N20
  clear N14 F14 N15 F15 N16 F16 N17 F17 N18 F18
  -- the two tours
  refine wpAny_execs_cons ?_
  refine wpAny_Return_some ?_
  refine wpAny_And2 ?_
  refine wpAny_Compare1 ?_
  refine callGE V F20 Y (by k_dflt k_is) (by k_dflt k_is) k__law_tour ?_
  refine args_cons ?_
  refine lN V F20 k_table (by walk_at "lk") ?_
  refine args_cons ?_
  refine wpAny_Constant_bool ?_
  refine args_nil ?_
  refine ⟨Y.X.keeps F20.keep, ?_⟩
  refine tour_c w mg mb g A h20 gs d _ os x dx lh th vs' cr (Zr 0 (R ++ [0])) SS false (0 :: Pfalse) _ _ (by omega) hh (Kept.ofFr F20) (N20 _ (.tail _ (.head _))).1 (N20 _ (.tail _ (.head _))).2.2 (N20 _ (.head _)).1 (N20 _ (.head _)).2.2 (N20 _ (.tail _ (.tail _ (.head _)))).1 (N20 _ (.tail _ (.tail _ (.head _)))).2.2 q1 q2 q3 (hRT.rows (News.sub N20 fun p hp => .tail _ (.tail _ (.tail _ (.tail _ (List.mem_append_left _ hp)))))) hSS (by omega) hok (fun e he => hbal.source he) h00 hFfalse (by omega) ?_ Y
  intro h21 tk21 Dt ut ct kt eDt nDt sut
  have F21 := fr_back0 F20 kt
  have N21 := News.back F20 N20 kt eDt nDt
  refine callGE V F21 Y (by k_dflt k_is) (by k_dflt k_is) k__law_best ?_
  refine args_cons ?_
  refine lN V F21 k_steps (by walk_at "lk") ?_
  refine args_cons ?_
  refine cI ?_
  intro _ _
  refine args_nil ?_
  refine ⟨Y.X.keeps F21.keep, ?_⟩
  refine best_c w mg mb g A h21 gs d _ os ls vst cst (Zr 0 (R ++ [0])) (0) _ Pfalse _ _ (by omega) hh (Kept.ofFr F21) (N21 _ (.tail _ (.tail _ (.tail _ (.tail _ (.head _)))))).1 (N21 _ (.tail _ (.tail _ (.tail _ (.tail _ (.head _)))))).2.2 (hET.edges (News.sub N21 fun p hp => .tail _ (.tail _ (.tail _ (.tail _ (.tail _ (List.mem_append_right _ hp))))))) (by omega) (by omega) (by decide) (hBfalse.best hok) (by have := (hBfalse.facts hok).1; omega) (hBfalse.facts hok).2 ?_ Y
  intro h22 tk22 Db ub cb kb eDb nDb sub
  have F22 := fr_back0 F21 kb
  have N22 := News.back F21 N21 kb eDb nDb
  refine eq_strsL (N22 _ (.tail _ (.head _))).1 (N22 _ (.head _)).1 sut sub (by omega) ?_
  refine wpAny_truthy_bool ?_
  simp only [if_true]
  have N22 := News.sub N22 (fun p hp => .tail _ (.tail _ hp))
  refine wpAny_Compare1 ?_
  refine callGE V F22 Y (by k_dflt k_is) (by k_dflt k_is) k__law_tour ?_
  refine args_cons ?_
  refine lN V F22 k_table (by walk_at "lk") ?_
  refine args_cons ?_
  refine wpAny_Constant_bool ?_
  refine args_nil ?_
  refine ⟨Y.X.keeps F22.keep, ?_⟩
  refine tour_c w mg mb g A h22 gs d _ os x dx lh th vs' cr (Zr 0 (R ++ [0])) SS true (0 :: Ptrue) _ _ (by omega) hh (Kept.ofFr F22) (N22 _ (.tail _ (.head _))).1 (N22 _ (.tail _ (.head _))).2.2 (N22 _ (.head _)).1 (N22 _ (.head _)).2.2 (N22 _ (.tail _ (.tail _ (.head _)))).1 (N22 _ (.tail _ (.tail _ (.head _)))).2.2 q1 q2 q3 (hRT.rows (News.sub N22 fun p hp => .tail _ (.tail _ (.tail _ (.tail _ (List.mem_append_left _ hp)))))) hSS (by omega) hok (fun e he => hbal.source he) h00 hFtrue (by omega) ?_ Y
  intro h23 tk23 Dt ut ct kt eDt nDt sut
  have F23 := fr_back0 F22 kt
  have N23 := News.back F22 N22 kt eDt nDt
  refine callGE V F23 Y (by k_dflt k_is) (by k_dflt k_is) k__law_best ?_
  refine args_cons ?_
  refine lN V F23 k_steps (by walk_at "lk") ?_
  refine args_cons ?_
  refine negI ?_
  intro _ _
  refine args_nil ?_
  refine ⟨Y.X.keeps F23.keep, ?_⟩
  refine best_c w mg mb g A h23 gs d _ os ls vst cst (Zr 0 (R ++ [0])) (-1) _ Ptrue _ _ (by omega) hh (Kept.ofFr F23) (N23 _ (.tail _ (.tail _ (.tail _ (.tail _ (.head _)))))).1 (N23 _ (.tail _ (.tail _ (.tail _ (.tail _ (.head _)))))).2.2 (hET.edges (News.sub N23 fun p hp => .tail _ (.tail _ (.tail _ (.tail _ (.tail _ (List.mem_append_right _ hp))))))) (by omega) (by omega) (by decide) (hBtrue.best hok) (by have := (hBtrue.facts hok).1; omega) (hBtrue.facts hok).2 ?_ Y
  intro h24 tk24 Db ub cb kb eDb nDb sub
  have F24 := fr_back0 F23 kb
  have N24 := News.back F23 N23 kb eDb nDb
  refine eq_strsL (N24 _ (.tail _ (.head _))).1 (N24 _ (.head _)).1 sut sub (by omega) ?_
  exact hQ _ _ _ F24
end

section
set_option maxRecDepth 100000
set_option maxHeartbeats 4000000
open PySem PySem.W PyProof.Rows PySem.Calls
theorem main : PySem.Challenge.rw_il0096_01.Holds := hd (by
  k_go0
  (with_reducible rename Fr _ _ _ _ => F)
  (with_reducible rename News _ _ _ _ => N)
  (with_reducible rename Frag.In _ _ => KX)
  (with_reducible rename Top _ _ _ _ _ _ => T)
  (with_reducible rename IntsAre _ _ => hI)
  (with_reducible rename Heap.IsList _ _ _ => hL)
  (with_reducible rename ¬ _ => hlen)
  refine wpAny_mono (law_walk (sc := _) (Q := fun fl s' => fl = .ret (.bool true) ∧ ∃ h' tk' m', s' = ⟨h', _, _, tk', _⟩ ∧ Fr _ _ h' m') ⟨rfl, by kernel_rfl!, rfl, rfl⟩ F N rfl (by show callerA.depth + 1 + 300 < recursionLimit; decide) (by show callerA.units + 3 + 100 < cLine; decide) (by kernel_rfl!) (by kernel_rfl!) (by kernel_rfl!) (by kernel_rfl!) (by kernel_rfl!) (by kernel_rfl!) (by kernel_rfl!) (by kernel_rfl!) (by kernel_rfl!) (by kernel_rfl!) rfl hL hI (by omega) (fun h' tk' m' F' => ⟨rfl, h', tk', m', rfl, F'⟩) ⟨KX, topRead_of T⟩) (fun fl s' q => ?_) (fun _ _ x => x.elim)
  obtain ⟨rfl, h', tk', m', rfl, F'⟩ := q
  refine goodW_bool F' (by assumption) (raisesW_false ?_) ?_
  · wrow_none_raised
  · wrow_post)
end

end
end Mine

theorem PySem.Challenge.cw_il0096_01_holds : PySem.Challenge.rw_il0096_01.Holds :=
  Mine.main
