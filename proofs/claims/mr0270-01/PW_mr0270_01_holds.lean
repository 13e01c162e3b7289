import PyProof.Rows.All
import Wide.All
import OpenK.AllK
import Wide.FinOn
import KE.KRevIter
import KE.KNest
import KE.KFind
import Lean
import PySem.Challenge.RW_mr0270_01
open PySem PySem.W PyProof.Rows PySem.Calls PySem.SeqAt
set_option Elab.async false
set_option linter.all false
set_option maxRecDepth 100000
set_option maxHeartbeats 4000000
set_option compiler.extract_closed false
namespace Mine
section
def viewQ : Program := { PySem.Challenge.pw_mr0270_01 with main := { PySem.Challenge.pw_mr0270_01.main with body := ((((PySem.Challenge.pw_mr0270_01.main.body.eraseIdx 13).eraseIdx 11).eraseIdx 10).eraseIdx 9).eraseIdx 0 } }
theorem law_said : PySem.Challenge.rw_mr0270_01.wellSaid = true := by
  unfold OpenLaw.wellSaid OpenRow.wellSaid OpenRow.partSaid looksOpen
  repeat' (with_reducible refine look_both ?_ ?_)
  all_goals decide +kernel
local macro_rules | `(tactic| o_law) => `(tactic| refine holds_law Mine.law_said fun said => ?_)
local macro_rules | `(tactic| o_head $H) => `(tactic| (
  refine holds_open (q := Mine.viewQ) (loose := [Str.ofString "nsmallest", Str.ofString "nlargest"]) (Xt := fun s => xlAt Mine.viewQ [] s && recOk (RowW.records (PySem.Challenge.rw_mr0270_01.row.toRowW)) s) (XP := XL Mine.viewQ []) (Yf := Hook.obs $H) (Ya := Hook.val $H) (YP := Hook.says $H) (N := 1294) ?hl (Hook.of $H) (Hook.keeps $H) (fun s e => xl_of s (Bool.and_eq_true_iff.mp e).1) XL.keeps (by rfl) (by rfl) (by rfl) (fun s e => recFacts_of (Bool.and_eq_true_iff.mp e).2) (by rfl) (by first | assumption | decide +kernel) (by decide +kernel) ⟨rfl, rfl, rfl, rfl, rfl, by decide +kernel⟩ ?hw ?hc
  (case hl => (refine fun w => ?_; kernel_rfl))
  ))
open_top hd for PySem.Challenge.rw_mr0270_01
end
section
section
variable {M : Model} {A : Around} {E : Value → Shared → Prop} {s : Shared} {env : Env}
theorem st_while {a b c d} {Q : Flow → Shared → Prop} (h : wpAny M A (exec (.While a b c d) env) Q E s) : wpAny M A (exec (.While a b c d) env) Q E s := h
theorem st_for {a b c d e} {Q : Flow → Shared → Prop} (h : wpAny M A (exec (.For a b c d e) env) Q E s) : wpAny M A (exec (.For a b c d e) env) Q E s := h
theorem st_if {a b c d} {Q : Flow → Shared → Prop} (h : wpAny M A (exec (.If a b c d) env) Q E s) : wpAny M A (exec (.If a b c d) env) Q E s := h
theorem st_ref {f l} {Q : Value → Shared → Prop} (h : wpAny M A (call (.ref f) l) Q E s) : wpAny M A (call (.ref f) l) Q E s := h
theorem st_refk {f l k} {Q : Value → Shared → Prop} (h : wpAny M A (call (.ref f) l k) Q E s) : wpAny M A (call (.ref f) l k) Q E s := h
theorem st_range {l} {Q : Value → Shared → Prop} (h : wpAny M A (call (.type "range") l) Q E s) : wpAny M A (call (.type "range") l) Q E s := h
theorem st_reversed {l} {Q : Value → Shared → Prop} (h : wpAny M A (call (.type "reversed") l) Q E s) : wpAny M A (call (.type "reversed") l) Q E s := h
theorem st_zip {l} {Q : Value → Shared → Prop} (h : wpAny M A (call (.type "zip") l) Q E s) : wpAny M A (call (.type "zip") l) Q E s := h
theorem st_getD {a b c d} {Q : Value → Shared → Prop} (h : wpAny M A (compareOp CmpOp.Lt (List.getD a b c) d) Q E s) : wpAny M A (compareOp CmpOp.Lt (List.getD a b c) d) Q E s := h
theorem st_bytes {a b d} {Q : Value → Shared → Prop} (h : wpAny M A (compareOp CmpOp.Lt (.bytes a b) d) Q E s) : wpAny M A (compareOp CmpOp.Lt (.bytes a b) d) Q E s := h
theorem st_ne {a b} {Q : Value → Shared → Prop} (h : wpAny M A (compareOp CmpOp.NotEq (.ref a) (.ref b)) Q E s) : wpAny M A (compareOp CmpOp.NotEq (.ref a) (.ref b)) Q E s := h
theorem st_comp {a b c d} {Q : Value → Shared → Prop} (h : wpAny M A (eval (.ListComp a b c d) env) Q E s) : wpAny M A (eval (.ListComp a b c d) env) Q E s := h
theorem st_acomp {t a b c d p} {Q : Flow → Shared → Prop} (h : wpAny M A (exec (.Assign t (.ListComp a b c d) p) env) Q E s) : wpAny M A (exec (.Assign t (.ListComp a b c d) p) env) Q E s := h
theorem st_addr {a b} {Q : Value → Shared → Prop} (h : wpAny M A (binaryOp .Add (.ref a) (.ref b)) Q E s) : wpAny M A (binaryOp .Add (.ref a) (.ref b)) Q E s := h
theorem st_append {l} {Q : Value → Shared → Prop} (h : wpAny M A (call (.builtin "list.append") l) Q E s) : wpAny M A (call (.builtin "list.append") l) Q E s := h
theorem st_iter {l} {Q : Value → Shared → Prop} (h : wpAny M A (call (.builtin "iter") l) Q E s) : wpAny M A (call (.builtin "iter") l) Q E s := h
theorem st_len {l} {Q : Value → Shared → Prop} (h : wpAny M A (call (.builtin "len") l) Q E s) : wpAny M A (call (.builtin "len") l) Q E s := h
theorem st_mil {a b c} {Q : Value → Shared → Prop} (h : wpAny M A (binaryOp .Mod (.int a b) (.int 1000000 c)) Q E s) : wpAny M A (binaryOp .Mod (.int a b) (.int 1000000 c)) Q E s := h
theorem st_mod {a b} {Q : Value → Shared → Prop} (h : wpAny M A (binaryOp .Mod a b) Q E s) : wpAny M A (binaryOp .Mod a b) Q E s := h
theorem st_pyIter {a} {Q : Value → Shared → Prop} (h : wpAny M A (pyIter a) Q E s) : wpAny M A (pyIter a) Q E s := h
theorem st_inplace {a b c} {Q : Value → Shared → Prop} (h : wpAny M A (inplaceOp a b c) Q E s) : wpAny M A (inplaceOp a b c) Q E s := h
theorem st_truthy {a} {Q : Bool → Shared → Prop} (h : wpAny M A (truthy (.ref a)) Q E s) : wpAny M A (truthy (.ref a)) Q E s := h
theorem st_sub {a b c d} {Q : Value → Shared → Prop} (h : wpAny M A (subscriptTail a b (.ref c) d) Q E s) : wpAny M A (subscriptTail a b (.ref c) d) Q E s := h
theorem st_asg {a b c d e} {Q : Unit → Shared → Prop} (h : wpAny M A (assign (.Tuple a b c) d e) Q E s) : wpAny M A (assign (.Tuple a b c) d e) Q E s := h
end
end
section
theorem bl_AttributeError (P : Params) : nsIn (hd.heap_1 P) mainGlobals (Str.ofString "AttributeError") = some none := by kernel_rfl
theorem bl_TypeError (P : Params) : nsIn (hd.heap_1 P) mainGlobals (Str.ofString "TypeError") = some none := by kernel_rfl
theorem bl_abs (P : Params) : nsIn (hd.heap_1 P) mainGlobals (Str.ofString "abs") = some none := by kernel_rfl
theorem bl_bytes (P : Params) : nsIn (hd.heap_1 P) mainGlobals (Str.ofString "bytes") = some none := by kernel_rfl
theorem bl_divmod (P : Params) : nsIn (hd.heap_1 P) mainGlobals (Str.ofString "divmod") = some none := by kernel_rfl
theorem bl_int (P : Params) : nsIn (hd.heap_1 P) mainGlobals (Str.ofString "int") = some none := by kernel_rfl
theorem bl_iter (P : Params) : nsIn (hd.heap_1 P) mainGlobals (Str.ofString "iter") = some none := by kernel_rfl
theorem bl_len (P : Params) : nsIn (hd.heap_1 P) mainGlobals (Str.ofString "len") = some none := by kernel_rfl
theorem bl_max (P : Params) : nsIn (hd.heap_1 P) mainGlobals (Str.ofString "max") = some none := by kernel_rfl
theorem bl_min (P : Params) : nsIn (hd.heap_1 P) mainGlobals (Str.ofString "min") = some none := by kernel_rfl
theorem bl_object (P : Params) : nsIn (hd.heap_1 P) mainGlobals (Str.ofString "object") = some none := by kernel_rfl
theorem bl_range (P : Params) : nsIn (hd.heap_1 P) mainGlobals (Str.ofString "range") = some none := by kernel_rfl
theorem bl_reversed (P : Params) : nsIn (hd.heap_1 P) mainGlobals (Str.ofString "reversed") = some none := by kernel_rfl
theorem bl_sorted (P : Params) : nsIn (hd.heap_1 P) mainGlobals (Str.ofString "sorted") = some none := by kernel_rfl
theorem bl_zip (P : Params) : nsIn (hd.heap_1 P) mainGlobals (Str.ofString "zip") = some none := by kernel_rfl
theorem gl103 (P : Params) : nsIn (hd.heap_1 P) mainGlobals (Str.ofString "_law_key") = some (some (.ref 103)) := by kernel_rfl
theorem gl110 (P : Params) : nsIn (hd.heap_1 P) mainGlobals (Str.ofString "_law_size") = some (some (.ref 110)) := by kernel_rfl
theorem gl117 (P : Params) : nsIn (hd.heap_1 P) mainGlobals (Str.ofString "_law_word") = some (some (.ref 117)) := by kernel_rfl
theorem gl124 (P : Params) : nsIn (hd.heap_1 P) mainGlobals (Str.ofString "_law_side") = some (some (.ref 124)) := by kernel_rfl
theorem gl129 (P : Params) : nsIn (hd.heap_1 P) mainGlobals (Str.ofString "_law_due") = some (some (.ref 129)) := by kernel_rfl
theorem gl21 (P : Params) : nsIn (hd.heap_1 P) mainGlobals (Str.ofString "heapreplace") = some (some (.ref 21)) := by kernel_rfl
theorem gl28 (P : Params) : nsIn (hd.heap_1 P) mainGlobals (Str.ofString "heapify") = some (some (.ref 28)) := by kernel_rfl
theorem gl35 (P : Params) : nsIn (hd.heap_1 P) mainGlobals (Str.ofString "_heapreplace_max") = some (some (.ref 35)) := by kernel_rfl
theorem gl42 (P : Params) : nsIn (hd.heap_1 P) mainGlobals (Str.ofString "_heapify_max") = some (some (.ref 42)) := by kernel_rfl
theorem gl49 (P : Params) : nsIn (hd.heap_1 P) mainGlobals (Str.ofString "_siftdown") = some (some (.ref 49)) := by kernel_rfl
theorem gl56 (P : Params) : nsIn (hd.heap_1 P) mainGlobals (Str.ofString "_siftup") = some (some (.ref 56)) := by kernel_rfl
theorem gl63 (P : Params) : nsIn (hd.heap_1 P) mainGlobals (Str.ofString "_siftdown_max") = some (some (.ref 63)) := by kernel_rfl
theorem gl70 (P : Params) : nsIn (hd.heap_1 P) mainGlobals (Str.ofString "_siftup_max") = some (some (.ref 70)) := by kernel_rfl
theorem gl76 (P : Params) : nsIn (hd.heap_1 P) mainGlobals (Str.ofString "nsmallest") = some (some (.ref 76)) := by kernel_rfl
theorem gl82 (P : Params) : nsIn (hd.heap_1 P) mainGlobals (Str.ofString "nlargest") = some (some (.ref 82)) := by kernel_rfl
theorem gl89 (P : Params) : nsIn (hd.heap_1 P) mainGlobals (Str.ofString "Int2AP") = some (some (.ref 89)) := by kernel_rfl
theorem gl96 (P : Params) : nsIn (hd.heap_1 P) mainGlobals (Str.ofString "_law_things") = some (some (.ref 96)) := by kernel_rfl
theorem kp103 (P : Params) : keepIn (hd.heap_1 P) (.ref 103) = true := by kernel_rfl
theorem kp110 (P : Params) : keepIn (hd.heap_1 P) (.ref 110) = true := by kernel_rfl
theorem kp117 (P : Params) : keepIn (hd.heap_1 P) (.ref 117) = true := by kernel_rfl
theorem kp124 (P : Params) : keepIn (hd.heap_1 P) (.ref 124) = true := by kernel_rfl
theorem kp129 (P : Params) : keepIn (hd.heap_1 P) (.ref 129) = true := by kernel_rfl
theorem kp21 (P : Params) : keepIn (hd.heap_1 P) (.ref 21) = true := by kernel_rfl
theorem kp28 (P : Params) : keepIn (hd.heap_1 P) (.ref 28) = true := by kernel_rfl
theorem kp35 (P : Params) : keepIn (hd.heap_1 P) (.ref 35) = true := by kernel_rfl
theorem kp42 (P : Params) : keepIn (hd.heap_1 P) (.ref 42) = true := by kernel_rfl
theorem kp49 (P : Params) : keepIn (hd.heap_1 P) (.ref 49) = true := by kernel_rfl
theorem kp56 (P : Params) : keepIn (hd.heap_1 P) (.ref 56) = true := by kernel_rfl
theorem kp63 (P : Params) : keepIn (hd.heap_1 P) (.ref 63) = true := by kernel_rfl
theorem kp70 (P : Params) : keepIn (hd.heap_1 P) (.ref 70) = true := by kernel_rfl
theorem kp76 (P : Params) : keepIn (hd.heap_1 P) (.ref 76) = true := by kernel_rfl
theorem kp82 (P : Params) : keepIn (hd.heap_1 P) (.ref 82) = true := by kernel_rfl
theorem kp89 (P : Params) : keepIn (hd.heap_1 P) (.ref 89) = true := by kernel_rfl
theorem kp96 (P : Params) : keepIn (hd.heap_1 P) (.ref 96) = true := by kernel_rfl
end
section
noncomputable abbrev NoE : Value → Shared → Prop := fun _ _ => False

structure Keep (ds : List Addr) (h h' : Heap) : Prop where
  get : ∀ b o, b ∉ ds → h.get? b = some o → h'.get? b = some o
  size : h.objs.size ≤ h'.objs.size

structure KeepS (ds : List Addr) (s s' : Shared) : Prop where
  keep : Keep ds s.heap s'.heap
  gens : s'.gens = s.gens
  os : s'.os = s.os

theorem Keep.refl {ds h} : Keep ds h h := ⟨fun _ _ _ e => e, Nat.le_refl _⟩
theorem Keep.trans {ds h h' h''} (a : Keep ds h h') (b : Keep ds h' h'') : Keep ds h h'' :=
  ⟨fun x o hx e => b.get x o hx (a.get x o hx e), Nat.le_trans a.size b.size⟩
theorem Keep.mono {ds ds' h h'} (a : Keep ds h h') (hs : ∀ d ∈ ds, d ∈ ds') : Keep ds' h h' :=
  ⟨fun x o hx e => a.get x o (fun q => hx (hs x q)) e, a.size⟩
theorem KeepS.refl {ds s} : KeepS ds s s := ⟨.refl, rfl, rfl⟩
theorem KeepS.trans {ds s s' s''} (a : KeepS ds s s') (b : KeepS ds s' s'') : KeepS ds s s'' :=
  ⟨a.keep.trans b.keep, b.gens.trans a.gens, b.os.trans a.os⟩
theorem KeepS.mono {ds ds' s s'} (a : KeepS ds s s') (hs : ∀ d ∈ ds, d ∈ ds') : KeepS ds' s s' := ⟨a.keep.mono hs, a.gens, a.os⟩

/-- the program's ground: its written part, the names -/
structure Gd (K : Frag) (p : Program) (loose : List Str) (mg mb : Str → Option Value) (h : Heap) : Prop where
  X : K.In h
  T : TopRead p loose mg mb h
theorem Gd.keeps {K p loose mg mb h h'} (G : Gd K p loose mg mb h) (k : ∀ b o, h.get? b = some o → h'.get? b = some o) : Gd K p loose mg mb h' :=
  ⟨G.X.keeps k, G.T.keeps k⟩

section
variable {prog : Program} {w : World} {A : Around} {E : Value → Shared → Prop} {s : Shared} {K : Frag} {p : Program} {loose : List Str} {mg mb : Str → Option Value}

theorem noE {α : Type} {M : Model} {t : Sem α} {Q : α → Shared → Prop} (h : wpAny M A t Q NoE s) : wpAny M A t Q E s :=
  wpAny_mono h (fun _ _ x => x) fun _ _ x => x.elim

theorem get_lt {h : Heap} {a : Addr} {o : Obj} (e : h.get? a = some o) : a < h.objs.size := Heap.lt_size e

/-- a call of a def of the text without cells -/
theorem enterD {h₀ : Heap} {Q : Value → Shared → Prop} {name qual : Str} {params : Arguments} {body : List Stmt} {scope : Scope} {dV kV doc pm cdv ct oc : Value} {an od : Option Addr} {osl : Array (Option Value)} {f : Addr} {pos : List Value} {kw : List (Str × Value)} {binds : List (Str × Value)}
    (ds : List Addr) (G : Gd K p loose mg mb h₀) (st : Keep [] h₀ s.heap) (hds : ∀ d ∈ ds, h₀.get? d = none)
    (ho : K.lookup f = some ⟨oc, od, .func (fnOf name qual params body scope dV kV doc pm an cdv ct), osl⟩) (hcd : codeIn K cdv qual = true) (hroom : A.depth < recursionLimit)
    (hbind : BindsTo s (fnOf name qual params body scope dV kV doc pm an cdv ct) ⟨pos, kw⟩ binds) (hloc : ∀ y ∈ binds, scope.names.lookup y.1 = some .local)
    (h : ∀ g L h₁, Fr g L h₁ (fun y => binds.reverse.lookup y) → Keep ds s.heap g → Gd K p loose mg mb g →
      (∀ b o, s.heap.get? b = some o → h₁.get? b = some o ∧ b ≠ L) → (∀ d ∈ ds, g.get? d = none) → Keep [] h₀ g →
      wpAny (model prog w) (A.deeper (envOf qual scope L f cdv)) (execs body (envOf qual scope L f cdv))
        (fun fl s' => (∃ m', Fr g L s'.heap m') ∧ (KeepS ds s s' → Q (match fl with | .ret v => v | _ => .none) s')
           ∧ s'.gens = s.gens ∧ s'.os = s.os) NoE
        { s with heap := h₁, toks := s.toks + binds.length })
    (hcell : ∀ x ∈ scope.names, x.2 ≠ .cell := by decide)
    (hco : scope.isCoroutine = false := by rfl) (hgen : scope.isGenerator = false := by rfl) (hk : scope.kind = .function := by rfl) :
    wpAny (model prog w) A (call (.ref f) pos kw) Q E s := by
  have X := G.X.keeps (fun b o e => st.get b o (by simp) e)
  refine wpAny_call (codeAny_call_def (fd := fnOf name qual params body scope dV kV doc pm an cdv ct) (body := body) (binds := binds) hroom (X _ _ ho) rfl (G.T.nolimit.keeps (fun b o e => st.get b o (by simp) e)) (codeRec_of X hcd) rfl hbind hcell hloc (fun h₁ hns hk₁ => ?_) hco hgen hk)
  have nm : ∀ b o, h₀.get? b = some o → b ∉ ds := fun b o e q => by rw [hds b q] at e; cases e
  have stg : ∀ b o, h₀.get? b = some o → (hideAll s.heap ds).get? b = some o := fun b o e => hideAll_get _ (st.get b o (by simp) e) (nm b o e)
  refine wpAny_mono (h (hideAll s.heap ds) s.heap.objs.size h₁ ⟨hns, fun b o e => hk₁ b o (of_hideAll _ e), Nat.le_of_eq (hideAll_size _ _)⟩
    ⟨fun b o hb e => hideAll_get _ e hb, Nat.le_of_eq (hideAll_size _ _).symm⟩ (G.keeps stg) (fun b o e => ⟨hk₁ b o e, Nat.ne_of_lt (Heap.lt_size e)⟩)
    (fun d hd => hideAll_none _ hd) ⟨fun b o _ e => stg b o e, by rw [hideAll_size]; exact st.size⟩) (fun fl s' hl => ?_) fun _ _ y => y.elim
  obtain ⟨⟨m', F'⟩, hq, hg, hos⟩ := hl
  refine hq ⟨⟨fun b o hb e => F'.keep b o (hideAll_get _ e hb), ?_⟩, hg, hos⟩
  obtain ⟨oL, _, _, hL, _⟩ := F'.ns
  exact Nat.le_of_lt (Heap.lt_size hL)

/-- a while by an invariant with a measure -/
theorem while_ {test : Expr} {body : List Stmt} {pos : Pos} {env : Env} {Q : Flow → Shared → Prop} (I : Nat → Shared → Prop) {n₀ : Nat} (h0 : I n₀ s)
    (turn : ∀ n s, I n s → wpAny (model prog w) A (isTrue test env (eval test env)) (fun b s₂ =>
        if b = true then wpAny (model prog w) A (execs body env) (fun f s₃ => match f with
            | .next | .cont => ∃ m, m < n ∧ I m s₃
            | .brk => Q .next s₃
            | .ret v => Q (.ret v) s₃) NoE s₂
        else Q .next s₂) NoE s) :
    wpAny (model prog w) A (exec (.While test body [] pos) env) Q NoE s := by
  refine wpAny_While (codeAny_whileLoop I ?_ n₀ h0)
  intro n s' hI
  refine wpAny_mono (turn n s' hI) (fun b s₂ h₂ => ?_) (fun _ _ x => x.elim)
  cases b with
  | false =>
    simp only [Bool.false_eq_true, if_false] at h₂ ⊢
    exact wpAny_execs_nil h₂
  | true =>
    simp only [if_true] at h₂ ⊢
    refine wpAny_mono h₂ (fun f s₃ h₃ => ?_) (fun _ _ x => x.elim)
    cases f <;> exact h₃
end
end
section
theorem allC {α : Type} {P : α → Prop} {a : α} {l : List α} (h : P a) (t : ∀ q ∈ l, P q) : ∀ q ∈ a :: l, P q := fun q hq => (List.mem_cons.mp hq).elim (fun e => e ▸ h) (t q)
theorem allNil {α : Type} {P : α → Prop} : ∀ q ∈ ([] : List α), P q := fun _ h => nomatch h
theorem noneIn {α : Type} {a : α} : a ∉ ([] : List α) := fun h => nomatch h
theorem notC {α : Type} {a b : α} {l : List α} (h : a ≠ b) (t : a ∉ l) : a ∉ b :: l := fun q => (List.mem_cons.mp q).elim h t
theorem notOf {α : Type} {a b : α} (h : a ∉ [b]) : a ≠ b := fun e => h (e ▸ .head _)
theorem newsB {g h : Heap} {L d : Addr} {o : Obj} {news : List (Addr × Obj)} (t : h.get? d = some o ∧ d ≠ L ∧ g.get? d = none) (N : News g L h news) : News g L h ((d, o) :: news) := allC (P := fun q : Addr × Obj => h.get? q.1 = some q.2 ∧ q.1 ≠ L ∧ g.get? q.1 = none) t N
theorem newsP {g h : Heap} {L : Addr} {q : Addr × Obj} {news : List (Addr × Obj)} (t : h.get? q.1 = some q.2 ∧ q.1 ≠ L ∧ g.get? q.1 = none) (N : News g L h news) : News g L h (q :: news) := newsB t N
theorem keepGoal {G : Prop} (h : ∀ P : Prop, (G → P) → P) : G := h G id
section
variable {prog : Program} {w : World} {A : Around} {E : Value → Shared → Prop} {s : Shared}
theorem absQ {α : Type} {M : Model} {t : Sem α} {Q : α → Shared → Prop} (h : ∀ R : α → Shared → Prop, (∀ a s', Q a s' → R a s') → wpAny M A t R E s) : wpAny M A t Q E s :=
  h Q fun _ _ x => x
theorem ite_join {α : Type} {M : Model} {c : Prop} [Decidable c] {a b : Sem α} {Q : α → Shared → Prop} (P : α → Shared → Prop) (h1 : c → wpAny M A a P E s) (h2 : ¬ c → wpAny M A b P E s) (h : ∀ v s', P v s' → Q v s') :
    if c then wpAny M A a Q E s else wpAny M A b Q E s := by
  split
  · exact wpAny_mono (h1 ‹_›) h fun _ _ x => x
  · exact wpAny_mono (h2 ‹_›) h fun _ _ x => x
/-- a while whose turn sees its post as a variable -/
theorem whileB {test : Expr} {body : List Stmt} {pos : Pos} {env : Env} {Q : Flow → Shared → Prop} (I : Nat → Shared → Prop) {n₀ : Nat} (h0 : I n₀ s)
    (turn : ∀ (T : Flow → Shared → Prop) (Z : Shared → Prop) (n : Nat), (∀ f s, (match f with
            | .next | .cont => ∃ m, m < n ∧ I m s
            | .brk => Q .next s
            | .ret v => Q (.ret v) s) → T f s) → (∀ s, Q .next s → Z s) → ∀ s, I n s → wpAny (model prog w) A (isTrue test env (eval test env)) (fun b s₂ =>
        if b = true then wpAny (model prog w) A (execs body env) T NoE s₂ else Z s₂) NoE s) :
    wpAny (model prog w) A (exec (.While test body [] pos) env) Q NoE s :=
  while_ I h0 fun n s hI => turn _ (Q .next) n (fun _ _ x => x) (fun _ x => x) s hI
end
end
section
section
variable {prog : Program} {w : World} {A : Around} {E : Value → Shared → Prop} {s : Shared} {p : Program} {loose : List Str} {mg mb : Str → Option Value}

noncomputable def CmpOk (prog : Program) (w : World) (t : Heap) (lt : Value → Value → Bool) (vs : List Value) : Prop :=
  ∀ x ∈ vs, ∀ y ∈ vs, ∀ (A : Around) (E : Value → Shared → Prop) (Q : Value → Shared → Prop) (s : Shared), A.units + 10 < cLine →
    (∀ b o, t.get? b = some o → s.heap.get? b = some o) → Q (.bool (lt x y)) s → wpAny (model prog w) A (compareOp .Lt x y) Q E s
theorem CmpOk.mono {t t' : Heap} {lt : Value → Value → Bool} {vs vs' : List Value} (C : CmpOk prog w t lt vs) (hs : ∀ b o, t.get? b = some o → t'.get? b = some o) (hv : ∀ v ∈ vs', v ∈ vs) : CmpOk prog w t' lt vs' :=
  fun x hx y hy A E Q s hu hk h => C x (hv x hx) y (hv y hy) A E Q s hu (fun b o e => hk b o (hs b o e)) h

noncomputable def KeptAnd (g : Heap) (s : Shared) (P : Prop) : Prop := (∀ b o, g.get? b = some o → s.heap.get? b = some o) ∧ P
theorem get1 {g h : Heap} {L d : Addr} {o : Obj} (N : News g L h [(d, o)]) : h.get? d = some o := (N _ (.head _)).1
theorem isList1 {g h : Heap} {L d : Addr} {xs : Array Value} {e : Nat} (N : News g L h [(d, listOf xs e)]) : h.IsList d xs := PySem.IsL.isList (n := e) (N _ (.head _)).1
theorem keepFr {g h : Heap} {L : Addr} {m : Str → Option Value} (F : Fr g L h m) : Keep [] g h :=
  ⟨fun b o _ e => F.keep b o e, Nat.le_trans F.above (by obtain ⟨oL, _, _, hL, _⟩ := F.ns; exact Nat.le_of_lt (Heap.lt_size hL))⟩
theorem frKeep {g h h' : Heap} {L : Addr} {ds : List Addr} {m : Str → Option Value} (F : Fr g L h m) (k : Keep ds h h') (hL : L ∉ ds) (hg : ∀ d ∈ ds, g.get? d = none) : Fr g L h' m := by
  obtain ⟨oL, es, ep, hL', r⟩ := F.ns
  exact ⟨⟨oL, es, ep, k.get _ _ hL hL', r⟩, fun b o e => k.get b o (fun q => by rw [hg b q] at e; cases e) (F.keep b o e), F.above⟩
theorem callWith_G {K : Frag} {env : Env} {pos : Pos} {f : Value} {Q : Value → Shared → Prop} {g : Heap} {e : Expr} {rest : List Expr} (G : Gd K p loose mg mb g) (hk : keepIn K f = true)
    (h : wpAny (model prog w) A (spliced (backTo pos (starEach (e :: rest) env))) (fun vs s₁ => KeptAnd g s₁ (wpAny (model prog w) A (call f vs) Q E s₁)) E s)
    (he : starEach (e :: rest) env = (false, eval e env) :: starEach rest env := by rfl) (hplain : (backTo pos (starEach rest env)).any (·.1) = false := by rfl) :
    wpAny (model prog w) A (callWith pos f [] (backTo pos (starEach (e :: rest) env)) []) Q E s :=
  callWith_K G.X hk (wpAny_mono h (fun _ _ x => ⟨G.X.keeps x.1, x.2⟩) fun _ _ x => x) he hplain

theorem setItem_1 {g : Heap} {L d : Addr} {m : Str → Option Value} {xs : List Value} {e k : Nat} {t : Tok} {v : Value} {Q : Unit → Shared → Prop}
    (F : Fr g L s.heap m) (N : News g L s.heap [(d, listOf xs.toArray e)]) (hk : k < xs.length) (hz : xs.length < 1000)
    (h : ∀ h', Fr g L h' m → News g L h' [(d, listOf (xs.set k v).toArray e)] → Q () { s with heap := h' }) :
    wpAny (model prog w) A (setItem (.ref d) (.int k t) v) Q E s := by
  have z := N (d, listOf xs.toArray e) (.head _)
  refine ki_setAt z.1 (by omega) (by omega) (by simp; omega) (h _ (F.change (Heap.SameBut.update ..) z.2.1 z.2.2) (ki_turn (pre := []) (post := []) _ N (by simp) (by simp) ?_ ?_))
  · simp
  · simp
theorem item_nat {value slice : Expr} {a : Addr} {l : List Value} {k : Nat} {u : Tok} {Q : Value → Shared → Prop} (hl : s.heap.IsList a l.toArray)
    (hk : k < l.length) (hz : l.length < 1000) (h : Q (l.getD k .none) s)
    (hs : subscripted slice false (.ref a) (.int k u) = operate [.ref a, .int k u] (getItem (.ref a) (.int k u)) := by with_unfolding_all rfl) (hg : ∀ r, letTemporaryGo value (.ref a) r = pure () := by intro _; with_unfolding_all rfl) :
    wpAny (model prog w) A (subscriptTail value slice (.ref a) (.int k u)) Q E s :=
  item_listL hl (by omega) (by omega) (by simp [hk]) h hs hg
theorem shr1 {q : Nat} {t u : Tok} {Q : Value → Shared → Prop} (hq : 1 ≤ q) (h : Q (.int ((q - 1) / 2 : Nat) s.toks) { s with toks := s.toks + 1 }) : wpAny (model prog w) A (binaryOp .RShift (.int ((q : Int) - 1) t) (.int 1 u)) Q E s := by
  refine rshift_int (by decide) ?_
  have e : ((q : Int) - 1).fdiv (2 ^ Int.toNat 1) = (((q - 1) / 2 : Nat) : Int) := by
    rw [Int.fdiv_eq_ediv_of_nonneg _ (by decide)]
    have : Int.toNat 1 = 1 := rfl
    rw [this]; omega
  rw [e]; exact h
theorem len_nat {a : Addr} {l : List Value} {Q : Value → Shared → Prop} (hl : s.heap.IsList a l.toArray) (hz : l.length < 1000)
    (h : Q (.int l.length (s.toks + 1)) { s with toks := s.toks + 1 + 1 }) : wpAny (model prog w) A (call (.builtin "len") [.ref a]) Q E s :=
  len_list hl (by simp only [List.size_toArray]; omega) (by simpa using h)
theorem mul2 {q : Nat} {t u : Tok} {Q : Value → Shared → Prop} (_ : q < 10000) (h : Q (.int (2 * q : Nat) s.toks) { s with toks := s.toks + 1 }) : wpAny (model prog w) A (binaryOp .Mult (.int 2 t) (.int (q : Int) u)) Q E s :=
  mul_int (by simpa using h)
theorem add1 {q : Nat} {t u : Tok} {Q : Value → Shared → Prop} (h : Q (.int (q + 1 : Nat) s.toks) { s with toks := s.toks + 1 }) : wpAny (model prog w) A (binaryOp .Add (.int (q : Int) t) (.int 1 u)) Q E s :=
  PyProof.Rows.add_int (by simpa using h)
theorem news1 {g L h d o} (h1 : h.get? d = some o) (h2 : d ≠ L) (h3 : g.get? d = none) : News g L h [(d, o)] := fun q hq => by
  simp only [List.mem_singleton] at hq; subst hq; exact ⟨h1, h2, h3⟩
end

/-- one turn of sifting towards the root -/
noncomputable def sdLoop (lt : Value → Value → Bool) (nv : Value) (sp : Nat) : Nat → List Value → Nat → List Value × Nat
  | 0, xs, pos => (xs, pos)
  | f + 1, xs, pos => if sp < pos then
      (if lt (xs.getD ((pos - 1) / 2) .none) nv = true then sdLoop lt nv sp f (xs.set pos (xs.getD ((pos - 1) / 2) .none)) ((pos - 1) / 2) else (xs, pos))
    else (xs, pos)
noncomputable def sd (lt : Value → Value → Bool) (xs : List Value) (sp pos : Nat) : List Value :=
  let r := sdLoop lt (xs.getD pos .none) sp (pos + 1) xs pos
  r.1.set r.2 (xs.getD pos .none)
noncomputable def suLoop (lt : Value → Value → Bool) (n : Nat) : Nat → List Value → Nat → List Value × Nat
  | 0, xs, pos => (xs, pos)
  | f + 1, xs, pos => if 2 * pos + 1 < n then
      (if 2 * pos + 1 + 1 < n ∧ ¬ lt (xs.getD (2 * pos + 1 + 1) .none) (xs.getD (2 * pos + 1) .none) = true then suLoop lt n f (xs.set pos (xs.getD (2 * pos + 1 + 1) .none)) (2 * pos + 1 + 1)
       else suLoop lt n f (xs.set pos (xs.getD (2 * pos + 1) .none)) (2 * pos + 1))
    else (xs, pos)
noncomputable def su (lt : Value → Value → Bool) (xs : List Value) (pos : Nat) : List Value :=
  let r := suLoop lt xs.length xs.length xs pos
  sd lt (r.1.set r.2 (xs.getD pos .none)) pos r.2
/-- sifting each of the first k places, from the last -/
noncomputable def hpf (lt : Value → Value → Bool) : Nat → List Value → List Value
  | 0, xs => xs
  | k + 1, xs => hpf lt k (su lt xs k)
noncomputable def heapify (lt : Value → Value → Bool) (xs : List Value) : List Value := hpf lt (xs.length / 2) xs
end
section
section
variable {prog : Program} {w : World} {A : Around} {E : Value → Shared → Prop} {s : Shared} {p : Program} {loose : List Str} {mg mb : Str → Option Value}

noncomputable abbrev rangeIt (x left step : Int) : Obj := { cls := .type "range_iterator", dict := none, data := .fields #[rawInt x, rawInt left, rawInt step], slots := #[] }

theorem call_range_reversed {r : Addr} {k : Nat} {t u v : Tok} {Q : Value → Shared → Prop} (hr : IsRange s.heap r 0 k 1 t u v) (hk : k < 1000)
    (h : Q (.ref s.heap.objs.size) { s with heap := s.heap.push (rangeIt ((k : Int) - 1) k (-1)) }) : wpAny (model prog w) A (call (.builtin "range.__reversed__") [.ref r]) Q E s := by
  have hT : s.TypeIs (.ref r) "range" := ⟨_, hr, rfl⟩
  refine wpAny_call_entry F.slot_range_reversed hT F.entry_range_reversed ?_ (F.args_range_reversed_1 _)
  unfold Builtin.«range.__reversed__»
  refine wpAny_bind (wpAny_of_eq (a := Value.ref r) rfl ?_)
  have hz : Builtin.Range.rangeSize 0 (k : Int) 1 = (k : Int) := by
    unfold Builtin.Range.rangeSize; split <;> (try split) <;> lia
  refine wpAny_bind ?_
  unfold Builtin.Range.rangeFields
  refine wpAny_bind (wpAny_field hr rfl (x := .int 0 t) rfl ?_)
  refine wpAny_bind (wpAny_of_eq (a := some (0 : Int)) rfl ?_)
  refine wpAny_bind (wpAny_field hr rfl (x := .int k u) rfl ?_)
  refine wpAny_bind (wpAny_of_eq (a := some (k : Int)) rfl ?_)
  refine wpAny_bind (wpAny_field hr rfl (x := .int 1 v) rfl ?_)
  refine wpAny_bind ?_
  show wpAny _ _ (pure (some (1 : Int))) _ _ _
  refine wpAny_pure ?_
  dsimp only
  refine wpAny_pure ?_
  dsimp only
  rw [hz]
  have hs : (Builtin.Range.rangeFitsLong 0 && Builtin.Range.rangeFitsLong (k : Int) && Builtin.Range.rangeFitsLong 1 && Builtin.Range.rangeFitsLong (-1) && Builtin.Range.rangeFitsLong (0 - 1) && Builtin.Range.rangeFitsLong (k : Int)) = true := by
    simp only [Builtin.Range.rangeFitsLong, Bool.and_eq_true, decide_eq_true_eq]; lia
  simp only [hs, Bool.not_true, Bool.false_eq_true, if_false, if_true]
  have e1 : (0 : Int) + ((k : Int) - 1) * 1 = (k : Int) - 1 := by lia
  rw [e1]
  exact wpAny_bind (wpAny_newObj_type (wpAny_pure ⟨_, rfl, h⟩))

theorem sub_ri_reversed : isSubtype (.type "range_iterator") (.type "reversed") = pure false := by rw [isSubtype_type]; kernel_rfl
theorem code_reversed_range {r : Addr} {k : Nat} {t u v : Tok} {Q₁ : Value → Shared → Prop} (hr : IsRange s.heap r 0 k 1 t u v) (hk : k < 1000)
    (h : Q₁ (.ref s.heap.objs.size) { s with heap := s.heap.push (rangeIt ((k : Int) - 1) k (-1)) }) :
    codeAny (model prog w) A (.call (.builtin "reversed.__new__") ⟨[.type "reversed", .ref r], []⟩) (wants Q₁ E) s := by
  have hT : s.TypeIs (.ref r) "range" := ⟨_, hr, rfl⟩
  refine codeAny_of_tree ?_
  rw [show A.under (.call (.builtin "reversed.__new__") ⟨[.type "reversed", .ref r], []⟩) = A.in1 from Around.under_plain rfl rfl]
  show wpAny _ A.in1 (do checkBuiltinCall "reversed.__new__" ⟨[.type "reversed", .ref r], []⟩; again (.builtin "reversed.__new__" ⟨[.type "reversed", .ref r], []⟩)) _ _ s
  refine wpAny_bind (wpAny_of_eq (F.newCall_reversed_1 _) (wpAny_pure ⟨plainId_quiet F.plain_reversed_new _, codeAny_builtin F.entry_reversed_new ?_⟩))
  rw [Around.under_plainId F.plain_reversed_new _]
  unfold Builtin.«reversed.__new__»
  refine wpAny_bind (wpAny_of_eq (newClass_reversed _) ?_)
  try dsimp only
  refine wpAny_bind (wpAny_of_eq (a := ()) (by first | rfl | kernel_rfl) ?_)
  refine wpAny_bind (wpAny_of_eq (a := ()) (by first | rfl | kernel_rfl) ?_)
  try dsimp only
  refine wpAny_bind (wpAny_specialOf hT F.slot_range_reversed.lookup ?_)
  try dsimp only
  refine wpAny_bind (wpAny_of_eq (F.slot_range_reversed.bind _) ?_)
  try dsimp only
  rw [if_neg (show ¬ ((Value.builtin "range.__reversed__" == Value.none) = true) from Bool.false_ne_true)]
  refine wpAny_bind (wpAny_rule ?_)
  refine wpAny_bind (m := runValue (.call (.builtin "range.__reversed__") ⟨[.ref r], []⟩)) (show wpAny _ _ (call (.builtin "range.__reversed__") [.ref r]) _ _ _ from call_range_reversed hr hk ?_)
  first
  | exact wpAny_pure h
  | exact wpAny_bind (wpAny_pure (wpAny_pure h))
theorem call_reversed_range {r : Addr} {k : Nat} {t u v : Tok} {Q : Value → Shared → Prop} (hr : IsRange s.heap r 0 k 1 t u v) (hk : k < 1000)
    (h : Q (.ref s.heap.objs.size) { s with heap := s.heap.push (rangeIt ((k : Int) - 1) k (-1)) }) : wpAny (model prog w) A (call (.type "reversed") [.ref r]) Q E s := by
  refine callType_other (U := "range_iterator") (Q₁ := fun obj s₁ => obj = .ref s.heap.objs.size ∧ s₁ = { s with heap := s.heap.push (rangeIt ((k : Int) - 1) k (-1)) }) (by decide +kernel) F.create_reversed ⟨_, _, F.mro_reversed⟩ F.made_reversed sub_ri_reversed (F.typeCall_reversed_1 _) (code_reversed_range hr hk ⟨rfl, rfl⟩) ?_
  rintro obj s₁ ⟨rfl, rfl⟩
  exact ⟨⟨_, Heap.get?_push_size _ rfl, rfl⟩, h⟩

/-- a for loop, by an invariant with a measure, behind its iterator -/
noncomputable def ForL (prog : Program) (w : World) (A : Around) (target : Expr) (it : Value) (body : List Stmt) (env : Env) (Q : Flow → Shared → Prop) (s : Shared) : Prop :=
  codeAny (model prog w) A (.forLoop target it body [] env) (fun r s' => match r with | .ok f => Q f s' | .error _ => False) s
theorem for_ {target iter : Expr} {body : List Stmt} {pos : Pos} {env : Env} {Q : Flow → Shared → Prop}
    (h : wpAny (model prog w) A (eval iter env) (fun x s₁ => wpAny (model prog w) A (pyIter x) (fun it s₂ => ForL prog w A target it body env Q s₂) NoE s₁) NoE s)
    (hs : ∀ x, foldedSetIterable iter env x = pure x := by intro _; rfl) :
    wpAny (model prog w) A (exec (.For target iter body [] pos) env) Q NoE s :=
  wpAny_For (wpAny_mono h (fun _ _ h1 => wpAny_mono h1 (fun _ _ h2 => codeAny_mono h2 (fun r _ h3 => by cases r with | ok f => exact h3 | error e => exact h3.elim)) fun _ _ e => e) fun _ _ e => e) hs
theorem forL {target : Expr} {it : Value} {body : List Stmt} {env : Env} {Q : Flow → Shared → Prop} (I : Nat → Shared → Prop) {n₀ : Nat} (h0 : I n₀ s)
    (turn : ∀ n s, I n s → wpAny (model prog w) A (pyNext it) (fun r s₁ => match r with
      | none => Q .next s₁
      | some v => wpAny (model prog w) A (assign target env v) (fun _ s₂ => wpAny (model prog w) A (execs body env) (fun f s₃ => match f with
          | .next | .cont => ∃ m, m < n ∧ I m s₃
          | .brk => Q .next s₃
          | .ret v => Q (.ret v) s₃) NoE s₂) NoE s₁) NoE s)
    (ht : ∀ v, letOwnedTupleGo target it v = pure () := by intro _; rfl) : ForL prog w A target it body env Q s := by
  refine codeAny_forLoop I (fun n s hI => ?_) n₀ h0 ht
  refine wpAny_mono (turn n s hI) (fun r s₁ h₁ => ?_) (fun _ _ x => x.elim)
  cases r with
  | none => exact wpAny_execs_nil h₁
  | some v =>
    refine wpAny_mono h₁ (fun _ s₂ h₂ => ?_) (fun _ _ x => x.elim)
    refine wpAny_mono h₂ (fun f s₃ h₃ => ?_) (fun _ _ x => x.elim)
    cases f <;> exact h₃

theorem forB {target : Expr} {it : Value} {body : List Stmt} {env : Env} {Q : Flow → Shared → Prop} (I : Nat → Shared → Prop) {n₀ : Nat} (h0 : I n₀ s)
    (turn : ∀ (T : Flow → Shared → Prop) (Z : Shared → Prop) (n : Nat), (∀ f s, (match f with
          | .next | .cont => ∃ m, m < n ∧ I m s
          | .brk => Q .next s
          | .ret v => Q (.ret v) s) → T f s) → (∀ s, Q .next s → Z s) → ∀ s, I n s → wpAny (model prog w) A (pyNext it) (fun r s₁ => match r with
      | none => Z s₁
      | some v => wpAny (model prog w) A (assign target env v) (fun _ s₂ => wpAny (model prog w) A (execs body env) T NoE s₂) NoE s₁) NoE s)
    (ht : ∀ v, letOwnedTupleGo target it v = pure () := by intro _; rfl) : ForL prog w A target it body env Q s :=
  forL I h0 (fun n s hI => turn _ (Q .next) n (fun _ _ x => x) (fun _ x => x) s hI) ht

theorem newsKeep {g h h' : Heap} {L : Addr} {ds : List Addr} {news : List (Addr × Obj)} (N : News g L h news) (k : Keep ds h h') (hn : ∀ q ∈ news, q.1 ∉ ds) : News g L h' news :=
  fun q hq => ⟨k.get _ _ (hn q hq) (N q hq).1, (N q hq).2⟩
theorem newsCons {g h : Heap} {L d : Addr} {o : Obj} {news : List (Addr × Obj)} (h1 : h.get? d = some o) (h2 : d ≠ L) (h3 : g.get? d = none) (N : News g L h news) : News g L h ((d, o) :: news) := fun q hq => by
  rcases List.mem_cons.mp hq with rfl | hq
  · exact ⟨h1, h2, h3⟩
  · exact N q hq
theorem newsSub {g h : Heap} {L : Addr} {news news' : List (Addr × Obj)} (N : News g L h news) (hs : ∀ q ∈ news', q ∈ news) : News g L h news' := fun q hq => N q (hs q hq)
theorem newsSet {g h h' : Heap} {L d : Addr} {news : List (Addr × Obj)} (N : News g L h news) (hs : Heap.SameBut d h h') (hn : ∀ q ∈ news, q.1 ≠ d) : News g L h' news :=
  fun q hq => ⟨(hs.2 q.1 (hn q hq)).trans (N q hq).1, (N q hq).2⟩
theorem keepSame {h h' : Heap} {d : Addr} (hs : Heap.SameBut d h h') : Keep [d] h h' := ⟨fun b o hb e => (hs.2 b (by simpa using hb)).trans e, Nat.le_of_eq hs.1.symm⟩
theorem keepExt {h h' : Heap} {d : Addr} (hs : Heap.ExtBut d h h') (hz : h.objs.size ≤ h'.objs.size) : Keep [d] h h' := ⟨fun b o hb e => hs b o (by simpa using hb) e, hz⟩
theorem newsNe {g h : Heap} {L : Addr} {news : List (Addr × Obj)} (N : News g L h news) : ∀ q ∈ news, q.1 ≠ h.objs.size := fun q hq => Nat.ne_of_lt (Heap.lt_size (N q hq).1)

theorem div_nat {a b : Nat} {t u : Tok} {Q : Value → Shared → Prop} (hb : 0 < b) (hb' : b < 1000000) (h : Q (.int (a / b : Nat) s.toks) { s with toks := s.toks + 1 }) : wpAny (model prog w) A (binaryOp .FloorDiv (.int (a : Int) t) (.int (b : Int) u)) Q E s := by
  refine floordiv_int (by lia) ?_ (Or.inl (PyProof.noPylong_small (by lia)))
  rw [Int.fdiv_eq_ediv_of_nonneg _ (by lia)]
  exact_mod_cast h
theorem range1_ {g : Heap} {L : Addr} {m : Str → Option Value} {news : List (Addr × Obj)} {n : Int} {t : Tok} {Q : Value → Shared → Prop} (F : Fr g L s.heap m) (N : News g L s.heap news)
    (h : ∀ r h' tk t1 t2, Fr g L h' m → News g L h' ((r, { cls := .type "range", data := .fields #[.int 0 t1, .int n t, .int 1 t2] }) :: news) → (∀ q ∈ news, q.1 ≠ r) → Q (.ref r) { s with heap := h', toks := tk }) :
    wpAny (model prog w) A (call (.type "range") [.int n t]) Q E s :=
  call_range_1 (h _ _ _ _ _ (F.push _) (N.push F _) (newsNe N))
theorem reversed_ {g : Heap} {L r : Addr} {m : Str → Option Value} {news : List (Addr × Obj)} {k : Nat} {t1 t t2 : Tok} {Q : Value → Shared → Prop} (F : Fr g L s.heap m) (N : News g L s.heap ((r, { cls := .type "range", data := .fields #[.int 0 t1, .int (k : Int) t, .int 1 t2] }) :: news)) (hk : k < 1000)
    (h : ∀ it h', Fr g L h' m → News g L h' ((it, rangeIt ((k : Int) - 1) k (-1)) :: news) → (∀ q ∈ news, q.1 ≠ it) → Q (.ref it) { s with heap := h' }) :
    wpAny (model prog w) A (call (.type "reversed") [.ref r]) Q E s :=
  call_reversed_range (N _ (.head _)).1 hk (h _ _ (F.push _) (News.push F (newsSub N fun _ hq => .tail _ hq) _) (fun q hq => newsNe N q (.tail _ hq)))
theorem frExt {g h h' : Heap} {L d : Addr} {m : Str → Option Value} (F : Fr g L h m) (he : Heap.ExtBut d h h') (hL : d ≠ L) (hg : g.get? d = none) : Fr g L h' m := by
  obtain ⟨oL, es, ep, hL', r⟩ := F.ns
  exact ⟨⟨oL, es, ep, he _ _ (Ne.symm hL) hL', r⟩, fun b o e => he b o (fun q => by rw [q, hg] at e; cases e) (F.keep b o e), F.above⟩
theorem newsExt {g h h' : Heap} {L d : Addr} {news : List (Addr × Obj)} (N : News g L h news) (he : Heap.ExtBut d h h') (hn : ∀ q ∈ news, q.1 ≠ d) : News g L h' news :=
  fun q hq => ⟨he _ _ (hn q hq) (N q hq).1, (N q hq).2⟩
theorem newList_ {g : Heap} {L : Addr} {m : Str → Option Value} {news : List (Addr × Obj)} {vs : List Value} {Q : Value → Shared → Prop} (F : Fr g L s.heap m) (N : News g L s.heap news) (hz : vs.length ≤ 1000)
    (h : ∀ r h', Fr g L h' m → News g L h' ((r, listOf vs.toArray 0) :: news) → (∀ q ∈ news, q.1 ≠ r) → Q (.ref r) { s with heap := h' }) : wpAny (model prog w) A (newList vs) Q E s :=
  newList_N F N (fun h' F' N' => h _ h' F' N' (newsNe N)) (by rw [sizeLine_eq]; lia)
theorem newTuple_ {g : Heap} {L : Addr} {m : Str → Option Value} {news : List (Addr × Obj)} {vs : List Value} {Q : Value → Shared → Prop} (F : Fr g L s.heap m) (N : News g L s.heap news) (hz : vs.length ≤ 1000)
    (h : ∀ r h', Fr g L h' m → News g L h' ((r, { cls := .type "tuple", data := .seq vs.toArray }) :: news) → (∀ q ∈ news, q.1 ≠ r) → Q (.ref r) { s with heap := h' }) : wpAny (model prog w) A (newTuple vs) Q E s :=
  newTuple_N F N (fun h' F' N' => h _ h' F' N' (newsNe N)) (by rw [sizeLine_eq]; lia)
theorem append_1 {g : Heap} {L d : Addr} {m : Str → Option Value} {news : List (Addr × Obj)} {xs : List Value} {e : Nat} {x : Value} {Q : Value → Shared → Prop} (F : Fr g L s.heap m) (N : News g L s.heap ((d, listOf xs.toArray e) :: news))
    (hn : ∀ q ∈ news, q.1 ≠ d) (hz : xs.length < 1000) (h : ∀ h', Fr g L h' m → News g L h' ((d, listOf (xs ++ [x]).toArray (e + 1)) :: news) → Q .none { s with heap := h' }) :
    wpAny (model prog w) A (call (.builtin "list.append") [.ref d, x]) Q E s :=
  append_K F N (.head hn) (fun h' F' N' => h h' F' (by simpa using N')) (by rw [sizeLine_eq]; simp; lia)
theorem div16 {a : Nat} {t u : Tok} {Q : Value → Shared → Prop} (h : Q (.int (a / 16 : Nat) s.toks) { s with toks := s.toks + 1 }) : wpAny (model prog w) A (binaryOp .FloorDiv (.int (a : Int) t) (.int 16 u)) Q E s := div_nat (b := 16) (by lia) (by lia) h
theorem div2 {a : Nat} {t u : Tok} {Q : Value → Shared → Prop} (h : Q (.int (a / 2 : Nat) s.toks) { s with toks := s.toks + 1 }) : wpAny (model prog w) A (binaryOp .FloorDiv (.int (a : Int) t) (.int 2 u)) Q E s := div_nat (b := 2) (by lia) (by lia) h
theorem div4 {a : Nat} {t u : Tok} {Q : Value → Shared → Prop} (h : Q (.int (a / 4 : Nat) s.toks) { s with toks := s.toks + 1 }) : wpAny (model prog w) A (binaryOp .FloorDiv (.int (a : Int) t) (.int 4 u)) Q E s := div_nat (b := 4) (by lia) (by lia) h
theorem mod_nat {a b : Nat} {t u : Tok} {Q : Value → Shared → Prop} (hb : 0 < b) (_ : b < 1000001) (h : Q (.int (a % b : Nat) s.toks) { s with toks := s.toks + 1 }) : wpAny (model prog w) A (binaryOp .Mod (.int (a : Int) t) (.int (b : Int) u)) Q E s := by
  refine mod_int' (by lia) ?_
  rw [Int.fmod_eq_emod_of_nonneg _ (by lia)]
  exact_mod_cast h
theorem mod16 {a : Nat} {t u : Tok} {Q : Value → Shared → Prop} (h : Q (.int (a % 16 : Nat) s.toks) { s with toks := s.toks + 1 }) : wpAny (model prog w) A (binaryOp .Mod (.int (a : Int) t) (.int 16 u)) Q E s := mod_nat (b := 16) (by lia) (by lia) h
theorem mod2 {a : Nat} {t u : Tok} {Q : Value → Shared → Prop} (h : Q (.int (a % 2 : Nat) s.toks) { s with toks := s.toks + 1 }) : wpAny (model prog w) A (binaryOp .Mod (.int (a : Int) t) (.int 2 u)) Q E s := mod_nat (b := 2) (by lia) (by lia) h
theorem mod20 {a : Nat} {t u : Tok} {Q : Value → Shared → Prop} (h : Q (.int (a % 20 : Nat) s.toks) { s with toks := s.toks + 1 }) : wpAny (model prog w) A (binaryOp .Mod (.int (a : Int) t) (.int 20 u)) Q E s := mod_nat (b := 20) (by lia) (by lia) h
theorem add65 {a : Nat} {t u : Tok} {Q : Value → Shared → Prop} (h : Q (.int (65 + a : Nat) s.toks) { s with toks := s.toks + 1 }) : wpAny (model prog w) A (binaryOp .Add (.int 65 t) (.int (a : Int) u)) Q E s :=
  PyProof.Rows.add_int (by simpa using h)
theorem max0_ {g : Heap} {L : Addr} {m : Str → Option Value} {news : List (Addr × Obj)} {x : Int} {t u : Tok} {Q : Value → Shared → Prop} (hh : A.handled = none) (F : Fr g L s.heap m) (N : News g L s.heap news)
    (h : ∀ h' tk tv, Fr g L h' m → News g L h' news → Q (.int (x.toNat : Nat) tv) { s with heap := h', toks := tk }) :
    wpAny (model prog w) A (call (.builtin "max") [.int 0 t, .int x u]) Q E s :=
  max_two_N hh F N (fun h' tk F' N' => by
    have := h h' tk (if x > 0 then u else t) F' N'
    have e : ((x.toNat : Nat) : Int) = if x > 0 then x else 0 := by split <;> lia
    rw [e] at this
    exact this)
theorem pow16_ {e : Nat} {t u : Tok} {Q : Value → Shared → Prop} (he : e ≤ 1000) (h : Q (.int (16 ^ e : Nat) s.toks) { s with toks := s.toks + 1 }) : wpAny (model prog w) A (binaryOp .Pow (.int 16 t) (.int (e : Int) u)) Q E s := by
  refine pow_int (by lia) ?_ ?_
  · have : Builtin.Int.intBits 16 = 5 := by decide +kernel
    rw [this]; lia
  · have e1 : ((16 ^ e : Nat) : Int) = (16 : Int) ^ (e : Int).toNat := by simp
    rw [e1] at h
    exact h
theorem mulNat_ {a b : Nat} {t u : Tok} {Q : Value → Shared → Prop} (ha : a < 1000000) (h : Q (.int (a * b : Nat) s.toks) { s with toks := s.toks + 1 }) : wpAny (model prog w) A (binaryOp .Mult (.int (a : Int) t) (.int (b : Int) u)) Q E s := by
  exact mul_int (by simpa using h) (IntMulOk.of_left (intBits_le_64 (by lia) (by lia)))
end
end
section
structure SWO (lt : Value → Value → Bool) : Prop where
  asymm : ∀ a b, lt a b = true → lt b a = false
  ntrans : ∀ a b c, lt a b = false → lt b c = false → lt a c = false
theorem SWO.flip {lt} (h : SWO lt) : SWO (fun a b => lt b a) := ⟨fun a b => h.asymm b a, fun a b c x y => h.ntrans c b a y x⟩
theorem SWO.trans {lt} (h : SWO lt) {a b c} (x : lt a b = true) (y : lt b c = true) : lt a c = true := by
  cases q : lt a c with
  | true => rfl
  | false => have := h.ntrans _ _ _ q (h.asymm _ _ y); rw [x] at this; cases this

theorem getD_set {xs : List Value} {q i : Nat} {v : Value} (hq : q < xs.length) : (xs.set q v).getD i .none = if i = q then v else xs.getD i .none := by
  simp only [List.getD_eq_getElem?_getD, List.getElem?_set]
  by_cases h : q = i
  · subst h; simp [hq]
  · rw [if_neg h, if_neg (fun e => h e.symm)]

/-- q lies under sp -/
inductive Desc (sp : Nat) : Nat → Prop
  | refl : Desc sp sp
  | left {q} : Desc sp q → Desc sp (2 * q + 1)
  | right {q} : Desc sp q → Desc sp (2 * q + 1 + 1)
theorem Desc.le {sp q} (h : Desc sp q) : sp ≤ q := by induction h <;> lia
theorem Desc.up {sp q} (h : Desc sp q) (hq : sp < q) : Desc sp ((q - 1) / 2) := by
  cases h with
  | refl => lia
  | left h => rename_i q; have : (2 * q + 1 - 1) / 2 = q := by lia
              rw [this]; exact h
  | right h => rename_i q; have : (2 * q + 1 + 1 - 1) / 2 = q := by lia
               rw [this]; exact h
theorem desc_zero : ∀ q, Desc 0 q := by
  intro q
  induction q using Nat.strongRecOn with
  | ind q ih =>
    rcases Nat.lt_or_ge 0 q with h | h
    · rcases Nat.mod_two_eq_zero_or_one q with h2 | h2
      · have := Desc.right (ih ((q - 2) / 2) (by lia))
        have e : 2 * ((q - 2) / 2) + 1 + 1 = q := by lia
        rw [e] at this; exact this
      · have := Desc.left (ih ((q - 1) / 2) (by lia))
        have e : 2 * ((q - 1) / 2) + 1 = q := by lia
        rw [e] at this; exact this
    · have : q = 0 := by lia
      subst this; exact .refl

/-- the heap order, for the nodes whose parent is k or behind -/
noncomputable def Hs (lt : Value → Value → Bool) (k : Nat) (z : List Value) : Prop :=
  ∀ i, 0 < i → i < z.length → k ≤ (i - 1) / 2 → lt (z.getD ((i - 1) / 2) .none) (z.getD i .none) = false

noncomputable def SdInv (lt : Value → Value → Bool) (sp : Nat) (z : List Value) (q : Nat) : Prop :=
  (∀ i, 0 < i → i < z.length → sp ≤ (i - 1) / 2 → i ≠ q → lt (z.getD ((i - 1) / 2) .none) (z.getD i .none) = false) ∧
  (sp < q → ∀ i, 0 < i → i < z.length → (i - 1) / 2 = q → lt (z.getD ((q - 1) / 2) .none) (z.getD i .none) = false)

theorem swap_perm {ys : List Value} {q c : Nat} (hq : q < ys.length) (hc : c < ys.length) (hne : q ≠ c) (nv : Value) : ((ys.set q (ys.getD c .none)).set c nv).Perm (ys.set q nv) := by
  have hz : (ys.set q nv).length = ys.length := List.length_set ..
  have h := List.set_set_perm (as := ys.set q nv) (i := q) (j := c) (by lia) (by lia)
  have e1 : (ys.set q nv)[c]'(by lia) = ys.getD c .none := by
    rw [List.getElem_set, if_neg hne]; simp [hc]
  have e2 : (ys.set q nv)[q]'(by lia) = nv := by rw [List.getElem_set, if_pos rfl]
  rw [e1, e2, List.set_set] at h
  exact h

theorem sdLoop_spec {lt : Value → Value → Bool} (O : SWO lt) {nv : Value} {sp : Nat} : ∀ (f : Nat) (ys : List Value) (q : Nat), q < f → q < ys.length →
    let r := sdLoop lt nv sp f ys q
    r.1.length = ys.length ∧ r.2 < ys.length ∧ (r.1.set r.2 nv).Perm (ys.set q nv) ∧ (Desc sp q → SdInv lt sp (ys.set q nv) q → Hs lt sp (r.1.set r.2 nv)) := by
  intro f
  induction f with
  | zero => intro ys q h; lia
  | succ f ih =>
    intro ys q hf hq
    unfold sdLoop
    by_cases hs : sp < q
    · rw [if_pos hs]
      have hpp : (q - 1) / 2 < ys.length := by lia
      by_cases hc : lt (ys.getD ((q - 1) / 2) .none) nv = true
      · rw [if_pos hc]
        have hl : (ys.set q (ys.getD ((q - 1) / 2) .none)).length = ys.length := List.length_set ..
        obtain ⟨h1, h2, h3, h4⟩ := ih (ys.set q (ys.getD ((q - 1) / 2) .none)) ((q - 1) / 2) (by lia) (by lia)
        refine ⟨h1.trans hl, by lia, h3.trans (swap_perm hq hpp (by lia) nv), fun D I => h4 (D.up hs) ?_⟩
        have hD := (D.up hs).le
        have g1 : ∀ i, (ys.set q nv).getD i .none = if i = q then nv else ys.getD i .none := fun i => getD_set hq
        have g2 : ∀ i, ((ys.set q (ys.getD ((q - 1) / 2) .none)).set ((q - 1) / 2) nv).getD i .none = if i = (q - 1) / 2 then nv else if i = q then ys.getD ((q - 1) / 2) .none else ys.getD i .none := fun i => by
          rw [getD_set (by lia), getD_set hq]
        have hl2 : (ys.set q nv).length = ys.length := List.length_set ..
        have hl3 : ((ys.set q (ys.getD ((q - 1) / 2) .none)).set ((q - 1) / 2) nv).length = ys.length := by simp
        obtain ⟨I1, I2⟩ := I
        simp only [g1, hl2] at I1 I2
        unfold SdInv
        simp only [g2, hl3]
        constructor
        · intro i i0 i1 i2 i3
          by_cases e1 : i = q
          · subst e1
            rw [if_pos rfl, if_neg i3, if_pos rfl]
            exact O.asymm _ _ hc
          · rw [if_neg i3, if_neg e1]
            by_cases e2 : (i - 1) / 2 = (q - 1) / 2
            · rw [if_pos e2]
              have b := I1 i i0 i1 i2 e1
              rw [if_neg (by lia), if_neg e1, e2] at b
              cases x : lt nv (ys.getD i .none) with
              | false => rfl
              | true => have := O.trans hc x; rw [b] at this; cases this
            · rw [if_neg e2]
              by_cases e3 : (i - 1) / 2 = q
              · rw [if_pos e3]
                have b := I2 hs i i0 i1 e3
                rw [if_neg (by lia), if_neg e1] at b
                exact b
              · rw [if_neg e3]
                have b := I1 i i0 i1 i2 e1
                rw [if_neg e3, if_neg e1] at b
                exact b
        · intro hs2 i i0 i1 i2
          rw [if_neg (by lia : ¬ ((q - 1) / 2 - 1) / 2 = (q - 1) / 2), if_neg (by lia : ¬ ((q - 1) / 2 - 1) / 2 = q), if_neg (by lia : ¬ i = (q - 1) / 2)]
          have b := I1 ((q - 1) / 2) (by lia) hpp ((D.up hs).up hs2).le (by lia)
          rw [if_neg (by lia), if_neg (by lia)] at b
          by_cases e1 : i = q
          · rw [if_pos e1]; exact b
          · rw [if_neg e1]
            have b2 := I1 i i0 i1 (by lia) e1
            rw [if_neg (by lia), if_neg e1, i2] at b2
            exact O.ntrans _ _ _ b b2
      · rw [if_neg hc]
        refine ⟨rfl, hq, .refl _, fun D I => ?_⟩
        intro i i0 i1 i2
        by_cases e1 : i = q
        · subst e1
          rw [getD_set hq, getD_set hq, if_neg (by lia), if_pos rfl]
          simpa using hc
        · exact I.1 i i0 i1 i2 e1
    · rw [if_neg hs]
      refine ⟨rfl, hq, .refl _, fun D I => ?_⟩
      intro i i0 i1 i2
      have := D.le
      exact I.1 i i0 i1 i2 (by lia)

noncomputable def SuInv (lt : Value → Value → Bool) (sp : Nat) (z : List Value) (q : Nat) : Prop :=
  (∀ i, 0 < i → i < z.length → sp ≤ (i - 1) / 2 → i ≠ q → (i - 1) / 2 ≠ q → lt (z.getD ((i - 1) / 2) .none) (z.getD i .none) = false) ∧
  (sp < q → ∀ i, 0 < i → i < z.length → (i - 1) / 2 = q → lt (z.getD ((q - 1) / 2) .none) (z.getD i .none) = false)

theorem suLoop_spec {lt : Value → Value → Bool} (O : SWO lt) {sp n : Nat} : ∀ (f : Nat) (ys : List Value) (q : Nat), ys.length = n → n ≤ q + f → q < n →
    let r := suLoop lt n f ys q
    r.1.length = n ∧ r.2 < n ∧ n ≤ 2 * r.2 + 1 ∧ q ≤ r.2 ∧ (∀ nv, (r.1.set r.2 nv).Perm (ys.set q nv)) ∧ (Desc sp q → Desc sp r.2) ∧ (Desc sp q → SuInv lt sp ys q → SuInv lt sp r.1 r.2) := by
  intro f
  induction f with
  | zero => intro ys q h h1 h2; lia
  | succ f ih =>
    intro ys q hn hf hq
    have step : ∀ c, c < n → q < c → (c - 1) / 2 = q → (Desc sp q → Desc sp c) → (∀ i, 0 < i → i < n → (i - 1) / 2 = q → i ≠ c → lt (ys.getD c .none) (ys.getD i .none) = false) →
        (let r := suLoop lt n f (ys.set q (ys.getD c .none)) c
        r.1.length = n ∧ r.2 < n ∧ n ≤ 2 * r.2 + 1 ∧ q ≤ r.2 ∧ (∀ nv, (r.1.set r.2 nv).Perm (ys.set q nv)) ∧ (Desc sp q → Desc sp r.2) ∧ (Desc sp q → SuInv lt sp ys q → SuInv lt sp r.1 r.2)) := by
      intro c hc hqc hpc hD hbest
      obtain ⟨h1, h2, h3, h4, h5, h6, h7⟩ := ih (ys.set q (ys.getD c .none)) c (by simp [hn]) (by lia) hc
      refine ⟨h1, h2, h3, by lia, fun nv => (h5 nv).trans (swap_perm (by lia) (by lia) (by lia) nv), fun D => h6 (hD D), fun D I => h7 (hD D) ?_⟩
      have g1 : ∀ i, (ys.set q (ys.getD c .none)).getD i .none = if i = q then ys.getD c .none else ys.getD i .none := fun i => getD_set (by lia)
      have hl : (ys.set q (ys.getD c .none)).length = n := by simp [hn]
      obtain ⟨I1, I2⟩ := I
      unfold SuInv
      simp only [g1, hl]
      rw [hn] at I1 I2
      constructor
      · intro i i0 i1 i2 i3 i4
        by_cases e1 : i = q
        · subst e1
          rw [if_neg (by lia), if_pos rfl]
          exact I2 (by lia) c (by lia) hc hpc
        · rw [if_neg e1]
          by_cases e2 : (i - 1) / 2 = q
          · rw [if_pos e2]; exact hbest i i0 i1 e2 i3
          · rw [if_neg e2]; exact I1 i i0 i1 i2 e1 e2
      · intro hs i i0 i1 i2
        rw [hpc, if_pos rfl, if_neg (by lia)]
        have b := I1 i i0 i1 (by have := D.le; lia) (by lia) (by lia)
        rw [i2] at b
        exact b
    unfold suLoop
    by_cases hc : 2 * q + 1 < n
    · rw [if_pos hc]
      by_cases hr : 2 * q + 1 + 1 < n ∧ ¬ lt (ys.getD (2 * q + 1 + 1) .none) (ys.getD (2 * q + 1) .none) = true
      · rw [if_pos hr]
        refine step _ hr.1 (by lia) (by lia) (fun D => .right D) ?_
        intro i i0 i1 i2 i3
        have : i = 2 * q + 1 := by lia
        subst this
        simpa using hr.2
      · rw [if_neg hr]
        refine step _ hc (by lia) (by lia) (fun D => .left D) ?_
        intro i i0 i1 i2 i3
        have : i = 2 * q + 1 + 1 := by lia
        subst this
        have : lt (ys.getD (2 * q + 1 + 1) .none) (ys.getD (2 * q + 1) .none) = true := by
          cases x : lt (ys.getD (2 * q + 1 + 1) .none) (ys.getD (2 * q + 1) .none) with
          | true => rfl
          | false => exact absurd ⟨i1, by rw [x]; exact Bool.false_ne_true⟩ hr
        exact O.asymm _ _ this
    · rw [if_neg hc]
      exact ⟨hn, hq, by lia, Nat.le_refl _, fun _ => .refl _, fun D => D, fun _ I => I⟩

theorem set_getD_self {xs : List Value} {q : Nat} (hq : q < xs.length) : xs.set q (xs.getD q .none) = xs := by
  have : xs.getD q .none = xs[q] := by simp [hq]
  rw [this, List.set_getElem_self]

theorem su_spec {lt : Value → Value → Bool} (O : SWO lt) {xs : List Value} {pos : Nat} (hp : pos < xs.length) :
    (su lt xs pos).length = xs.length ∧ (su lt xs pos).Perm xs ∧ (Hs lt (pos + 1) xs → Hs lt pos (su lt xs pos)) := by
  unfold su
  obtain ⟨h1, h2, h3, h4, h5, h6, h7⟩ := suLoop_spec O (sp := pos) xs.length xs pos rfl (by lia) hp
  generalize suLoop lt xs.length xs.length xs pos = r at h1 h2 h3 h4 h5 h6 h7
  dsimp only at h1 h2 h3 h4 h5 h6 h7 ⊢
  have hz : (r.1.set r.2 (xs.getD pos .none)).length = xs.length := by simp [h1]
  have hg : (r.1.set r.2 (xs.getD pos .none)).getD r.2 .none = xs.getD pos .none := by rw [getD_set (by lia), if_pos rfl]
  unfold sd
  obtain ⟨k1, k2, k3, k4⟩ := sdLoop_spec O (nv := (r.1.set r.2 (xs.getD pos .none)).getD r.2 .none) (sp := pos) (r.2 + 1) (r.1.set r.2 (xs.getD pos .none)) r.2 (by lia) (by lia)
  generalize sdLoop lt ((r.1.set r.2 (xs.getD pos .none)).getD r.2 .none) pos (r.2 + 1) (r.1.set r.2 (xs.getD pos .none)) r.2 = t at k1 k2 k3 k4
  dsimp only at k1 k2 k3 k4 ⊢
  rw [hg] at k3 k4 ⊢
  rw [List.set_set] at k3 k4
  have pm : (r.1.set r.2 (xs.getD pos .none)).Perm xs := by
    have := h5 (xs.getD pos .none)
    rw [set_getD_self hp] at this; exact this
  refine ⟨by rw [List.length_set]; exact k1.trans hz, k3.trans pm, fun H => k4 (h6 .refl) ?_⟩
  have J := h7 .refl ⟨fun i i0 i1 i2 i3 i4 => H i i0 i1 (by lia), fun h => by lia⟩
  refine ⟨fun i i0 i1 i2 i3 => ?_, fun _ i i0 i1 i2 => ?_⟩
  · rw [hz] at i1
    have : (i - 1) / 2 ≠ r.2 := by lia
    rw [getD_set (by lia), getD_set (by lia), if_neg this, if_neg i3]
    exact J.1 i i0 (by lia) i2 i3 this
  · rw [hz] at i1; lia

theorem hpf_spec {lt : Value → Value → Bool} (O : SWO lt) : ∀ (k : Nat) (xs : List Value), k ≤ xs.length → Hs lt k xs → (hpf lt k xs).length = xs.length ∧ (hpf lt k xs).Perm xs ∧ Hs lt 0 (hpf lt k xs)
  | 0, xs, _, H => ⟨rfl, .refl _, H⟩
  | k + 1, xs, hk, H => by
    obtain ⟨h1, h2, h3⟩ := su_spec O (xs := xs) (pos := k) (by lia)
    obtain ⟨k1, k2, k3⟩ := hpf_spec O k (su lt xs k) (by lia) (h3 H)
    exact ⟨k1.trans h1, k2.trans h2, k3⟩
theorem heapify_spec {lt : Value → Value → Bool} (O : SWO lt) (xs : List Value) : (heapify lt xs).length = xs.length ∧ (heapify lt xs).Perm xs ∧ Hs lt 0 (heapify lt xs) :=
  hpf_spec O _ xs (by lia) (fun i i0 i1 i2 => by lia)
theorem hs_root {lt : Value → Value → Bool} (O : SWO lt) {z : List Value} (H : Hs lt 0 z) (hirr : ∀ a, lt a a = false) : ∀ i, i < z.length → lt (z.getD 0 .none) (z.getD i .none) = false := by
  intro i
  induction i using Nat.strongRecOn with
  | ind i ih =>
    intro hi
    rcases Nat.lt_or_ge 0 i with h | h
    · exact O.ntrans _ _ _ (ih ((i - 1) / 2) (by lia) (by lia)) (H i h hi (Nat.zero_le _))
    · have : i = 0 := by lia
      subst this; exact hirr _
theorem SWO.irrefl {lt} (O : SWO lt) (a : Value) : lt a a = false := by
  cases x : lt a a with
  | false => rfl
  | true => have := O.asymm _ _ x; rw [x] at this; cases this
theorem su_length {lt xs pos} (O : SWO lt) (hp : pos < xs.length) : (su lt xs pos).length = xs.length := (su_spec O hp).1
theorem su_mem {lt xs pos} (O : SWO lt) (hp : pos < xs.length) (y : Value) : y ∈ su lt xs pos ↔ y ∈ xs := (su_spec O hp).2.1.mem_iff
end
section
section
variable {prog : Program} {w : World} {A : Around} {E : Value → Shared → Prop} {s : Shared} {p : Program} {loose : List Str} {mg mb : Str → Option Value} {env : Env}

theorem compLoop_ {R : Result → Shared → Prop} {elt target iter : Expr} {scope : Scope} {pos : Pos} {it acc : Value} {env : Env} (I : Nat → Shared → Prop)
    (turn : ∀ n s, I n s → wpAny (model prog w) A (pyNext it) (fun r s₁ => match r with
      | none => R (.ok .next) s₁
      | some v => wpAny (model prog w) A (letOwnedTupleGo target it v) (fun _ s₅ => wpAny (model prog w) A (assign target env v) (fun _ s₂ => wpAny (model prog w) A (eval elt env) (fun x s₃ =>
          wpAny (model prog w) A (call (.builtin "list.append") [acc, x]) (fun _ s₄ => ∃ m, m < n ∧ I m s₄) NoE s₃) NoE s₂) NoE s₅) NoE s₁) NoE s)
    (n : Nat) (h : I n s) :
    codeAny (model prog w) A (.compLoop (.ListComp elt [⟨target, iter, [], 0⟩] scope pos) 0 it acc env) R s := by
  refine codeAny_loop rfl I (fun n s hI => ?_) n h
  show wpAny _ _ ((compTurn (.ListComp elt [⟨target, iter, [], 0⟩] scope pos) 0 it acc env).onRaise (fun x => do noteFrame x env; theTreesLotGoes x)) _ _ s
  refine wpAny_noted ?_
  rw [compTurn_list1]
  refine wpAny_bind (wpAny_standAt (wpAny_bind (wpAny_mono (turn n s hI) (fun r s₁ h₁ => ?_) fun _ _ h' => h'.elim)))
  cases r with
  | none => exact wpAny_pure h₁
  | some v =>
    exact wpAny_bind (wpAny_mono h₁ (fun _ s₅ h₅ => wpAny_bind (wpAny_mono h₅ (fun _ s₂ h₂ => wpAny_bind (wpAny_bind (wpAny_mono h₂ (fun x s₃ h₃ => wpAny_bind (wpAny_mono h₃
      (fun _ s₄ h₄ => wpAny_pure (wpAny_pure ⟨rfl, h₄⟩)) fun _ _ h' => h'.elim)) fun _ _ h' => h'.elim))) fun _ _ h' => h'.elim)) fun _ _ h' => h'.elim)

/-- a comprehension's block: its list D, its names at C, upon a ground that keeps all but ds -/
noncomputable def CompD (prog : Program) (w : World) (A : Around) (elt target : Expr) (scope : Scope) (cl : List (Str × Addr)) (env : Env) (Q : Value → Shared → Prop) (it : Value) (s₂ : Shared) (ds : List Addr) : Prop :=
  (∀ d ∈ ds, (s₂.heap.get? d).isSome) ∧ ∀ gc D C h₁, Fr gc C h₁ (fun _ => none) → h₁.get? D = some (listOf #[] 0) → D ≠ C → gc.get? D = none → (∀ d ∈ ds, gc.get? d = none ∧ d ≠ C ∧ d ≠ D) →
    Keep ds s₂.heap gc → (∀ b o, s₂.heap.get? b = some o → h₁.get? b = some o ∧ b ≠ C ∧ b ≠ D) →
    ∃ (I : Nat → Shared → Prop) (n₀ : Nat), I n₀ { s₂ with heap := h₁ } ∧ (∀ Q', Q' it { s₂ with heap := h₁ } → wpAny (model prog w) A (pyIter it) Q' NoE { s₂ with heap := h₁ }) ∧
      ∀ n s, I n s → wpAny (model prog w) A (pyNext it) (fun r s₁ => match r with
        | none => (∃ m, Fr gc C s₁.heap m) ∧ s₁.gens = s₂.gens ∧ s₁.os = s₂.os ∧ (∀ s', KeepS ds s₂ s' → (∀ b, b ≠ C → s'.heap.get? b = s₁.heap.get? b) → Q (.ref D) s')
        | some v => wpAny (model prog w) A (letOwnedTupleGo target it v) (fun _ s₅ => wpAny (model prog w) A (assign target (compEnvC scope cl C env) v) (fun _ s₂ => wpAny (model prog w) A (eval elt (compEnvC scope cl C env)) (fun x s₃ =>
            wpAny (model prog w) A (call (.builtin "list.append") [.ref D, x]) (fun _ s₄ => ∃ m, m < n ∧ I m s₄) NoE s₃) NoE s₂) NoE s₅) NoE s₁) NoE s

noncomputable def CompB (prog : Program) (w : World) (A : Around) (elt target : Expr) (scope : Scope) (cl : List (Str × Addr)) (env : Env) (Q : Value → Shared → Prop) (it : Value) (s₂ : Shared) : Prop :=
  ∃ ds : List Addr, CompD prog w A elt target scope cl env Q it s₂ ds

theorem comp_ {elt target iter : Expr} {scope : Scope} {cl : List (Str × Addr)} {pos : Pos} {Q : Value → Shared → Prop}
    (hclos : closureFor scope env = pure cl) (hcell : ∀ y ∈ scope.names, y.2 ≠ .cell) (hkind : scope.kind = .function) (hnames : ∀ x ∈ scope.names, x.2 = .local → scope.names.lookup x.1 = some .local)
    (h : wpAny (model prog w) A (eval iter env) (fun x s₁ => wpAny (model prog w) A (pyIter x) (fun it s₂ => CompB prog w A elt target scope cl env Q it s₂) NoE s₁) NoE s)
    (hs : ∀ x, foldedSetIterable iter env x = pure x := by intro _; rfl) :
    wpAny (model prog w) A (eval (.ListComp elt [⟨target, iter, [], 0⟩] scope pos) env) Q NoE s := by
  rw [eval_ListComp]
  refine wpAny_comprehension_free (g := ⟨target, iter, [], 0⟩) (gs := []) (cl := cl) (use := none) rfl hs hclos hkind hnames ?_
  show wpAny _ _ (eval iter env) _ _ s
  refine wpAny_mono h (fun x s₁ h₁ => wpAny_mono h₁ (fun it s₂ hB => ?_) fun _ _ e => e) fun _ _ e => e
  obtain ⟨ds, hds, hB⟩ := hB
  refine wpAny_newObj_type (wpAny_newFunctionEnv hcell (by intro y hy; simp at hy) (fun h₁ hns₁ hsb₁ => ?_) hkind)
  dsimp only at hns₁ hsb₁ ⊢
  generalize hH2 : s₂.heap.push { cls := .type "list", dict := none, data := .seq ([] : List Value).toArray } = H2 at hns₁ hsb₁ ⊢
  have hC : H2.objs.size = s₂.heap.objs.size + 1 := by rw [← hH2, Heap.size_push]
  have hDC : s₂.heap.objs.size ≠ H2.objs.size := by rw [hC]; exact Nat.ne_of_lt (Nat.lt_succ_self _)
  have below : ∀ b, b < s₂.heap.objs.size → b ≠ H2.objs.size ∧ b ≠ s₂.heap.objs.size := fun b hb => ⟨by rw [hC]; exact Nat.ne_of_lt (Nat.lt_succ_of_lt hb), Nat.ne_of_lt hb⟩
  have old : ∀ b o, s₂.heap.get? b = some o → h₁.get? b = some o := fun b o e => hsb₁.extBut b o (below b (Heap.lt_size e)).1 (Heap.get?_push_of_some _ (hH2 ▸ Heap.get?_push_of_some _ e))
  have hacc : h₁.get? s₂.heap.objs.size = some (listOf #[] 0) := hsb₁.extBut _ _ hDC (Heap.get?_push_of_some _ (hH2 ▸ Heap.get?_push_size _ rfl))
  have fresh : ∀ a, s₂.heap.objs.size ≤ a → s₂.heap.get? a = none := fun a ha => by
    cases e : s₂.heap.get? a with
    | none => rfl
    | some o' => exact absurd (Heap.lt_size e) (Nat.not_lt.mpr ha)
  obtain ⟨I, n₀, hI, hself, turn⟩ := hB (hideAll s₂.heap ds) s₂.heap.objs.size H2.objs.size h₁
    ⟨hns₁, fun b o e => old b o (of_hideAll _ e), by rw [hideAll_size, hC]; exact Nat.le_succ _⟩ hacc hDC
    (by cases e : (hideAll s₂.heap ds).get? s₂.heap.objs.size with
        | none => rfl
        | some o => have := of_hideAll _ e; rw [fresh _ (Nat.le_refl _)] at this; cases this)
    (fun d hd => ⟨hideAll_none _ hd, by obtain ⟨o, ho⟩ := Option.isSome_iff_exists.mp (hds d hd); exact below d (Heap.lt_size ho)⟩)
    ⟨fun b o hb e => hideAll_get _ e hb, by rw [hideAll_size]; exact Nat.le_refl _⟩ (fun b o e => ⟨old b o e, below b (Heap.lt_size e)⟩)
  have loop : codeAny (model prog w) A (.compLoop (.ListComp elt [⟨target, iter, [], 0⟩] scope pos) 0 it (.ref s₂.heap.objs.size) (compEnvC scope cl H2.objs.size env))
        (compPost (model prog w) A NoE none Q (.ref s₂.heap.objs.size) H2.objs.size) { s₂ with heap := h₁ } := by
    refine compLoop_ I (fun n s hI => wpAny_mono (turn n s hI) (fun r s₁ hr => ?_) fun _ _ e => e) n₀ hI
    cases r with
    | some v => exact hr
    | none =>
      obtain ⟨⟨m, F⟩, hg, hos, hq⟩ := hr
      refine ⟨m, F.ns, fun h' hs' => hq _ ⟨⟨fun b ob hb e => ?_, ?_⟩, hg, hos⟩ ?_⟩
      · exact (hs'.2 b (below b (Heap.lt_size e)).1).trans (F.keep b ob (hideAll_get _ e hb))
      · obtain ⟨oL, _, _, hL, _⟩ := F.ns
        have h3 : H2.objs.size < s₁.heap.objs.size := Heap.lt_size hL
        have h4 : h'.objs.size = s₁.heap.objs.size := hs'.1
        show s₂.heap.objs.size ≤ h'.objs.size
        omega
      · exact fun b hb => hs'.2 b hb
  refine codeAny_compStart_list loop (wpAny_mono (hself _ loop) (fun _ _ x => x) fun _ _ e => e.elim)
/-- y = [comprehension]: the store comes ahead of the end of the block -/
theorem compA_ {elt target iter : Expr} {scope : Scope} {cl : List (Str × Addr)} {pos spos py : Pos} {y : Str} {L : Addr} {Q : Flow → Shared → Prop}
    (hsw : swapsWith (.ListComp elt [⟨target, iter, [], 0⟩] scope pos) (some (.Name y py)) spos.line env = pure true) (hy : env.kindOf y = some .local) (hp : (env.scope.kind == .class || (env.scope.kind == .module && env.locals != env.globals)) = false) (hL : env.locals = L)
    (hclos : closureFor scope env = pure cl) (hcell : ∀ y ∈ scope.names, y.2 ≠ .cell) (hkind : scope.kind = .function) (hnames : ∀ x ∈ scope.names, x.2 = .local → scope.names.lookup x.1 = some .local)
    (h : wpAny (model prog w) A (eval iter env) (fun x s₁ => wpAny (model prog w) A (pyIter x) (fun it s₂ => ∃ ds m, L ∉ ds ∧ s₂.heap.Ns L m ∧ CompD prog w A elt target scope cl env (fun v s' => ∀ h'' tk, h''.Ns L (fun z => if z = y then some v else m z) → Heap.SameBut L s'.heap h'' → Q .next { s' with heap := h'', toks := tk }) it s₂ ds) NoE s₁) NoE s)
    (hs : ∀ x, foldedSetIterable iter env x = pure x := by intro _; rfl) :
    wpAny (model prog w) A (exec (.Assign [.Name y py] (.ListComp elt [⟨target, iter, [], 0⟩] scope pos) spos) env) Q NoE s := by
  rw [exec_Assign_Name_used _ _ _ _ hsw]
  refine wpAny_bind (wpAny_standAt (wpAny_bind ?_))
  show wpAny _ A (do let _ ← comprehension (.ListComp elt [⟨target, iter, [], 0⟩] scope pos) scope env _ (newList []) false (eval iter env) (some (assign (.Name y py) env))) _ _ s
  refine wpAny_bind (wpAny_mono (wpAny_comprehension_free (g := ⟨target, iter, [], 0⟩) (gs := []) (cl := cl) (use := some (assign (.Name y py) env)) (Q := fun _ s' => Q .next s') rfl hs hclos hkind hnames ?_) (fun _ s' hq => wpAny_pure (wpAny_pure hq)) fun _ _ e => e)
  show wpAny _ _ (eval iter env) _ _ s
  refine wpAny_mono h (fun x s₁ h₁ => wpAny_mono h₁ (fun it s₂ hB => ?_) fun _ _ e => e) fun _ _ e => e
  obtain ⟨ds, mL, hLds, hnL, hds, hB⟩ := hB
  refine wpAny_newObj_type (wpAny_newFunctionEnv hcell (by intro y hy; simp at hy) (fun h₁ hns₁ hsb₁ => ?_) hkind)
  dsimp only at hns₁ hsb₁ ⊢
  generalize hH2 : s₂.heap.push { cls := .type "list", dict := none, data := .seq ([] : List Value).toArray } = H2 at hns₁ hsb₁ ⊢
  have hC : H2.objs.size = s₂.heap.objs.size + 1 := by rw [← hH2, Heap.size_push]
  have hDC : s₂.heap.objs.size ≠ H2.objs.size := by rw [hC]; exact Nat.ne_of_lt (Nat.lt_succ_self _)
  have below : ∀ b, b < s₂.heap.objs.size → b ≠ H2.objs.size ∧ b ≠ s₂.heap.objs.size := fun b hb => ⟨by rw [hC]; exact Nat.ne_of_lt (Nat.lt_succ_of_lt hb), Nat.ne_of_lt hb⟩
  have old : ∀ b o, s₂.heap.get? b = some o → h₁.get? b = some o := fun b o e => hsb₁.extBut b o (below b (Heap.lt_size e)).1 (Heap.get?_push_of_some _ (hH2 ▸ Heap.get?_push_of_some _ e))
  have hacc : h₁.get? s₂.heap.objs.size = some (listOf #[] 0) := hsb₁.extBut _ _ hDC (Heap.get?_push_of_some _ (hH2 ▸ Heap.get?_push_size _ rfl))
  have fresh : ∀ a, s₂.heap.objs.size ≤ a → s₂.heap.get? a = none := fun a ha => by
    cases e : s₂.heap.get? a with
    | none => rfl
    | some o' => exact absurd (Heap.lt_size e) (Nat.not_lt.mpr ha)
  obtain ⟨I, n₀, hI, hself, turn⟩ := hB (hideAll s₂.heap ds) s₂.heap.objs.size H2.objs.size h₁
    ⟨hns₁, fun b o e => old b o (of_hideAll _ e), by rw [hideAll_size, hC]; exact Nat.le_succ _⟩ hacc hDC
    (by cases e : (hideAll s₂.heap ds).get? s₂.heap.objs.size with
        | none => rfl
        | some o => have := of_hideAll _ e; rw [fresh _ (Nat.le_refl _)] at this; cases this)
    (fun d hd => ⟨hideAll_none _ hd, by obtain ⟨o, ho⟩ := Option.isSome_iff_exists.mp (hds d hd); exact below d (Heap.lt_size ho)⟩)
    ⟨fun b o hb e => hideAll_get _ e hb, by rw [hideAll_size]; exact Nat.le_refl _⟩ (fun b o e => ⟨old b o e, below b (Heap.lt_size e)⟩)
  have loop : codeAny (model prog w) A (.compLoop (.ListComp elt [⟨target, iter, [], 0⟩] scope pos) 0 it (.ref s₂.heap.objs.size) (compEnvC scope cl H2.objs.size env))
        (compPost (model prog w) A NoE (some (assign (.Name y py) env)) (fun _ s' => Q .next s') (.ref s₂.heap.objs.size) H2.objs.size) { s₂ with heap := h₁ } := by
    refine compLoop_ I (fun n s hI => wpAny_mono (turn n s hI) (fun r s₁ hr => ?_) fun _ _ e => e) n₀ hI
    cases r with
    | some v => exact hr
    | none =>
      obtain ⟨⟨m, F⟩, hg, hos, hq⟩ := hr
      obtain ⟨oL, es, ep, hoL, hdL, rL⟩ := id hnL
      have hLC : L ≠ H2.objs.size := (below L (Heap.lt_size hoL)).1
      have hL1 : s₁.heap.get? L = some oL := F.keep _ _ (hideAll_get _ hoL hLds)
      have hn1 : s₁.heap.Ns L mL := ⟨oL, es, ep, hL1, hdL, rL⟩
      show wpAny _ A (assign (.Name y py) env (.ref s₂.heap.objs.size)) _ _ _
      refine wpAny_assign_Name (wpAny_storeName_local hy (hL.symm ▸ hn1) (fun h₂ hn₂ hs₂ => ?_) hp)
      rw [hL] at hn₂ hs₂
      refine ⟨m, F.ns.sameBut hs₂ (Ne.symm hLC), fun h₃ hs₃ => ?_⟩
      have hfree : oL.isFreed = false := by
        obtain ⟨c', d', dt', sl'⟩ := oL
        obtain rfl : dt' = _ := hdL
        rfl
      obtain ⟨o3, _, _, ho3, _⟩ := hn₂.sameBut hs₃ hLC
      have hself : (h₃.update L (fun _ => oL)).get? L = some oL := Heap.get?_update_self _ ho3 hfree
      have hoth : ∀ b, b ≠ L → (h₃.update L (fun _ => oL)).get? b = h₃.get? b := fun b hb => Heap.get?_update_other _ _ (Ne.symm hb)
      have hall : ∀ b, b ≠ H2.objs.size → (h₃.update L (fun _ => oL)).get? b = s₁.heap.get? b := fun b hb => by
        by_cases e : b = L
        · rw [e, hself, hL1]
        · rw [hoth b e, hs₃.2 b hb, hs₂.2 b e]
      have hsz : (h₃.update L (fun _ => oL)).objs.size = s₁.heap.objs.size := by rw [Heap.size_update, hs₃.1, hs₂.1]
      refine hq { s₁ with heap := h₃.update L (fun _ => oL) } ⟨⟨fun b ob hb e => ?_, ?_⟩, hg, hos⟩ hall h₃ _ (hn₂.sameBut hs₃ hLC) ⟨?_, fun b hb => (hoth b hb).symm⟩
      · rw [hall b (below b (Heap.lt_size e)).1]
        exact F.keep b ob (hideAll_get _ e hb)
      · obtain ⟨oC, _, _, hoC, _⟩ := F.ns
        have h3 : H2.objs.size < s₁.heap.objs.size := Heap.lt_size hoC
        show s₂.heap.objs.size ≤ (h₃.update L (fun _ => oL)).objs.size
        rw [hsz]; omega
      · rw [Heap.size_update]
  refine codeAny_compStart_list loop (wpAny_mono (hself _ loop) (fun _ _ x => x) fun _ _ e => e.elim)
end
end
section
section
variable {prog : Program} {w : World} {A : Around} {E : Value → Shared → Prop} {s : Shared}

theorem nextOf_range_item {it : Addr} {x left step : Int} {Q : Value → Shared → Prop} (hit : IsRangeIter s.heap it x left step) (hleft : 0 < left)
    (hQ : ∀ h', IsRangeIter h' it (x + step) (left - 1) step → Heap.SameBut it s.heap h' → Q (.int x s.toks) { s with heap := h', toks := s.toks + 1 }) :
    wpAny (model prog w) A (Builtin.SmallTypes.nextOf (.ref it)) Q E s := by
  have hT : s.TypeIs (.ref it) "range_iterator" := ⟨_, hit, rfl⟩
  unfold Builtin.SmallTypes.nextOf
  refine wpAny_bind (wpAny_callSpecial?_slot (name := Str.ofString "__next__") hT F.slot_range_iterator_next
    (call_meets F.slot_range_iterator_next hT F.entry_range_iterator_next (F.args_range_iterator_next_1 _) (AutoRange.range_iterator___next___range_iterator_1 it x left step (by omega)) ⟨hit, ?_⟩))
  exact wpAny_pure (hQ _ (Heap.get?_update_self _ (Heap.get?_update_self _ hit rfl) rfl) ((Heap.SameBut.update ..).trans (Heap.SameBut.update ..)))
theorem nextOf_range_end {it : Addr} {x left step : Int} {Q : Value → Shared → Prop} (hh : A.handled = none) (hit : IsRangeIter s.heap it x left step) (hleft : left ≤ 0)
    (hE : ∀ h' e, Heap.ExtBut it s.heap h' → (∃ o, h'.get? e = some o ∧ o.cls = .type "StopIteration") → E (.ref e) { s with heap := h' }) :
    wpAny (model prog w) A (Builtin.SmallTypes.nextOf (.ref it)) Q E s := by
  have hT : s.TypeIs (.ref it) "range_iterator" := ⟨_, hit, rfl⟩
  unfold Builtin.SmallTypes.nextOf
  refine wpAny_bind (wpAny_callSpecial?_slot (name := Str.ofString "__next__") hT F.slot_range_iterator_next
    (wpAny_call_entry F.slot_range_iterator_next hT F.entry_range_iterator_next ?_ (F.args_range_iterator_next_1 _)))
  show wpAny _ _ (field (.ref it) 0 >>= _) _ _ s
  refine wpAny_bind (wpAny_field hit rfl (x := rawInt x) rfl ?_)
  show wpAny _ _ (field (.ref it) 1 >>= _) _ _ s
  refine wpAny_bind (wpAny_field hit rfl (x := rawInt left) rfl ?_)
  show wpAny _ _ (field (.ref it) 2 >>= _) _ _ s
  refine wpAny_bind (wpAny_field hit rfl (x := rawInt step) rfl ?_)
  show wpAny _ _ (if left ≤ 0 then _ else _) _ _ s
  rw [if_pos hleft]
  refine wpAny_bind (wpAny_rule ?_)
  refine wpAny_bind ?_
  show wpAny _ _ (newExc (.type "StopIteration") [] >>= _) _ _ _
  refine wpAny_bind ?_
  simp only [newExc, newTuple]
  refine wpAny_bind (wpAny_newObj_type ?_ (by size_fits))
  refine wpAny_bind (m := firstArgMember _ _) (wpAny_of_eq (a := Value.none) (by first | rfl | (simp only [firstArgMember]; rfl)) ?_)
  refine wpAny_newObj_type ?_ (by size_fits)
  simp only [raiseNew]
  refine wpAny_bind (wpAny_handled ?_)
  first | rw [show A.in1.handled = none from hh] | rw [hh]
  refine wpAny_bind (wpAny_pure (wpAny_throw ?_))
  exact hE _ _ (((Heap.ExtBut.refl it s.heap).push _).push _) ⟨_, Heap.get?_push_size _ rfl, rfl⟩

/-- a list_iterator that has ended -/
noncomputable def Gone (h : Heap) (it : Addr) : Prop := ∃ o vs, h.get? it = some o ∧ o.cls = .type "list_iterator" ∧ o.data = .fields vs ∧ vs[0]? = some .none
theorem Gone.at {h h' : Heap} {it : Addr} (g : Gone h it) (k : ∀ o, h.get? it = some o → h'.get? it = some o) : Gone h' it := by
  obtain ⟨o, vs, h1, r⟩ := g
  exact ⟨o, vs, k _ h1, r⟩
theorem nextOf_list_end' {it l : Addr} {i : Nat} {items : Array Value} {Q : Value → Shared → Prop} (hh : A.handled = none) (hit : s.heap.IsListIter it l i) (hl : s.heap.IsList l items) (hx : items[i]? = none)
    (hE : ∀ h' e, Heap.ExtBut it s.heap h' → Gone h' it → (∃ o, h'.get? e = some o ∧ o.cls = .type "StopIteration") → E (.ref e) { s with heap := h' }) :
    wpAny (model prog w) A (Builtin.SmallTypes.nextOf (.ref it)) Q E s := by
  obtain ⟨o, ho, hc, hd⟩ := id hit
  obtain ⟨ol, hol, _, nl, hdl⟩ := hl
  unfold Builtin.SmallTypes.nextOf
  refine wpAny_bind (wpAny_callSpecial?_slot (name := Str.ofString "__next__") hit.typeIs slot_listiter_next
    (wpAny_call_entry slot_listiter_next hit.typeIs entry_listiter_next ?_ (args_listiter_next _)))
  show wpAny _ _ (field (.ref it) 0 >>= _) _ _ s
  refine wpAny_bind (wpAny_field ho hd (x := .ref l) rfl ?_)
  show wpAny _ _ (if (Value.ref l == Value.none) = true then _ else _) _ _ s
  rw [if_neg (show ¬ ((Value.ref l == Value.none) = true) from Bool.false_ne_true)]
  show wpAny _ _ (field (.ref it) 1 >>= _) _ _ s
  refine wpAny_bind (wpAny_field ho hd (x := .int i 0) rfl ?_)
  show wpAny _ _ (seqItems? (.ref l) >>= _) _ _ s
  refine wpAny_bind (wpAny_seqItems hol hdl ?_)
  simp only [Int.toNat_natCast, hx]
  refine wpAny_bind (wpAny_rule (wpAny_bind (wpAny_setField ho hd (by simp) ?_)))
  have hd' := Obj.data_mapFields hd (·.setIfInBounds 0 Value.none)
  have hg : Gone (s.heap.update it (Obj.mapFields (·.setIfInBounds 0 Value.none))) it :=
    ⟨_, _, Heap.get?_update_self _ ho (Obj.isFreed_of_fields hd'), by rw [Obj.cls_mapFields]; exact hc, hd', by simp⟩
  show wpAny _ _ (newExc (.type "StopIteration") [] >>= _) _ _ _
  refine wpAny_bind ?_
  simp only [newExc, newTuple]
  refine wpAny_bind (wpAny_newObj_type ?_ (by size_fits))
  refine wpAny_bind (m := firstArgMember _ _) (wpAny_of_eq (a := Value.none) (by first | rfl | (simp only [firstArgMember]; rfl)) ?_)
  refine wpAny_newObj_type ?_ (by size_fits)
  simp only [raiseNew]
  refine wpAny_bind (wpAny_handled ?_)
  first | rw [show A.in1.handled = none from hh] | rw [hh]
  refine wpAny_bind (wpAny_pure (wpAny_throw ?_))
  exact hE _ _ (((Heap.SameBut.update ..).extBut.push _).push _) ((hg.at fun o e => Heap.get?_push_of_some _ e).at fun o e => Heap.get?_push_of_some _ e) ⟨_, Heap.get?_push_size _ rfl, rfl⟩
theorem pyNext_gone {it : Addr} {Q : Option Value → Shared → Prop} (hh : A.handled = none) (hg : Gone s.heap it)
    (hQ : ∀ h', (∀ b o, s.heap.get? b = some o → h'.get? b = some o) → Q none { s with heap := h' }) : wpAny (model prog w) A (pyNext (.ref it)) Q E s := by
  obtain ⟨o, vs, ho, hc, hd, h0⟩ := hg
  have hT : s.TypeIs (.ref it) "list_iterator" := ⟨o, ho, hc⟩
  unfold pyNext
  refine wpAny_bind (wpAny_attempt (wpAny_callSpecial?_slot (name := Str.ofString "__next__") hT slot_listiter_next
    (wpAny_call_entry slot_listiter_next hT entry_listiter_next ?_ (args_listiter_next _))))
  show wpAny _ _ (field (.ref it) 0 >>= _) _ _ s
  refine wpAny_bind (wpAny_field ho hd (x := .none) h0 ?_)
  show wpAny _ _ (if (Value.none == Value.none) = true then _ else _) _ _ s
  rw [if_pos (show (Value.none == Value.none) = true from rfl)]
  refine wpAny_bind (wpAny_rule ?_)
  refine wpAny_bind ?_
  show wpAny _ _ (newExc (.type "StopIteration") [] >>= _) _ _ _
  refine wpAny_bind ?_
  simp only [newExc, newTuple]
  refine wpAny_bind (wpAny_newObj_type ?_ (by size_fits))
  refine wpAny_bind (m := firstArgMember _ _) (wpAny_of_eq (a := Value.none) (by first | rfl | (simp only [firstArgMember]; rfl)) ?_)
  refine wpAny_newObj_type ?_ (by size_fits)
  simp only [raiseNew]
  refine wpAny_bind (wpAny_handled ?_)
  first | rw [show A.in1.handled = none from hh] | rw [hh]
  refine wpAny_bind (wpAny_pure (wpAny_throw ?_))
  refine wpAny_bind (wpAny_isInstance (T := "StopIteration") (b := true) ⟨_, Heap.get?_push_size _ rfl, rfl⟩ isSubtype_stop ?_)
  exact wpAny_pure (hQ _ (fun b o e => Heap.get?_push_of_some _ (Heap.get?_push_of_some _ e)))

structure ZA (z TI TO i1 i2 l2 : Addr) : Prop where
  TIz : TI ≠ z
  TOz : TO ≠ z
  i1z : i1 ≠ z
  i2z : i2 ≠ z
  TITO : TI ≠ TO
  TIi1 : TI ≠ i1
  TIi2 : TI ≠ i2
  TOi1 : TO ≠ i1
  TOi2 : TO ≠ i2
  i12 : i1 ≠ i2
  l2z : l2 ≠ z
  l2TO : l2 ≠ TO
  l2i1 : l2 ≠ i1
  l2i2 : l2 ≠ i2

theorem zipR_item {z TI TO i1 i2 l2 : Addr} {k2 : Nat} {c left step : Int} {ys : Array Value} {y a b : Value} {Q : Option Value → Shared → Prop} (D : ZA z TI TO i1 i2 l2)
    (hz : IsZip s.heap z TI TO .none) (hTI : IsPair s.heap TI (.ref i1) (.ref i2)) (hTO : IsPair s.heap TO a b)
    (h1 : IsRangeIter s.heap i1 c left step) (hleft : 0 < left) (h2 : s.heap.IsListIter i2 l2 k2) (hl2 : s.heap.IsList l2 ys) (hy : ys[k2]? = some y)
    (hQ : ∀ h' tk, IsZip h' z TI TO (rawInt s.heap.objs.size) → IsPair h' TO (.int c tk) y → IsRangeIter h' i1 (c + step) (left - 1) step → h'.IsListIter i2 l2 (k2 + 1) → IsPair h' s.heap.objs.size (.int c tk) y → h'.objs.size = s.heap.objs.size + 1 →
      (∀ b o, b ≠ z → b ≠ TO → b ≠ i1 → b ≠ i2 → s.heap.get? b = some o → h'.get? b = some o) → Q (some (.ref s.heap.objs.size)) { s with heap := h', toks := s.toks + 1 }) :
    wpAny (model prog w) A (pyNext (.ref z)) Q E s := by
  have hT : s.TypeIs (.ref z) "zip" := ⟨_, hz, rfl⟩
  unfold pyNext
  refine wpAny_bind (wpAny_attempt (wpAny_callSpecial?_slot (name := Str.ofString "__next__") hT F.slot_zip_next
    (wpAny_call_entry F.slot_zip_next hT F.entry_zip_next ?_ (F.args_zip_next_1 _))))
  show wpAny _ _ (field (.ref z) 2 >>= _) _ _ _
  refine wpAny_bind (wpAny_field hz rfl (x := .bool false) rfl ?_)
  show wpAny _ _ (field (.ref z) 3 >>= _) _ _ _
  refine wpAny_bind (wpAny_field hz rfl (x := .ref TI) rfl ?_)
  refine wpAny_bind (wpAny_seqItems hTI rfl ?_)
  show wpAny _ _ (Builtin.SmallTypes.ownedTupleIsFree (.ref z) >>= _) _ _ _
  refine wpAny_bind ?_
  unfold Builtin.SmallTypes.ownedTupleIsFree
  refine wpAny_bind (wpAny_field hz rfl (x := .none) rfl (wpAny_pure ?_))
  simp only [if_true]
  refine wpAny_bind (wpAny_rule ?_)
  refine wpAny_bind (wpAny_field hz rfl (x := .ref TO) rfl ?_)
  refine wpAny_bind (wpAny_setField_rec hz (by simp) fun h₁ hz₁ hs₁ => ?_)
  replace hz₁ : IsZip h₁ z TI TO .ellipsis := hz₁
  refine wpAny_bind ?_
  simp only [List.zipIdx_cons, List.zipIdx_nil, List.forIn_cons, List.forIn_nil]
  refine wpAny_bind (wpAny_bind (wpAny_onRaise ?_))
  show wpAny _ _ (Builtin.SmallTypes.nextOf (.ref i1) >>= _) _ _ _
  refine wpAny_bind (nextOf_range_item (hs₁.extBut _ _ D.i1z h1) hleft fun h₂ h1₂ hs₂ => wpAny_pure ?_)
  have hTO₂ : IsPair h₂ TO a b := hs₂.extBut _ _ D.TOi1 (hs₁.extBut _ _ D.TOz hTO)
  refine wpAny_bind (wpAny_seqItems hTO₂ rfl ?_)
  refine wpAny_bind (wpAny_updateSeq_pair hTO₂ fun h₃ hTO₃ hs₃ => ?_)
  replace hTO₃ : IsPair h₃ TO (.int c s.toks) b := hTO₃
  refine wpAny_bind (wpAny_letGo (wpAny_pure ?_))
  refine wpAny_bind (wpAny_bind (wpAny_onRaise ?_))
  show wpAny _ _ (Builtin.SmallTypes.nextOf (.ref i2) >>= _) _ _ _
  refine wpAny_bind (wpAny_nextOf_list_item (((h2.extBut hs₁.extBut D.i2z).extBut hs₂.extBut D.i12.symm).extBut hs₃.extBut D.TOi2.symm)
    (((hl2.extBut hs₁.extBut D.l2z).extBut hs₂.extBut D.l2i1).extBut hs₃.extBut D.l2TO) hy fun h₄ h2₄ hs₄ => wpAny_pure ?_)
  have hTO₄ : IsPair h₄ TO (.int c s.toks) b := hs₄.extBut _ _ D.TOi2 hTO₃
  refine wpAny_bind (wpAny_seqItems hTO₄ rfl ?_)
  refine wpAny_bind (wpAny_updateSeq_pair hTO₄ fun h₅ hTO₅ hs₅ => ?_)
  replace hTO₅ : IsPair h₅ TO (.int c s.toks) y := hTO₅
  refine wpAny_bind (wpAny_letGo (wpAny_pure (wpAny_pure ?_)))
  refine wpAny_bind (wpAny_seqItems hTO₅ rfl ?_)
  refine wpAny_bind (wpAny_newTuple ?_)
  have hsz : h₅.objs.size = s.heap.objs.size := by rw [hs₅.1, hs₄.1, hs₃.1, hs₂.1, hs₁.1]
  have hz₅ : IsZip h₅ z TI TO .ellipsis := hs₅.extBut _ _ D.TOz.symm (hs₄.extBut _ _ D.i2z.symm (hs₃.extBut _ _ D.TOz.symm (hs₂.extBut _ _ D.i1z.symm hz₁)))
  have hk₅ : ∀ c o, c ≠ z → c ≠ TO → c ≠ i1 → c ≠ i2 → s.heap.get? c = some o → h₅.get? c = some o := fun c o c1 c2 c3 c4 e =>
    hs₅.extBut _ _ c2 (hs₄.extBut _ _ c4 (hs₃.extBut _ _ c2 (hs₂.extBut _ _ c3 (hs₁.extBut _ _ c1 e))))
  have h1₅ : IsRangeIter h₅ i1 (c + step) (left - 1) step := hs₅.extBut _ _ D.TOi1.symm (hs₄.extBut _ _ D.i12 (hs₃.extBut _ _ D.TOi1.symm h1₂))
  have h2₅ : h₅.IsListIter i2 l2 (k2 + 1) := h2₄.extBut hs₅.extBut D.TOi2.symm
  have hzlt : z < h₅.objs.size := Heap.lt_size hz₅
  show wpAny _ _ (Builtin.SmallTypes.ownedTupleHandOut (.ref z) (.ref h₅.objs.size) >>= _) _ _ _
  refine wpAny_bind ?_
  unfold Builtin.SmallTypes.ownedTupleHandOut
  have hz₆ : IsZip (h₅.push { cls := .type "tuple", data := .seq #[.int c s.toks, y] }) z TI TO .ellipsis := Heap.get?_push_of_some _ hz₅
  refine wpAny_bind (wpAny_setField_rec hz₆ (by simp) fun h₇ hz₇ hs₇ => ?_)
  replace hz₇ : IsZip h₇ z TI TO (rawInt h₅.objs.size) := hz₇
  refine wpAny_setField_rec hz₇ (by simp) fun h₈ hz₈ hs₈ => ?_
  replace hz₈ : IsZip h₈ z TI TO (rawInt h₅.objs.size) := hz₈
  have up : ∀ c o, c ≠ z → h₅.get? c = some o → h₈.get? c = some o := fun c o c1 e => hs₈.extBut _ _ c1 (hs₇.extBut _ _ c1 (Heap.get?_push_of_some _ e))
  have hT₈ : IsPair h₈ h₅.objs.size (.int c s.toks) y := hs₈.extBut _ _ (Nat.ne_of_gt hzlt) (hs₇.extBut _ _ (Nat.ne_of_gt hzlt) (Heap.get?_push_size _ rfl))
  have hz8 : h₈.objs.size = h₅.objs.size + 1 := by rw [hs₈.1, hs₇.1, Heap.size_push]
  rw [hsz] at hz₈ hT₈ hz8
  refine wpAny_pure ⟨_, rfl, wpAny_pure ?_⟩
  rw [hsz]
  exact hQ h₈ s.toks hz₈ (up _ _ D.TOz hTO₅) (up _ _ D.i1z h1₅) (h2₅.at fun o e => up _ o D.i2z e) hT₈ hz8 fun c o c1 c2 c3 c4 e => up c o c1 (hk₅ c o c1 c2 c3 c4 e)

/-- the end: the range is drawn first, so that nothing is lost where it ends -/
theorem zipR_end1 {z TI TO i1 i2 l2 : Addr} {c left step : Int} {a b : Value} {Q : Option Value → Shared → Prop} (hh : A.handled = none) (D : ZA z TI TO i1 i2 l2)
    (hz : IsZip s.heap z TI TO .none) (hTI : IsPair s.heap TI (.ref i1) (.ref i2)) (_hTO : IsPair s.heap TO a b)
    (h1 : IsRangeIter s.heap i1 c left step) (hleft : left ≤ 0)
    (hQ : ∀ h', (∀ b o, b ≠ z → b ≠ i1 → s.heap.get? b = some o → h'.get? b = some o) → Q none { s with heap := h' }) :
    wpAny (model prog w) A (pyNext (.ref z)) Q E s := by
  have hT : s.TypeIs (.ref z) "zip" := ⟨_, hz, rfl⟩
  unfold pyNext
  refine wpAny_bind (wpAny_attempt (wpAny_callSpecial?_slot (name := Str.ofString "__next__") hT F.slot_zip_next
    (wpAny_call_entry F.slot_zip_next hT F.entry_zip_next ?_ (F.args_zip_next_1 _))))
  show wpAny _ _ (field (.ref z) 2 >>= _) _ _ _
  refine wpAny_bind (wpAny_field hz rfl (x := .bool false) rfl ?_)
  show wpAny _ _ (field (.ref z) 3 >>= _) _ _ _
  refine wpAny_bind (wpAny_field hz rfl (x := .ref TI) rfl ?_)
  refine wpAny_bind (wpAny_seqItems hTI rfl ?_)
  show wpAny _ _ (Builtin.SmallTypes.ownedTupleIsFree (.ref z) >>= _) _ _ _
  refine wpAny_bind ?_
  unfold Builtin.SmallTypes.ownedTupleIsFree
  refine wpAny_bind (wpAny_field hz rfl (x := .none) rfl (wpAny_pure ?_))
  simp only [if_true]
  refine wpAny_bind (wpAny_rule ?_)
  refine wpAny_bind (wpAny_field hz rfl (x := .ref TO) rfl ?_)
  refine wpAny_bind (wpAny_setField_rec hz (by simp) fun h₁ hz₁ hs₁ => ?_)
  replace hz₁ : IsZip h₁ z TI TO .ellipsis := hz₁
  refine wpAny_bind ?_
  simp only [List.zipIdx_cons, List.zipIdx_nil, List.forIn_cons, List.forIn_nil]
  refine wpAny_bind (wpAny_bind (wpAny_onRaise ?_))
  show wpAny _ _ (Builtin.SmallTypes.nextOf (.ref i1) >>= _) _ _ _
  refine wpAny_bind (nextOf_range_end hh (hs₁.extBut _ _ D.i1z h1) hleft fun h₂ e hs₂ he => ?_)
  obtain ⟨oe, hoe, hce⟩ := he
  have hz₂ : IsZip h₂ z TI TO .ellipsis := hs₂ _ _ D.i1z.symm hz₁
  have hez : e ≠ z := fun x => by subst x; rw [hz₂] at hoe; cases hoe; simp at hce
  refine wpAny_setField_rec hz₂ (by simp) fun h₃ _ hs₃ => ?_
  refine wpAny_bind (wpAny_isInstance (T := "StopIteration") (b := true) ⟨oe, hs₃.extBut _ _ hez hoe, hce⟩ isSubtype_stop ?_)
  exact wpAny_pure (hQ _ fun c o c1 c3 x => hs₃.extBut _ _ c1 (hs₂ _ _ c3 (hs₁.extBut _ _ c1 x)))

theorem zipR_end2 {z TI TO i1 i2 l2 : Addr} {k2 : Nat} {c left step : Int} {ys : Array Value} {a b : Value} {Q : Option Value → Shared → Prop} (hh : A.handled = none) (D : ZA z TI TO i1 i2 l2)
    (hz : IsZip s.heap z TI TO .none) (hTI : IsPair s.heap TI (.ref i1) (.ref i2)) (hTO : IsPair s.heap TO a b)
    (h1 : IsRangeIter s.heap i1 c left step) (hleft : 0 < left) (h2 : s.heap.IsListIter i2 l2 k2) (hl2 : s.heap.IsList l2 ys) (hy : ys[k2]? = none)
    (hQ : ∀ h' tk, Gone h' i2 → (∀ b o, b ≠ z → b ≠ TO → b ≠ i1 → b ≠ i2 → s.heap.get? b = some o → h'.get? b = some o) → Q none { s with heap := h', toks := tk }) :
    wpAny (model prog w) A (pyNext (.ref z)) Q E s := by
  have hT : s.TypeIs (.ref z) "zip" := ⟨_, hz, rfl⟩
  unfold pyNext
  refine wpAny_bind (wpAny_attempt (wpAny_callSpecial?_slot (name := Str.ofString "__next__") hT F.slot_zip_next
    (wpAny_call_entry F.slot_zip_next hT F.entry_zip_next ?_ (F.args_zip_next_1 _))))
  show wpAny _ _ (field (.ref z) 2 >>= _) _ _ _
  refine wpAny_bind (wpAny_field hz rfl (x := .bool false) rfl ?_)
  show wpAny _ _ (field (.ref z) 3 >>= _) _ _ _
  refine wpAny_bind (wpAny_field hz rfl (x := .ref TI) rfl ?_)
  refine wpAny_bind (wpAny_seqItems hTI rfl ?_)
  show wpAny _ _ (Builtin.SmallTypes.ownedTupleIsFree (.ref z) >>= _) _ _ _
  refine wpAny_bind ?_
  unfold Builtin.SmallTypes.ownedTupleIsFree
  refine wpAny_bind (wpAny_field hz rfl (x := .none) rfl (wpAny_pure ?_))
  simp only [if_true]
  refine wpAny_bind (wpAny_rule ?_)
  refine wpAny_bind (wpAny_field hz rfl (x := .ref TO) rfl ?_)
  refine wpAny_bind (wpAny_setField_rec hz (by simp) fun h₁ hz₁ hs₁ => ?_)
  replace hz₁ : IsZip h₁ z TI TO .ellipsis := hz₁
  refine wpAny_bind ?_
  simp only [List.zipIdx_cons, List.zipIdx_nil, List.forIn_cons, List.forIn_nil]
  refine wpAny_bind (wpAny_bind (wpAny_onRaise ?_))
  show wpAny _ _ (Builtin.SmallTypes.nextOf (.ref i1) >>= _) _ _ _
  refine wpAny_bind (nextOf_range_item (hs₁.extBut _ _ D.i1z h1) hleft fun h₂ h1₂ hs₂ => wpAny_pure ?_)
  have hTO₂ : IsPair h₂ TO a b := hs₂.extBut _ _ D.TOi1 (hs₁.extBut _ _ D.TOz hTO)
  refine wpAny_bind (wpAny_seqItems hTO₂ rfl ?_)
  refine wpAny_bind (wpAny_updateSeq_pair hTO₂ fun h₃ hTO₃ hs₃ => ?_)
  refine wpAny_bind (wpAny_letGo (wpAny_pure ?_))
  refine wpAny_bind (wpAny_bind (wpAny_onRaise ?_))
  show wpAny _ _ (Builtin.SmallTypes.nextOf (.ref i2) >>= _) _ _ _
  refine wpAny_bind (nextOf_list_end' hh (((h2.extBut hs₁.extBut D.i2z).extBut hs₂.extBut D.i12.symm).extBut hs₃.extBut D.TOi2.symm)
      (((hl2.extBut hs₁.extBut D.l2z).extBut hs₂.extBut D.l2i1).extBut hs₃.extBut D.l2TO) hy fun h₄ e hs₄ hg₄ he => ?_)
  obtain ⟨oe, hoe, hce⟩ := he
  have hz₄ : IsZip h₄ z TI TO .ellipsis := hs₄ _ _ D.i2z.symm (hs₃.extBut _ _ D.TOz.symm (hs₂.extBut _ _ D.i1z.symm hz₁))
  have hez : e ≠ z := fun x => by subst x; rw [hz₄] at hoe; cases hoe; simp at hce
  refine wpAny_setField_rec hz₄ (by simp) fun h₅ _ hs₅ => ?_
  refine wpAny_bind (wpAny_isInstance (T := "StopIteration") (b := true) ⟨oe, hs₅.extBut _ _ hez hoe, hce⟩ isSubtype_stop ?_)
  exact wpAny_pure (hQ _ _ (hg₄.at fun o e => hs₅.extBut _ _ D.i2z e) fun c o c1 c2 c3 c4 x => hs₅.extBut _ _ c1 (hs₄ _ _ c4 (hs₃.extBut _ _ c2 (hs₂.extBut _ _ c3 (hs₁.extBut _ _ c1 x)))))
end

noncomputable abbrev rangeObj (a b c : Int) (t u v : Tok) : Obj := { cls := .type "range", dict := none, data := .fields #[.int a t, .int b u, .int c v], slots := #[] }
noncomputable abbrev zr1 (h : Heap) (a b c : Int) : Heap := h.push { cls := .type "range_iterator", data := .fields #[rawInt a, rawInt (Builtin.Range.rangeSize a b c), rawInt c] }
noncomputable abbrev zr2 (h : Heap) (a b c : Int) (i2 : Addr) : Heap := (zr1 h a b c).push { cls := .type "tuple", data := .seq #[.ref h.objs.size, .ref i2] }
noncomputable abbrev zr3 (h : Heap) (a b c : Int) (i2 : Addr) : Heap := (zr2 h a b c i2).push { cls := .type "tuple", data := .seq #[.none, .none] }
noncomputable abbrev zr4 (h : Heap) (a b c : Int) (i2 : Addr) : Heap := (zr3 h a b c i2).push { cls := .type "zip", data := .fields #[.none, .bool false, .bool false, .ref (zr1 h a b c).objs.size, .ref (zr2 h a b c i2).objs.size] }
theorem meets_zipR_new (r i2 l2 : Addr) (a b c : Int) (t u v : Tok) (k : Nat) (hsmall : Builtin.Range.small a b c = true) :
    Meets (Builtin.«zip.__new__» ⟨[.type "zip", .ref r, .ref i2], []⟩) (fun _ R s => IsRange s.heap r a b c t u v ∧ s.heap.IsListIter i2 l2 k ∧
      R (.ok (.ret (.ref (zr3 s.heap a b c i2).objs.size))) { s with heap := zr4 s.heap a b c i2 }) :=
  .of_wp fun prog w A R s h => by
    obtain ⟨hp, g, d, tk, os⟩ := s; obtain ⟨hl1, hl2, h⟩ := h
    have hsub := PySem.sub_zip
    have hL1 : IsRange (Shared.heap ⟨hp, g, d, tk, os⟩) r a b c t u v := hl1
    have hL2 : Heap.IsListIter (Shared.heap ⟨hp.push { cls := .type "range_iterator", data := .fields #[rawInt a, rawInt (Builtin.Range.rangeSize a b c), rawInt c] }, g, d, tk, os⟩) i2 l2 k := by
      obtain ⟨o, ho, r⟩ := hl2; exact ⟨o, Heap.get?_push_of_some _ ho, r⟩
    wp_walk using wpAny_pyIter_range hL1 hsmall, wpAny_pyIter_listiter hL2
    exact ⟨_, rfl, h⟩
section
variable {prog : Program} {w : World} {A : Around} {E : Value → Shared → Prop} {s : Shared}
theorem call_zipR {r i2 l2 : Addr} {a b c : Int} {t u v : Tok} {k : Nat} {Q : Value → Shared → Prop} (hr : IsRange s.heap r a b c t u v) (hi : s.heap.IsListIter i2 l2 k) (hsmall : Builtin.Range.small a b c = true)
    (h : ∀ h', IsZip h' (s.heap.objs.size + 3) (s.heap.objs.size + 1) (s.heap.objs.size + 2) .none → IsPair h' (s.heap.objs.size + 1) (.ref s.heap.objs.size) (.ref i2) →
      IsPair h' (s.heap.objs.size + 2) .none .none → IsRangeIter h' s.heap.objs.size a (Builtin.Range.rangeSize a b c) c → h'.objs.size = s.heap.objs.size + 4 →
      (∀ c o, s.heap.get? c = some o → h'.get? c = some o) → Q (.ref (s.heap.objs.size + 3)) { s with heap := h' }) :
    wpAny (model prog w) A (call (.type "zip") [.ref r, .ref i2]) Q E s := by
  refine callType_new F.called_zip (by decide) (F.typeCall_zip_2 _ _) (F.newCall_zip_2 _ _) (fun obj => F.args_object_init_3 obj _ _) F.entry_zip_new
    (meets_zipR_new r i2 l2 a b c t u v k hsmall) ⟨hr, hi, ?_⟩
  have z1 : (zr1 s.heap a b c).objs.size = s.heap.objs.size + 1 := Heap.size_push ..
  have z2 : (zr2 s.heap a b c i2).objs.size = s.heap.objs.size + 2 := by rw [Heap.size_push, z1]
  have z3 : (zr3 s.heap a b c i2).objs.size = s.heap.objs.size + 3 := by rw [Heap.size_push, z2]
  have z4 : (zr4 s.heap a b c i2).objs.size = s.heap.objs.size + 4 := by rw [Heap.size_push, z3]
  have g4 : (zr4 s.heap a b c i2).get? (zr3 s.heap a b c i2).objs.size = some _ := Heap.get?_push_size _ rfl
  have g3 : (zr4 s.heap a b c i2).get? (zr2 s.heap a b c i2).objs.size = some _ := Heap.get?_push_of_some _ (Heap.get?_push_size _ rfl)
  have g2 : (zr4 s.heap a b c i2).get? (zr1 s.heap a b c).objs.size = some _ := Heap.get?_push_of_some _ (Heap.get?_push_of_some _ (Heap.get?_push_size _ rfl))
  have g1 : (zr4 s.heap a b c i2).get? s.heap.objs.size = some _ := Heap.get?_push_of_some _ (Heap.get?_push_of_some _ (Heap.get?_push_of_some _ (Heap.get?_push_size _ rfl)))
  show _ ∧ _
  rw [z1, z2, z3] at g4
  rw [z2] at g3
  rw [z1] at g2
  rw [z3]
  exact ⟨⟨_, g4, rfl⟩, h _ g4 g2 g3 g1 z4 fun c o x => Heap.get?_push_of_some _ (Heap.get?_push_of_some _ (Heap.get?_push_of_some _ (Heap.get?_push_of_some _ x)))⟩
end
end
section
open Builtin

noncomputable def blt (a b : List UInt8) : Bool := Bytes.order a b == .lt
theorem slot_bytes_lt : Slot "bytes" (cmpInfo .Lt).2.1 "bytes.__lt__" :=
  .of (owner := "bytes") (n := "__lt__") (by rw [typeLookup_type, builtinLookup_eq_fast]; kernel_rfl) (by decide +kernel) (by decide +kernel) (by decide +kernel)
    (by first | exact .inl (by decide +kernel) | exact .inr (by decide +kernel)) (by rw [isSubtype_type]; kernel_rfl)
theorem entry_bytes_lt : entryFor table "bytes.__lt__" = some Builtin.«bytes.__lt__» := entryFor_of_tree (by kernel_rfl)
theorem args_bytes_lt_2 (a b : Value) : argsOk "bytes.__lt__" ⟨[a, b], []⟩ := by
  unfold argsOk; rw [signature?_of (id := "bytes.__lt__") (n := ['_', '_', 't', 'l', '_', '_']) (o := ['s', 'e', 't', 'y', 'b']) (by kernel_rfl) FB.owner_bytes]; kernel_rfl
theorem gives_bytes_lt (b c : Array UInt8) (t u : Tok) : Gives («bytes.__lt__» ⟨[.bytes b t, .bytes c u], []⟩) (.val (.bool (blt b.toList c.toList))) := by
  refine .of_wp fun M A E s Q hq => ?_
  show wpAny M A (isInstance (.bytes c u) (.type "bytes") >>= fun r => _) _ E s
  refine wpAny_bind (wpAny_isInstance (typeIs_bytes s c u) F.sub_bytes_bytes ?_)
  exact wpAny_pure ⟨_, rfl, hq⟩
section
variable {prog : Program} {w : World} {A : Around} {E : Value → Shared → Prop} {s : Shared} {b c : Array UInt8} {t u : Tok}
theorem lt_bytes {Q : Value → Shared → Prop} (h : Q (.bool (blt b.toList c.toList)) s) : wpAny (model prog w) A (compareOp .Lt (.bytes b t) (.bytes c u)) Q E s :=
  compareOp_gives (op := .Lt) (typeIs_bytes s b t) (typeIs_bytes s c u) slot_bytes_lt entry_bytes_lt (args_bytes_lt_2 _ _) (gives_bytes_lt b c t u) (fun e => nomatch e) h
theorem eqBool_bytes {Q : Bool → Shared → Prop} (h : Q (b.toList == c.toList) s) : wpAny (model prog w) A (eqBool (.bytes b t) (.bytes c u)) Q E s := by
  unfold eqBool
  refine wpAny_holding ?_
  by_cases hab : (Value.bytes b t == Value.bytes c u) = true
  · have : b = c := by have := eq_of_beq hab; cases this; rfl
    subst this
    simp only [hab, if_true]
    refine wpAny_bind (wpAny_rule (wpAny_pure ?_))
    simpa using h
  · simp only [hab, Bool.false_eq_true, if_false]
    refine wpAny_bind (show wpAny _ _ (richCompare .Eq (.bytes b t) (.bytes c u)) _ _ _ from eq_bytes ?_)
    exact wpAny_truthy_bool h
/-- items of the heap: a word, a number, perhaps a thing -/
noncomputable abbrev tupO (vs : List Value) : Obj := { cls := .type "tuple", data := .seq vs.toArray }
theorem sub_tuple_tuple' : isSubtype (.type "tuple") (.type "tuple") = pure true := by rw [isSubtype_type]; kernel_rfl
theorem lt_tuple {x y : Addr} {k₁ k₂ : List UInt8} {i₁ i₂ : Int} {t₁ t₂ u₁ u₂ : Tok} {r₁ r₂ : List Value} {Q : Value → Shared → Prop}
    (hx : s.heap.get? x = some (tupO (.bytes k₁.toArray t₁ :: .int i₁ u₁ :: r₁))) (hy : s.heap.get? y = some (tupO (.bytes k₂.toArray t₂ :: .int i₂ u₂ :: r₂))) (hne : i₁ ≠ i₂) (hu : A.units + 10 < cLine)
    (h : Q (.bool (blt k₁ k₂ || (k₁ == k₂ && decide (i₁ < i₂)))) s) : wpAny (model prog w) A (compareOp .Lt (.ref x) (.ref y)) Q E s := by
  have hTx : s.TypeIs (.ref x) "tuple" := ⟨_, hx, rfl⟩
  have hTy : s.TypeIs (.ref y) "tuple" := ⟨_, hy, rfl⟩
  show wpAny _ _ (richCompare .Lt (.ref x) (.ref y)) _ _ _
  refine wpAny_richCompare_same_room hTx hTy PySem.F.slot_tuple_lt (wpAny_call_entry PySem.F.slot_tuple_lt hTx PySem.F.entry_tuple_lt ?_ (PySem.F.args_tuple_lt_2 _ _)) (by omega)
  show wpAny _ _ (isInstance (.ref y) (.type "tuple") >>= fun r => _) _ _ s
  refine wpAny_bind (wpAny_isInstance hTy sub_tuple_tuple' ?_)
  show wpAny _ _ (Builtin.Tuple.tupleItemsOf (.ref x) >>= fun r => _) _ _ s
  refine wpAny_bind ?_
  unfold Builtin.Tuple.tupleItemsOf
  refine wpAny_bind (wpAny_seqItems hx rfl (wpAny_pure ?_))
  refine wpAny_bind ?_
  refine wpAny_bind (wpAny_seqItems hy rfl (wpAny_pure ?_))
  refine wpAny_bind ?_
  simp only [List.zip_cons_cons, List.forIn_cons]
  refine wpAny_bind (wpAny_bind (eqBool_bytes ?_))
  by_cases hk : k₁ = k₂
  · subst hk
    have e0 : (k₁.toArray.toList == k₁.toArray.toList) = true := by simp
    rw [e0]
    simp only [Bool.not_true, Bool.false_eq_true, if_false]
    refine wpAny_pure ?_
    refine wpAny_bind (wpAny_bind (wpAny_eqBool_int ?_))
    have e1 : (i₁ == i₂) = false := by simpa using hne
    rw [e1]
    simp only [Bool.not_false, if_true]
    refine wpAny_bind (wpAny_rule ?_)
    refine wpAny_bind (show wpAny _ _ (compareOp .Lt (.int i₁ u₁) (.int i₂ u₂)) _ _ _ from PyProof.Rows.lt_int ?_)
    refine wpAny_bind (wpAny_pure (wpAny_pure (wpAny_pure (wpAny_pure ⟨_, rfl, (by intro e; cases e), ?_⟩))))
    have e2 : blt k₁ k₁ = false := by
      unfold blt
      have : (Bytes.order k₁ k₁ == .eq) = true := by rw [order_eq]; simp
      have := eq_of_beq this
      rw [this]; rfl
    rw [e2] at h
    simpa using h
  · have e0 : (k₁.toArray.toList == k₂.toArray.toList) = false := by simpa using hk
    rw [e0]
    simp only [Bool.not_false, if_true]
    refine wpAny_bind (wpAny_rule ?_)
    refine wpAny_bind (show wpAny _ _ (compareOp .Lt (.bytes k₁.toArray t₁) (.bytes k₂.toArray t₂)) _ _ _ from lt_bytes ?_)
    refine wpAny_bind (wpAny_pure (wpAny_pure (wpAny_pure (wpAny_pure ⟨_, rfl, (by intro e; cases e), ?_⟩))))
    have e3 : (k₁ == k₂) = false := by simpa using hk
    rw [e3] at h
    simpa using h
end
end
section
structure SWN (lt : Nat → Nat → Bool) : Prop where
  asymm : ∀ a b, lt a b = true → lt b a = false
  ntrans : ∀ a b c, lt a b = false → lt b c = false → lt a c = false

/-- the order of a stable sort: by lt, of like ones the earlier -/
noncomputable def prec (lt : Nat → Nat → Bool) (a b : Nat) : Prop := lt a b = true ∨ (lt b a = false ∧ a < b)
theorem prec_nlt {lt} (O : SWN lt) {a b} (h : prec lt a b) : lt b a = false := h.elim (O.asymm _ _) And.left
theorem prec_trans {lt} (O : SWN lt) {a b c} (x : prec lt a b) (y : prec lt b c) : prec lt a c := by
  rcases x with x | ⟨x, x'⟩
  · left
    cases q : lt a c with
    | true => rfl
    | false => have := O.ntrans _ _ _ q (prec_nlt O y); rw [x] at this; cases this
  · rcases y with y | ⟨y, y'⟩
    · left
      cases q : lt a c with
      | true => rfl
      | false => have := O.ntrans _ _ _ x q; rw [y] at this; cases this
    · exact .inr ⟨O.ntrans _ _ _ y x, by lia⟩
theorem lt_of_tie {lt} (O : SWN lt) {a b c} (x : lt a b = true) (y : lt c b = false) : lt a c = true := by
  cases q : lt a c with
  | true => rfl
  | false => have := O.ntrans _ _ _ q y; rw [x] at this; cases this
theorem lt_of_tie' {lt} (O : SWN lt) {a b c} (x : lt a b = true) (y : lt a c = false) : lt c b = true := by
  cases q : lt c b with
  | true => rfl
  | false => have := O.ntrans _ _ _ y q; rw [x] at this; cases this

/-- the arrangement at hand: of the places below N, from n on untouched -/
structure Arr (N n : Nat) (p : Array Nat) : Prop where
  perm : p.toList.Perm (List.range N)
  rest : ∀ i, n ≤ i → i < N → p.getD i 0 = i
theorem Arr.size {N n p} (h : Arr N n p) : p.size = N := by have := h.perm.length_eq; simpa using this
theorem Arr.weak {N n n' p} (h : Arr N n p) (hn : n ≤ n') : Arr N n' p := ⟨h.perm, fun i h1 h2 => h.rest i (by lia) h2⟩
theorem getD_of {p : Array Nat} {i : Nat} (h : i < p.size) : p[i]? = some (p.getD i 0) := by simp [Array.getD, h]
theorem Arr.lt {N n p} (h : Arr N n p) {i : Nat} (hi : i < N) : p.getD i 0 < N := by
  have hs := h.size
  have : p.getD i 0 ∈ p.toList := by
    have e : p.getD i 0 = p[i]'(by lia) := by simp [Array.getD, hs, hi]
    rw [e]; simp
  exact List.mem_range.mp (h.perm.mem_iff.mp this)
theorem Arr.inj {N n p} (h : Arr N n p) {i j : Nat} (hi : i < N) (hj : j < N) (e : p.getD i 0 = p.getD j 0) : i = j := by
  have hs := h.size
  have nd : p.toList.Nodup := h.perm.nodup_iff.mpr List.nodup_range
  have hi' : i < p.toList.length := by simpa [hs] using hi
  have hj' : j < p.toList.length := by simpa [hs] using hj
  have e1 : p.getD i 0 = p.toList[i] := by simp [Array.getD, hs, hi]
  have e2 : p.getD j 0 = p.toList[j] := by simp [Array.getD, hs, hj]
  rw [e1, e2] at e
  exact (List.getElem_inj nd).mp e
theorem Arr.head {N n p} (h : Arr N n p) {i : Nat} (hi : i < n) (hn : n ≤ N) : p.getD i 0 < n := by
  have h1 := h.lt (i := i) (by lia)
  rcases Nat.lt_or_ge (p.getD i 0) n with q | q
  · exact q
  · have := h.rest _ q h1
    have := h.inj h1 (by lia) this
    lia

theorem rev_getD {N n p} (h : Arr N n p) {i j : Nat} (hj : j ≤ N) (k : Nat) (hk : k < N) : (kas_rev p i j).getD k 0 = if i ≤ k ∧ k < j then p.getD (i + j - 1 - k) 0 else p.getD k 0 := by
  have hs := h.size
  have e := getElem?_mirror_all (xs := p) (i := i) (j := j) (by lia) k
  have e1 : (kas_rev p i j)[k]? = some ((kas_rev p i j).getD k 0) := getD_of (by rw [kas_rev, mirror_size]; lia)
  have e2 : (mirror p i j ((j - i) / 2))[k]? = some ((kas_rev p i j).getD k 0) := e1
  rw [e2] at e
  split at e
  · rename_i q; rw [if_pos q]; rw [getD_of (by lia)] at e; exact Option.some.inj e
  · rename_i q; rw [if_neg q]; rw [getD_of (by lia)] at e; exact Option.some.inj e
theorem Arr.rev {N n p} (h : Arr N n p) {i j : Nat} (hj : j ≤ n) (hn : n ≤ N) : Arr N n (kas_rev p i j) := by
  refine ⟨(Array.perm_iff_toList_perm.mp (mirror_perm p i j _)).trans h.perm, fun k h1 h2 => ?_⟩
  rw [rev_getD h (by lia) k h2, if_neg (by lia)]
  exact h.rest k h1 h2

noncomputable def Asc (lt : Nat → Nat → Bool) (p : Array Nat) (n : Nat) : Prop := ∀ i j, i < j → j < n → prec lt (p.getD i 0) (p.getD j 0)
noncomputable def Dsc (lt : Nat → Nat → Bool) (p : Array Nat) (n : Nat) : Prop := ∀ i j, i < j → j < n → prec lt (p.getD j 0) (p.getD i 0)
theorem asc_rev {lt N n p} (h : Arr N n p) (hn : n ≤ N) (a : Dsc lt p n) : Asc lt (kas_rev p 0 n) n := fun i j h1 h2 => by
  rw [rev_getD h (by lia) i (by lia), rev_getD h (by lia) j (by lia), if_pos (by lia), if_pos (by lia)]
  exact a _ _ (by lia) (by lia)
theorem dsc_rev {lt N n p} (h : Arr N n p) (hn : n ≤ N) (a : Asc lt p n) : Dsc lt (kas_rev p 0 n) n := fun i j h1 h2 => by
  rw [rev_getD h (by lia) i (by lia), rev_getD h (by lia) j (by lia), if_pos (by lia), if_pos (by lia)]
  exact a _ _ (by lia) (by lia)

/-- comparisons that tell lt and change nothing -/
noncomputable def Tells (lt : Nat → Nat → Bool) (N : Nat) (cmp : Nat → Nat → (Bool → Shared → Prop) → Shared → Prop) (s : Shared) : Prop :=
  ∀ i j C, i < N → j < N → i ≠ j → C (lt i j) s → cmp i j C s

section
variable {lt : Nat → Nat → Bool} {N : Nat} {cmp : Nat → Nat → (Bool → Shared → Prop) → Shared → Prop} {s : Shared}

theorem asc_wp (O : SWN lt) (T : Tells lt N cmp s) {p : Array Nat} : ∀ (f n : Nat) {G : Nat → Shared → Prop}, 1 ≤ n → n + f ≤ N → Arr N n p → Asc lt p n →
    (∀ m, n ≤ m → m ≤ n + f → Arr N m p → Asc lt p m → (m < n + f → lt (p.getD m 0) (p.getD (m - 1) 0) = true) → G m s) → (kas_asc p f n).kasWp cmp G s := by
  intro f
  induction f with
  | zero => intro n G h1 h2 A a hG; exact hG n (Nat.le_refl _) (by lia) A a (by lia)
  | succ f ih =>
    intro n G h1 h2 A a hG
    show cmp _ _ _ _
    refine T _ _ _ (A.lt (by lia)) (A.lt (by lia)) (fun e => by have := A.inj (by lia) (by lia) e; lia) ?_
    cases q : lt (p.getD n 0) (p.getD (n - 1) 0) with
    | true => exact hG n (Nat.le_refl _) (by lia) A a (fun _ => q)
    | false =>
      simp only [Bool.false_eq_true, if_false]
      refine ih (n + 1) (by lia) (by lia) (A.weak (by lia)) ?_ (fun m hm1 hm2 A' a' hl => hG m (by lia) (by lia) A' a' (fun h => hl (by lia)))
      have hpn := A.rest n (Nat.le_refl _) (by lia)
      have hp1 := A.head (i := n - 1) (by lia) (by lia)
      have st : prec lt (p.getD (n - 1) 0) (p.getD n 0) := .inr ⟨q, by lia⟩
      intro i j hij hj
      rcases Nat.lt_or_ge j n with hj' | hj'
      · exact a i j hij hj'
      · have : j = n := by lia
        subst this
        rcases Nat.lt_or_ge i (j - 1) with hi | hi
        · exact prec_trans O (a i (j - 1) hi (by lia)) st
        · have : i = j - 1 := by lia
          rw [this]; exact st

/-- the descending stretch: the last q + 1 are like ones, as they stood -/
structure DscB (lt : Nat → Nat → Bool) (p : Array Nat) (n q : Nat) : Prop where
  ahead : ∀ i j, i < j → j < n - (q + 1) → prec lt (p.getD j 0) (p.getD i 0)
  cross : ∀ i j, i < n - (q + 1) → n - (q + 1) ≤ j → j < n → lt (p.getD j 0) (p.getD i 0) = true
  like : ∀ i j, n - (q + 1) ≤ i → i < j → j < n → lt (p.getD i 0) (p.getD j 0) = false ∧ prec lt (p.getD i 0) (p.getD j 0)
theorem DscB.fin {p : Array Nat} {n q : Nat} (A : Arr N n p) (hn : n ≤ N) (hq : q < n) (D : DscB lt p n q) : Dsc lt (if q > 0 then kas_rev p (n - (q + 1)) n else p) n := by
  intro i j hij hj
  have rd : ∀ k, k < n → (if q > 0 then kas_rev p (n - (q + 1)) n else p).getD k 0 = if n - (q + 1) ≤ k then p.getD (n - (q + 1) + n - 1 - k) 0 else p.getD k 0 := fun k hk => by
    split
    · rw [rev_getD A (by lia) k (by lia)]
      by_cases h : n - (q + 1) ≤ k
      · rw [if_pos ⟨h, hk⟩, if_pos h]
      · rw [if_neg (fun x => h x.1), if_neg h]
    · split
      · congr 1; lia
      · rfl
  rw [rd i (by lia), rd j hj]
  by_cases h1 : n - (q + 1) ≤ i
  · rw [if_pos h1, if_pos (by lia)]
    exact (D.like _ _ (by lia) (by lia) (by lia)).2
  · rw [if_neg h1]
    by_cases h2 : n - (q + 1) ≤ j
    · rw [if_pos h2]; exact .inl (D.cross _ _ (by lia) (by lia) (by lia))
    · rw [if_neg h2]; exact D.ahead _ _ hij (by lia)

theorem desc_wp (O : SWN lt) (T : Tells lt N cmp s) : ∀ (f : Nat) (p : Array Nat) (n q : Nat) {G : Array Nat × Nat × Nat → Shared → Prop}, 1 ≤ n → n + f ≤ N → q < n → Arr N n p → DscB lt p n q →
    (∀ p' m q', n ≤ m → m ≤ n + f → q' < m → Arr N m p' → DscB lt p' m q' → G (p', m, q') s) → (kas_desc f p n q).kasWp cmp G s := by
  intro f
  induction f with
  | zero => intro p n q G h1 h2 hq A D hG; exact hG p n q (Nat.le_refl _) (by lia) hq A D
  | succ f ih =>
    intro p n q G h1 h2 hq A D hG
    have hpn := A.rest n (Nat.le_refl _) (by lia)
    show cmp _ _ _ _
    refine T _ _ _ (A.lt (by lia)) (A.lt (by lia)) (fun e => by have := A.inj (by lia) (by lia) e; lia) ?_
    cases c : lt (p.getD n 0) (p.getD (n - 1) 0) with
    | true =>
      simp only [if_true]
      have F := D.fin A (by lia) hq
      have A' : Arr N n (if q > 0 then kas_rev p (n - (q + 1)) n else p) := by split; exact A.rev (Nat.le_refl _) (by lia); exact A
      have last : lt n ((if q > 0 then kas_rev p (n - (q + 1)) n else p).getD (n - 1) 0) = true := by
        rw [hpn] at c
        split
        · rw [rev_getD A (by lia) _ (by lia), if_pos (by lia)]
          have e : n - (q + 1) + n - 1 - (n - 1) = n - (q + 1) := by lia
          rw [e]
          exact lt_of_tie O c (D.like (n - (q + 1)) (n - 1) (Nat.le_refl _) (by lia) (by lia)).1
        · exact c
      have goal : (kas_desc f (if q > 0 then kas_rev p (n - (q + 1)) n else p) (n + 1) 0).kasWp cmp G s := by
        generalize (if q > 0 then kas_rev p (n - (q + 1)) n else p) = p' at F A' last
        have hp'n := A'.rest n (Nat.le_refl _) (by lia)
        refine ih p' (n + 1) 0 (by lia) (by lia) (by lia) (A'.weak (by lia)) ⟨fun i j hij hj => F i j hij (by lia), fun i j hi hj hj2 => ?_, fun i j hi hij hj => by lia⟩ (fun p'' m q' a b c d e => hG p'' m q' (by lia) (by lia) c d e)
        have : j = n := by lia
        subst this
        rw [hp'n]
        rcases Nat.lt_or_ge i (j - 1) with hi' | hi'
        · exact lt_of_tie O last (prec_nlt O (F i (j - 1) hi' (by lia)))
        · have : i = j - 1 := by lia
          rw [this]; exact last
      by_cases hq0 : q > 0
      · rw [if_pos hq0] at goal ⊢; exact goal
      · rw [if_neg hq0] at goal ⊢; exact goal
    | false =>
      simp only [Bool.false_eq_true, if_false]
      show cmp _ _ _ _
      refine T _ _ _ (A.lt (by lia)) (A.lt (by lia)) (fun e => by have := A.inj (by lia) (by lia) e; lia) ?_
      cases d : lt (p.getD (n - 1) 0) (p.getD n 0) with
      | true => exact hG p n q (Nat.le_refl _) (by lia) hq A D
      | false =>
        simp only [Bool.false_eq_true, if_false]
        have e0 : n + 1 - (q + 1 + 1) = n - (q + 1) := by lia
        refine ih p (n + 1) (q + 1) (by lia) (by lia) (by lia) (A.weak (by lia)) ⟨?_, ?_, ?_⟩ (fun p'' m q' a b c d e => hG p'' m q' (by lia) (by lia) c d e)
        · rw [e0]; exact D.ahead
        · rw [e0]; intro i j hi hj hj2
          rcases Nat.lt_or_ge j n with h | h
          · exact D.cross i j hi hj h
          · have : j = n := by lia
            subst this
            exact lt_of_tie' O (D.cross i (j - 1) hi (by lia) (by lia)) d
        · rw [e0]; intro i j hi hij hj
          rcases Nat.lt_or_ge j n with h | h
          · exact D.like i j hi hij h
          · have : j = n := by lia
            subst this
            have hp1 := A.head (i := j - 1) (by lia) (by lia)
            have st : prec lt (p.getD (j - 1) 0) (p.getD j 0) := .inr ⟨c, by lia⟩
            rcases Nat.lt_or_ge i (j - 1) with hi' | hi'
            · have l := D.like i (j - 1) hi hi' (by lia)
              exact ⟨O.ntrans _ _ _ l.1 d, prec_trans O l.2 st⟩
            · have : i = j - 1 := by lia
              rw [this]; exact ⟨d, st⟩

theorem tail3_wp (O : SWN lt) (T : Tells lt N cmp s) {p : Array Nat} {n : Nat} {G : Nat × Array Nat → Shared → Prop} (h1 : 1 ≤ n) (hn : n ≤ N) (A : Arr N n p) (D : Dsc lt p n)
    (hG : ∀ m p', 1 ≤ m → m ≤ N → Arr N m p' → Asc lt p' m → G (m, p') s) : (kas_tail3 n N p).kasWp cmp G s := by
  unfold kas_tail3
  rw [KasT.kasWp_bind]
  exact asc_wp O T (N - n) n h1 (by lia) (A.rev (Nat.le_refl _) hn) (asc_rev A hn D) (fun m hm1 hm2 A' a' _ => hG m _ (by lia) (by lia) A' a')

theorem descPart_wp (O : SWN lt) (T : Tells lt N cmp s) {p : Array Nat} {n : Nat} {G : Nat × Array Nat → Shared → Prop} (h1 : 1 ≤ n) (hn : n + 1 ≤ N) (A : Arr N n p) (D : Dsc lt p n) (hl : lt (p.getD n 0) (p.getD (n - 1) 0) = true)
    (hG : ∀ m p', 1 ≤ m → m ≤ N → Arr N m p' → Asc lt p' m → G (m, p') s) : (kas_descPart n N p).kasWp cmp G s := by
  unfold kas_descPart
  rw [KasT.kasWp_bind]
  have D0 : DscB lt p (n + 1) 0 := ⟨fun i j hij hj => D i j hij (by lia), fun i j hi hj hj2 => by
    have : j = n := by lia
    subst this
    rcases Nat.lt_or_ge i (j - 1) with hi' | hi'
    · exact lt_of_tie O hl (prec_nlt O (D i (j - 1) hi' (by lia)))
    · have : i = j - 1 := by lia
      rw [this]; exact hl, fun i j hi hij hj => by lia⟩
  refine desc_wp O T (N - (n + 1)) p (n + 1) 0 (by lia) (by lia) (by lia) (A.weak (by lia)) D0 (fun p' m q' hm1 hm2 hq A' D' => ?_)
  have F := D'.fin A' (by lia) hq
  show KasT.kasWp cmp (if q' > 0 then kas_tail3 m N (kas_rev p' (m - (q' + 1)) m) else kas_tail3 m N p') G s
  by_cases hq0 : q' > 0
  · rw [if_pos hq0] at F ⊢
    exact tail3_wp O T (by lia) (by lia) (A'.rev (Nat.le_refl _) (by lia)) F hG
  · rw [if_neg hq0] at F ⊢
    exact tail3_wp O T (by lia) (by lia) A' F hG

theorem count_wp (O : SWN lt) (T : Tells lt N cmp s) {G : Nat × Array Nat → Shared → Prop} {p : Array Nat} (hN : 1 ≤ N) (A : Arr N 1 p)
    (hG : ∀ m p', 1 ≤ m → m ≤ N → Arr N m p' → Asc lt p' m → G (m, p') s) : (kas_count N p).kasWp cmp G s := by
  unfold kas_count
  rw [KasT.kasWp_bind]
  refine asc_wp O T (N - 1) 1 (Nat.le_refl _) (by lia) A (fun i j h1 h2 => by lia) (fun n hn1 hn2 A' a' hl => ?_)
  by_cases e : n = N
  · subst e
    simp only [beq_self_eq_true, if_true]
    exact hG n p hn1 (Nat.le_refl _) A' a'
  · have : (n == N) = false := by simpa using e
    simp only [this, Bool.false_eq_true, if_false]
    have hl' := hl (by lia)
    by_cases h1 : n > 1
    · rw [if_pos h1]
      show cmp _ _ _ _
      refine T _ _ _ (A'.lt (by lia)) (A'.lt (by lia)) (fun e => by have := A'.inj (by lia) (by lia) e; lia) ?_
      cases c : lt (p.getD 0 0) (p.getD (n - 1) 0) with
      | true => exact hG n p hn1 (by lia) A' a'
      | false =>
        simp only [Bool.false_eq_true, if_false]
        refine descPart_wp O T hn1 (by lia) (A'.rev (Nat.le_refl _) (by lia)) (dsc_rev A' (by lia) a') ?_ hG
        rw [rev_getD A' (by lia) _ (by lia), rev_getD A' (by lia) _ (by lia), if_neg (by lia), if_pos (by lia)]
        have e1 : 0 + n - 1 - (n - 1) = 0 := by lia
        rw [e1]
        exact lt_of_tie O hl' c
    · rw [if_neg h1]
      have : n = 1 := by lia
      subst this
      exact descPart_wp O T hn1 (by lia) A' (fun i j h1 h2 => by lia) hl' hG

theorem place_wp (O : SWN lt) (T : Tells lt N cmp s) {p : Array Nat} {k : Nat} (hk : k < N) (A : Arr N k p) (a : Asc lt p k) : ∀ (f l r : Nat) {G : Nat → Shared → Prop}, r ≤ k → l ≤ r → r - l ≤ f →
    (∀ i, i < l → lt k (p.getD i 0) = false) → (∀ i, r ≤ i → i < k → lt k (p.getD i 0) = true) →
    (∀ l', l' ≤ k → (∀ i, i < l' → lt k (p.getD i 0) = false) → (∀ i, l' ≤ i → i < k → lt k (p.getD i 0) = true) → G l' s) → (kas_place p k f l r).kasWp cmp G s := by
  intro f
  induction f with
  | zero =>
    intro l r G hr hlr hf h1 h2 hG
    have : l = r := by lia
    subst this
    exact hG l hr h1 h2
  | succ f ih =>
    intro l r G hr hlr hf h1 h2 hG
    unfold kas_place
    by_cases hge : l ≥ r
    · rw [if_pos hge]
      have : l = r := by lia
      subst this
      exact hG l hr h1 h2
    · rw [if_neg hge]
      show cmp _ _ _ _
      have hpk := A.rest k (Nat.le_refl _) hk
      refine T _ _ _ (A.lt hk) (A.lt (by lia)) (fun e => by have := A.inj hk (by lia) e; lia) ?_
      rw [hpk]
      cases c : lt k (p.getD ((l + r) / 2) 0) with
      | true =>
        simp only [if_true]
        refine ih l ((l + r) / 2) (by lia) (by lia) (by lia) h1 (fun i hi hik => ?_) hG
        rcases Nat.lt_or_ge ((l + r) / 2) i with h | h
        · exact lt_of_tie O c (prec_nlt O (a _ _ h hik))
        · have : i = (l + r) / 2 := by lia
          rw [this]; exact c
      | false =>
        simp only [Bool.false_eq_true, if_false]
        refine ih ((l + r) / 2 + 1) r hr (by lia) (by lia) (fun i hi => ?_) h2 hG
        rcases Nat.lt_or_ge i ((l + r) / 2) with h | h
        · exact O.ntrans _ _ _ c (prec_nlt O (a _ _ h (by lia)))
        · have : i = (l + r) / 2 := by lia
          rw [this]; exact c

theorem bub_getD {p : Array Nat} {k l : Nat} (A : Arr N k p) (hk : k < N) (hl : l ≤ k) (i : Nat) (hi : i < N) : (bubble p k (k - l)).getD i 0 = if i = l then p.getD k 0 else if l < i ∧ i ≤ k then p.getD (i - 1) 0 else p.getD i 0 := by
  have hs := A.size
  have e := getElem?_bubble (xs := p) (src := k) (by lia) (k - l) (by lia) i
  rw [getD_of (by rw [bubble_size]; lia)] at e
  have e0 : k - (k - l) = l := by lia
  rw [e0] at e
  split at e
  · rename_i q; rw [if_pos q]; rw [getD_of (by lia)] at e; exact Option.some.inj e
  · rename_i q; rw [if_neg q]
    split at e
    · rename_i q2; rw [if_pos q2]; rw [getD_of (by lia)] at e; exact Option.some.inj e
    · rename_i q2; rw [if_neg q2]; rw [getD_of (by lia)] at e; exact Option.some.inj e

theorem bin_wp (O : SWN lt) (T : Tells lt N cmp s) : ∀ (f : Nat) (p : Array Nat) (k : Nat) {G : Array Nat → Shared → Prop}, k + f = N → Arr N k p → Asc lt p k →
    (∀ p', Arr N N p' → Asc lt p' N → G p' s) → (kas_bin f p k).kasWp cmp G s := by
  intro f
  induction f with
  | zero => intro p k G hk A a hG; have : k = N := by lia
            subst this; exact hG p A a
  | succ f ih =>
    intro p k G hk A a hG
    unfold kas_bin
    rw [KasT.kasWp_bind]
    refine place_wp O T (by lia) A a k 0 k (Nat.le_refl _) (by lia) (by lia) (fun i hi => by lia) (fun i h1 h2 => by lia) (fun l hl h1 h2 => ?_)
    have hpk := A.rest k (Nat.le_refl _) (by lia)
    have rd := fun i hi => bub_getD A (by lia) hl i hi
    refine ih _ (k + 1) (by lia) ⟨(Array.perm_iff_toList_perm.mp (bubble_perm p k (k - l))).trans A.perm, fun i hi hi2 => ?_⟩ ?_ hG
    · rw [rd i hi2, if_neg (by lia), if_neg (by lia)]; exact A.rest i (by lia) hi2
    · intro i j hij hj
      rw [rd i (by lia), rd j (by lia)]
      by_cases i1 : i = l
      · rw [if_pos i1, if_neg (by lia), if_pos (by lia), hpk]
        exact .inl (h2 _ (by lia) (by lia))
      · rw [if_neg i1]
        by_cases j1 : j = l
        · rw [if_pos j1, if_neg (by lia), hpk]
          exact .inr ⟨h1 i (by lia), A.head (by lia) (by lia)⟩
        · rw [if_neg j1]
          by_cases i2 : l < i ∧ i ≤ k
          · rw [if_pos i2, if_pos (by lia)]; exact a _ _ (by lia) (by lia)
          · rw [if_neg i2]
            by_cases j2 : l < j ∧ j ≤ k
            · rw [if_pos j2]; exact a _ _ (by lia) (by lia)
            · rw [if_neg j2]; exact a _ _ hij (by lia)

/-- what a sort of N things yields: a stable arrangement -/
structure Stable (lt : Nat → Nat → Bool) (N : Nat) (p : List Nat) : Prop where
  perm : p.Perm (List.range N)
  sorted : p.Pairwise (prec lt)
theorem stable_of {p : Array Nat} (A : Arr N N p) (a : Asc lt p N) : Stable lt N p.toList := by
  refine ⟨A.perm, List.pairwise_iff_getElem.mpr fun i j hi hj hij => ?_⟩
  have hs := A.size
  have hi' : i < N := by simpa [hs] using hi
  have hj' : j < N := by simpa [hs] using hj
  have := a i j hij hj'
  have e1 : p.getD i 0 = p.toList[i] := by simp [Array.getD, hs, hi']
  have e2 : p.getD j 0 = p.toList[j] := by simp [Array.getD, hs, hj']
  rw [e1, e2] at this
  exact this
theorem sort_wp (O : SWN lt) (T : Tells lt N cmp s) (hN : 1 ≤ N) {G : Array Nat → Shared → Prop} (hG : ∀ p, Stable lt N p.toList → G p s) : (kas_sort N).kasWp cmp G s := by
  unfold kas_sort
  rw [KasT.kasWp_bind]
  have A0 : Arr N 1 (List.range N).toArray := ⟨by simp, fun i h1 h2 => by simp [Array.getD, h2]⟩
  refine count_wp O T hN A0 (fun m p' h1 h2 A a => ?_)
  show KasT.kasWp cmp (if m < N then kas_bin (N - max m 1) p' (max m 1) else .ret p') G s
  have e : max m 1 = m := by lia
  rw [e]
  by_cases h : m < N
  · rw [if_pos h]
    exact bin_wp O T (N - m) p' m (by lia) A a (fun p'' A' a' => hG p'' (stable_of A' a'))
  · rw [if_neg h]
    have : m = N := by lia
    subst this
    exact hG p' (stable_of A a)
end
end
section
section
variable {prog : Program} {w : World} {A : Around} {E : Value → Shared → Prop} {s : Shared} {h₀ : Heap} {L a : Addr} {m : Str → Option Value} {news : List (Addr × Obj)} {vs : List Value}

theorem list_sortR {n : Nat} {kw : List (Str × Value)} {P : PySem.Fin → Shared → Prop} (F : Fr h₀ L s.heap m) (N : News h₀ L s.heap news) (ho : s.heap.get? a = some (seqObj "list" vs.toArray n)) (haL : a ≠ L) (ha0 : h₀.get? a = none) (hna : ∀ p ∈ news, p.1 ≠ a)
    (h2 : 2 ≤ vs.length) (h64 : vs.length < 64) (hkw : Builtin.«list.sort» ⟨[.ref a], kw⟩ = Builtin.«list.sort» ⟨[.ref a], [(Str.ofString "reverse", .bool true)]⟩)
    (h : ∀ e1 h', Fr h₀ L h' m → News h₀ L h' ((a, seqObj "list" #[] e1) :: news) →
      wpAny (model prog w) A (keyKind' vs.toArray) (fun κ s' => (kas_sort vs.length).kasWp (kas_ask prog w A κ vs.reverse) (fun p s'' => KasFin h₀ L m a e1 (p.toList.map fun i => vs.reverse.getD i Value.none).reverse (fun s3 => P (.done (.ret .none)) s3) s'') s') (fun _ _ => False) { s with heap := h' }) :
    wpAny (model prog w) A (Builtin.«list.sort» ⟨[.ref a], kw⟩) P E s := by
  have s1 := Heap.SameBut.update s.heap a (Obj.mapSeq fun _ => (#[] : Array Value))
  obtain ⟨e1, ho1⟩ : ∃ e1, (s.heap.update a (Obj.mapSeq fun _ => (#[] : Array Value))).get? a = some (seqObj "list" #[] e1) := ⟨_, get?_update_seq ho fun _ => #[]⟩
  have F3 : Fr h₀ L (((s.heap.update a (Obj.mapSeq fun _ => (#[] : Array Value))).push (seqObj "tuple" vs.toArray 0)).push (seqObj "list" #[] 0)) m := ((kas_fr F s1 haL ha0).push _).push _
  have N2 : News h₀ L (((s.heap.update a (Obj.mapSeq fun _ => (#[] : Array Value))).push (seqObj "tuple" vs.toArray 0)).push (seqObj "list" #[] 0)) news :=
    (kas_news N s1 hna).grown fun b x e => Heap.get?_push_of_some _ (Heap.get?_push_of_some _ e)
  have N3 : News h₀ L (((s.heap.update a (Obj.mapSeq fun _ => (#[] : Array Value))).push (seqObj "tuple" vs.toArray 0)).push (seqObj "list" #[] 0)) ((a, seqObj "list" #[] e1) :: news) := fun p hp => by
    rcases List.mem_cons.mp hp with rfl | hp
    · exact ⟨Heap.get?_push_of_some _ (Heap.get?_push_of_some _ ho1), haL, ha0⟩
    · exact N2 p hp
  have ask := h e1 _ F3 N3
  rw [hkw, list_sort_rev]
  refine wpAny_bind (listItems_at ho rfl ?_)
  refine wpAny_bind (listUpdate_at ho rfl ?_ (by rw [List.size_toArray, sizeLine_eq]; omega) (Nat.zero_le _))
  refine wpAny_bind (seqEpoch_at ho1 rfl ?_)
  refine wpAny_bind (wpAny_newTuple ?_ (by show vs.length ≤ _; rw [sizeLine_eq]; omega))
  refine wpAny_bind (wpAny_newList ?_ (Nat.zero_le _))
  refine wpAny_holding ?_
  show wpAny (model prog w) A _ P E { s with heap := ((s.heap.update a (Obj.mapSeq fun _ => (#[] : Array Value))).push (seqObj "tuple" vs.toArray 0)).push (seqObj "list" #[] 0) }
  dsimp only
  have hn2 : ¬ vs.toArray.size < 2 := by rw [List.size_toArray]; omega
  simp only [if_true]
  refine wpAny_bind (wpAny_rule ?_)
  rw [if_neg hn2, if_neg hn2]
  refine wpAny_bind (wpAny_mono ask (fun κ s0 hk => ?_) fun _ _ x => x.elim)
  have hp0 := kat_pairs (ks := vs) (vs := vs) true rfl
  rw [if_pos rfl] at hp0
  have hp1 : (vs.toArray.zip vs.toArray).reverse = vs.reverse.toArray.zip vs.reverse.toArray := hp0
  rw [hp1]
  have hk' : (kas_sort vs.reverse.length).kasWp (kas_ask prog w A κ vs.reverse) (fun p s'' => KasFin h₀ L m a e1 (p.toList.map fun i => vs.reverse.getD i Value.none).reverse (fun s3 => P (.done (.ret .none)) s3) s'') s0 := by
    rw [List.length_reverse]; exact hk
  refine wpAny_bind (wpAny_mono (kat_run (vs := vs.reverse) (Q := fun st' s' => ∃ p : Array Nat, p.size = vs.reverse.length ∧ arrOf st' = p.map (kas_item (vs.reverse.toArray.zip vs.reverse.toArray)) ∧ failedOf st' = none ∧ KasFin h₀ L m a e1 (p.toList.map fun i => vs.reverse.getD i Value.none).reverse (fun s'' => P (.done (.ret .none)) s'') s')
    rfl (by rw [List.length_reverse]; exact h2) (by rw [List.length_reverse]; exact h64) (fun p' st' s' a1 a2 a3 a4 => ⟨p', a1, a2, a3, a4⟩) hk') ?_ fun _ _ e => e)
  rintro ⟨⟨⟩, st'⟩ s' ⟨p, hp, har, hf, news', g, F', N', U, k⟩
  dsimp only
  obtain ⟨pre, post, e0, hg, x1, x2⟩ := U.split
  rw [e0] at N'
  have na := N' (a, seqObj "list" #[] e1) (List.mem_append_right _ (.head _))
  have hout := kat_snds rfl har
  have hsz : (List.toArray (p.toList.map fun i => vs.reverse.getD i Value.none).reverse).size = vs.length := by rw [List.size_toArray, List.length_reverse, List.length_map, Array.length_toList, hp, List.length_reverse]
  rw [hout]
  simp only [List.reverse_toArray]
  have s2 := Heap.SameBut.update s'.heap a (Obj.mapSeq fun _ => List.toArray (p.toList.map fun i => vs.reverse.getD i Value.none).reverse)
  obtain ⟨c2, hc2⟩ : ∃ c2, (s'.heap.update a (Obj.mapSeq fun _ => List.toArray (p.toList.map fun i => vs.reverse.getD i Value.none).reverse)).get? a = some (seqObj "list" (List.toArray (p.toList.map fun i => vs.reverse.getD i Value.none).reverse) c2) := ⟨_, get?_update_seq na.1 fun _ => List.toArray (p.toList.map fun i => vs.reverse.getD i Value.none).reverse⟩
  refine wpAny_bind (seqEpoch_at na.1 rfl ?_)
  refine wpAny_bind (listUpdate_at na.1 rfl ?_ (Nat.zero_le _) (Nat.le_trans (Nat.le_of_eq hsz) (by rw [sizeLine_eq]; omega)))
  rw [hf]
  simp only [bne_self_eq_false, Bool.false_eq_true, if_false]
  refine wpAny_pure (k _ c2 (kas_fr F' s2 na.2.1 na.2.2) ?_)
  rw [hg]
  exact news_set N' x1 x2 s2 hc2

theorem call_bytes_lt {b c : Array UInt8} {t u : Tok} {Q : Value → Shared → Prop} (h : Q (.bool (blt b.toList c.toList)) s) :
    wpAny (model prog w) A (call (.builtin "bytes.__lt__") [.bytes b t, .bytes c u]) Q E s := by
  refine wpAny_call_entry slot_bytes_lt (typeIs_bytes s b t) entry_bytes_lt ?_ (args_bytes_lt_2 _ _)
  show wpAny _ _ (isInstance (.bytes c u) (.type "bytes") >>= fun r => _) _ _ s
  refine wpAny_bind (wpAny_isInstance (typeIs_bytes s c u) PySem.F.sub_bytes_bytes ?_)
  exact wpAny_pure ⟨_, rfl, h⟩
theorem oneLt_bytes {b c : Array UInt8} {t u : Tok} {Q : Bool → Shared → Prop} (h : Q (blt b.toList c.toList) s) : wpAny (model prog w) A (oneLt' true (.bytes b t) (.bytes c u)) Q E s := by
  rw [oneLt'_eq]
  simp only [if_true]
  refine wpAny_bind (wpAny_cRoomFor_byValue rfl ?_)
  refine wpAny_bind (wpAny_callSpecialIfBound?_slot (typeIs_bytes s b t) slot_bytes_lt (call_bytes_lt ?_))
  exact wpAny_truthy_bool h

/-- an item of the heap: a word, a number, perhaps a thing -/
structure Itm where
  adr : Addr
  key : List UInt8
  ord : Int
  t : Tok
  u : Tok
  more : List Value
noncomputable def Itm.val (i : Itm) : Value := .ref i.adr
noncomputable def Itm.obj (i : Itm) : Obj := tupO (.bytes i.key.toArray i.t :: .int i.ord i.u :: i.more)
noncomputable def ltI (a b : Itm) : Bool := blt a.key b.key || (a.key == b.key && decide (a.ord < b.ord))
theorem keyLt_tup {a b : Itm} {Q : Bool → Shared → Prop} (ha : s.heap.get? a.adr = some a.obj) (hb : s.heap.get? b.adr = some b.obj) (hne : a.ord ≠ b.ord) (h : Q (ltI a b) s) :
    wpAny (model prog w) A (keyLt' (tuples' true) a.val b.val) Q E s := by
  refine kat_lt ha rfl hb rfl ?_
  show KatLex prog w A true _ Q ((.bytes a.key.toArray a.t, .bytes b.key.toArray b.t) :: (.int a.ord a.u, .int b.ord b.u) :: _) 0 s
  refine kat_cons (eqBool_bytes ?_)
  by_cases hk : a.key = b.key
  · have e0 : (a.key.toArray.toList == b.key.toArray.toList) = true := by simp [hk]
    rw [e0]
    refine kat_yes (kat_cons (wpAny_eqBool_int ?_))
    have e1 : (a.ord == b.ord) = false := by simpa using hne
    rw [e1]
    refine kat_no ?_
    show wpAny _ _ (oneLt' false _ _) _ _ _
    refine kat_one _ _ (PyProof.Rows.lt_int ?_)
    have e2 : ltI a b = decide (a.ord < b.ord) := by
      unfold ltI
      rw [hk]
      have e3 : blt b.key b.key = false := by
        unfold blt
        have : (Builtin.Bytes.order b.key b.key == .eq) = true := by rw [order_eq]; simp
        have := eq_of_beq this
        rw [this]; rfl
      simp [e3]
    rw [e2] at h
    exact h
  · have e0 : (a.key.toArray.toList == b.key.toArray.toList) = false := by simpa using hk
    rw [e0]
    refine kat_no ?_
    show wpAny _ _ (oneLt' true _ _) _ _ _
    refine oneLt_bytes ?_
    have e3 : (a.key == b.key) = false := by simpa using hk
    unfold ltI at h
    rw [e3] at h
    simpa using h

theorem tups_of : ∀ (its : List Itm), (∀ i ∈ its, s.heap.get? i.adr = some i.obj) → KatTups s.heap (its.map Itm.val) (its.map fun i => Value.bytes i.key.toArray i.t)
  | [], _ => KatTups.nil
  | i :: r, h => KatTups.cons (h i (.head _)) rfl rfl rfl (tups_of r fun j hj => h j (.tail _ hj))
theorem kind_tup {its : List Itm} {Q : SortKind → Shared → Prop} (hi : ∀ i ∈ its, s.heap.get? i.adr = some i.obj) (hne : 0 < its.length) (h : Q (tuples' true) s) :
    wpAny (model prog w) A (keyKind' (its.map Itm.val).toArray) Q E s := by
  refine kat_kind (T := .type "bytes") (tups_of its hi) (by simpa using hne) (fun v hv => ?_) (by simp) ?_
  · obtain ⟨i, _, rfl⟩ := List.mem_map.mp hv
    exact Looks.of_pure rfl
  · have : (Value.type "bytes" != Value.type "tuple") = true := by decide
    rw [this]; exact h

noncomputable def itm0 : Itm := ⟨0, [], 0, 0, 0, []⟩
noncomputable def ixLt (its : List Itm) (i j : Nat) : Bool := ltI (its.getD i itm0) (its.getD j itm0)
theorem val_getD {its : List Itm} {i : Nat} (h : i < its.length) : (its.map Itm.val).getD i Value.none = (its.getD i itm0).val := by
  simp [h]
theorem tells_tup {its : List Itm} (hi : ∀ i ∈ its, s.heap.get? i.adr = some i.obj) (hn : (its.map Itm.ord).Nodup) :
    ∀ i j C, i < its.length → j < its.length → i ≠ j → C (ixLt its i j) s → kas_ask prog w A (tuples' true) (its.map Itm.val) i j C s := by
  intro i j C h1 h2 hij hC
  unfold kas_ask
  rw [val_getD h1, val_getD h2]
  have e1 : its.getD i itm0 = its[i] := by simp [h1]
  have e2 : its.getD j itm0 = its[j] := by simp [h2]
  refine keyLt_tup (hi _ (by rw [e1]; exact List.getElem_mem h1)) (hi _ (by rw [e2]; exact List.getElem_mem h2)) ?_ hC
  intro e
  rw [e1, e2] at e
  have := (List.getElem_inj hn (i := i) (j := j) (h₀ := by simpa using h1) (h₁ := by simpa using h2)).mp (by simpa using e)
  exact hij this

theorem ixTells {its : List Itm} (hi : ∀ i ∈ its, s.heap.get? i.adr = some i.obj) (hn : (its.map Itm.ord).Nodup) : Tells (ixLt its) its.length (kas_ask prog w A (tuples' true) (its.map Itm.val)) s := tells_tup hi hn
theorem order_asymm : ∀ a b : List UInt8, Builtin.Bytes.order a b = .lt → Builtin.Bytes.order b a = .gt
  | [], [], h => by simp [Builtin.Bytes.order] at h
  | [], _ :: _, _ => rfl
  | _ :: _, [], h => by simp [Builtin.Bytes.order] at h
  | x :: a, y :: b, h => by
    unfold Builtin.Bytes.order at h ⊢
    by_cases h1 : x < y
    · have : ¬ y < x := fun e => absurd (UInt8.lt_trans h1 e) (UInt8.lt_irrefl _)
      simp [h1, this]
    · rw [if_neg h1] at h
      by_cases h2 : x > y
      · rw [if_pos h2] at h; cases h
      · rw [if_neg h2] at h
        have h2' : ¬ y < x := h2
        simp [h1, h2', order_asymm a b h]
/-- words by the order of a dictionary -/
structure BO : Prop where
  irrefl : ∀ a, blt a a = false
  asymm : ∀ a b, blt a b = true → blt b a = false
  ntrans : ∀ a b c, blt a b = false → blt b c = false → blt a c = false
  total : ∀ a b, blt a b = false → blt b a = false → a = b
theorem blt_cons (x y : UInt8) (a b : List UInt8) : blt (x :: a) (y :: b) = (decide (x < y) || (x == y && blt a b)) := by
  unfold blt
  rw [show Builtin.Bytes.order (x :: a) (y :: b) = if x < y then .lt else if x > y then .gt else Builtin.Bytes.order a b from rfl]
  by_cases h1 : x < y
  · simp [h1]
  · by_cases h2 : x > y
    · have : x ≠ y := fun e => by subst e; exact absurd h2 (UInt8.lt_irrefl _)
      rw [if_neg h1, if_pos h2]
      simp [h1, this]
    · have : x = y := UInt8.le_antisymm (UInt8.not_lt.mp h2) (UInt8.not_lt.mp h1)
      subst this
      rw [if_neg h1, if_neg h2]
      simp [UInt8.lt_irrefl]
theorem blt_nil_cons (y : UInt8) (b : List UInt8) : blt [] (y :: b) = true := rfl
theorem blt_nil (a : List UInt8) : blt a [] = false := by cases a <;> rfl
theorem bo : BO := by
  have irr : ∀ a, blt a a = false := by
    intro a
    induction a with
    | nil => rfl
    | cons x a ih => rw [blt_cons, ih]; simp [UInt8.lt_irrefl]
  refine ⟨irr, ?_, ?_, ?_⟩
  · intro a
    induction a with
    | nil => intro b _; exact blt_nil b
    | cons x a ih =>
      intro b h
      cases b with
      | nil => rw [blt_nil] at h; cases h
      | cons y b =>
        rw [blt_cons] at h ⊢
        simp only [Bool.or_eq_true, decide_eq_true_eq, Bool.and_eq_true, beq_iff_eq] at h
        rcases h with h | ⟨rfl, h⟩
        · have h1 : ¬ y < x := fun e => absurd (UInt8.lt_trans h e) (UInt8.lt_irrefl _)
          have h2 : y ≠ x := fun e => by subst e; exact absurd h (UInt8.lt_irrefl _)
          simp [h1, h2]
        · simp [UInt8.lt_irrefl, ih b h]
  · intro a
    induction a with
    | nil =>
      intro b c h1 h2
      cases b with
      | nil => exact h2
      | cons y b => rw [blt_nil_cons] at h1; cases h1
    | cons x a ih =>
      intro b c h1 h2
      cases c with
      | nil => exact blt_nil _
      | cons z c =>
        cases b with
        | nil => rw [blt_nil_cons] at h2; cases h2
        | cons y b =>
          rw [blt_cons] at h1 h2 ⊢
          simp only [Bool.or_eq_false_iff, decide_eq_false_iff_not, Bool.and_eq_false_iff, beq_eq_false_iff_ne] at h1 h2 ⊢
          obtain ⟨p1, p2⟩ := h1
          obtain ⟨q1, q2⟩ := h2
          have r1 : ¬ x < z := fun e => by
            have a1 : y ≤ x := UInt8.not_lt.mp p1
            have a2 : z ≤ y := UInt8.not_lt.mp q1
            exact absurd (UInt8.lt_of_lt_of_le e (UInt8.le_trans a2 a1)) (UInt8.lt_irrefl _)
          refine ⟨r1, ?_⟩
          by_cases e : x = z
          · subst e
            have a1 : y ≤ x := UInt8.not_lt.mp p1
            have a2 : x ≤ y := UInt8.not_lt.mp q1
            have : x = y := UInt8.le_antisymm a2 a1
            subst this
            right
            exact ih b c (p2.resolve_left (fun h => h rfl)) (q2.resolve_left (fun h => h rfl))
          · exact .inl e
  · intro a
    induction a with
    | nil =>
      intro b h1 _
      cases b with
      | nil => rfl
      | cons y b => rw [blt_nil_cons] at h1; cases h1
    | cons x a ih =>
      intro b h1 h2
      cases b with
      | nil => rw [blt_nil_cons] at h2; cases h2
      | cons y b =>
        rw [blt_cons] at h1 h2
        simp only [Bool.or_eq_false_iff, decide_eq_false_iff_not, Bool.and_eq_false_iff, beq_eq_false_iff_ne] at h1 h2
        have : x = y := UInt8.le_antisymm (UInt8.not_lt.mp h2.1) (UInt8.not_lt.mp h1.1)
        subst this
        rw [ih b (h1.2.resolve_left fun h => h rfl) (h2.2.resolve_left fun h => h rfl)]
theorem ltI_swo : (∀ a b, ltI a b = true → ltI b a = false) ∧ (∀ a b c, ltI a b = false → ltI b c = false → ltI a c = false) := by
  constructor
  · intro a b h
    unfold ltI at *
    simp only [Bool.or_eq_true, Bool.and_eq_true, beq_iff_eq, decide_eq_true_eq, Bool.or_eq_false_iff, Bool.and_eq_false_iff, beq_eq_false_iff_ne, decide_eq_false_iff_not] at *
    rcases h with h | ⟨h1, h2⟩
    · refine ⟨bo.asymm _ _ h, .inl fun e => ?_⟩
      rw [e, bo.irrefl] at h; cases h
    · rw [h1]; exact ⟨bo.irrefl _, .inr (by omega)⟩
  · intro a b c h1 h2
    unfold ltI at *
    simp only [Bool.or_eq_false_iff, Bool.and_eq_false_iff, beq_eq_false_iff_ne, decide_eq_false_iff_not] at *
    refine ⟨bo.ntrans _ _ _ h1.1 h2.1, ?_⟩
    by_cases e : a.key = c.key
    · right
      have e1 : a.key = b.key := by
        refine bo.total _ _ h1.1 ?_
        rw [e]; exact h2.1
      have e2 : b.key = c.key := by rw [← e1]; exact e
      have := h1.2.resolve_left (fun h => h e1)
      have := h2.2.resolve_left (fun h => h e2)
      omega
    · exact .inl e
theorem ix_swn (its : List Itm) : SWN (ixLt its) := ⟨fun a b => ltI_swo.1 _ _, fun a b c => ltI_swo.2 _ _ _⟩
end
end
section
section
variable {prog : Program} {w : World} {A : Around} {E : Value → Shared → Prop} {s : Shared} {g : Heap} {L : Addr} {m : Str → Option Value}

theorem sortT {its : List Itm} {rest : List (Addr × Obj)} {D : Addr} {e : Nat} {Q : Value → Shared → Prop} (F : Fr g L s.heap m) (N : News g L s.heap ((D, listOf (its.map Itm.val).toArray e) :: rest)) (hD : ∀ q ∈ rest, q.1 ≠ D)
    (hin : ∀ i ∈ its, (i.adr, i.obj) ∈ rest) (hn : (its.map Itm.ord).Nodup) (h2 : 2 ≤ its.length) (h64 : its.length < 64)
    (h : ∀ h' c p, Stable (ixLt its) its.length p → Fr g L h' m → News g L h' ((D, listOf (p.map fun i => (its.map Itm.val).getD i Value.none).toArray c) :: rest) → Q .none { s with heap := h' }) :
    wpAny (model prog w) A (call (.builtin "list.sort") [.ref D]) Q E s := by
  refine kat_lsort (vs := its.map Itm.val) F N (.head hD) rfl (by simpa using h2) (by simpa using h64) (fun e1 h' F' N' => ?_)
  have hi : ∀ i ∈ its, h'.get? i.adr = some i.obj := fun i hi => (N' _ (.tail _ (hin i hi))).1
  refine kind_tup hi (by omega) ?_
  rw [List.length_map]
  refine sort_wp (ix_swn its) (ixTells hi hn) (by omega) (fun p hp => ?_)
  exact KasFin.intro F' N' (.head hD) (fun h'' c F'' N'' => h h'' c _ hp F'' N'')
theorem args_sort_rev (a v : Value) : argsOk "list.sort" ⟨[a], [(Str.ofString "reverse", v)]⟩ := by unfold argsOk; kernel_rfl
theorem sortTR {its : List Itm} {rest : List (Addr × Obj)} {D : Addr} {e : Nat} {Q : Value → Shared → Prop} (F : Fr g L s.heap m) (N : News g L s.heap ((D, listOf (its.map Itm.val).toArray e) :: rest)) (hD : ∀ q ∈ rest, q.1 ≠ D)
    (hin : ∀ i ∈ its, (i.adr, i.obj) ∈ rest) (hn : (its.map Itm.ord).Nodup) (h2 : 2 ≤ its.length) (h64 : its.length < 64)
    (h : ∀ h' c p, Stable (ixLt its.reverse) its.length p → Fr g L h' m → News g L h' ((D, listOf (p.map fun i => (its.reverse.map Itm.val).getD i Value.none).reverse.toArray c) :: rest) → Q .none { s with heap := h' }) :
    wpAny (model prog w) A (call (.builtin "list.sort") [.ref D] [(Str.ofString "reverse", .bool true)]) Q E s := by
  have nz := N (D, listOf (its.map Itm.val).toArray e) (.head _)
  refine wpAny_call_entry_kw slot_list_sort ⟨_, nz.1, rfl⟩ entry_list_sort (list_sortR (vs := its.map Itm.val) F (fun q hq => N q (.tail _ hq)) nz.1 nz.2.1 nz.2.2 hD (by simpa using h2) (by simpa using h64) rfl (fun e1 h' F' N' => ?_)) (args_sort_rev _ _)
  have hi : ∀ i ∈ its, h'.get? i.adr = some i.obj := fun i hi => (N' _ (.tail _ (hin i hi))).1
  refine kind_tup hi (by omega) ?_
  rw [List.length_map, ← List.map_reverse]
  have hi' : ∀ i ∈ its.reverse, h'.get? i.adr = some i.obj := fun i h => hi i (List.mem_reverse.mp h)
  have hn' : (its.reverse.map Itm.ord).Nodup := by rw [List.map_reverse]; exact List.pairwise_reverse.mpr (hn.imp fun h => Ne.symm h)
  have T := ixTells (prog := prog) (w := w) (A := A.in1) (s := { s with heap := h' }) hi' hn'
  rw [List.length_reverse] at T
  refine sort_wp (ix_swn its.reverse) T (by omega) (fun p hp => ?_)
  exact KasFin.intro F' N' (.head hD) (fun h'' c F'' N'' => ⟨_, rfl, h h'' c _ hp F'' N''⟩)

/-- a key function that tells words and leaves the heap alone -/
noncomputable def KeyOk (prog : Program) (w : World) (t : Heap) (key : Value) (vs : List Value) (kf : Value → List UInt8) : Prop :=
  ∀ v ∈ vs, ∀ (A : Around) (E : Value → Shared → Prop) (Q : Value → Shared → Prop) (s : Shared), A.units + 300 < cLine → A.depth + 10 < recursionLimit → A.handled = none → Keep [] t s.heap →
    (∀ s' tk, KeepS [] s s' → Q (.bytes (kf v).toArray tk) s') → wpAny (model prog w) A (call key [v]) Q E s
theorem KeyOk.mono {t t' : Heap} {key : Value} {vs vs' : List Value} {kf : Value → List UInt8} (C : KeyOk prog w t key vs kf) (hs : Keep [] t t') (hv : ∀ v ∈ vs', v ∈ vs) : KeyOk prog w t' key vs' kf :=
  fun v hv' A E Q s h1 h2 h3 hk h => C v (hv v hv') A E Q s h1 h2 h3 (hs.trans hk) h

noncomputable def BA : List Value → List (List UInt8) → Prop
  | [], [] => True
  | k :: ks, b :: bs => (∃ t, k = Value.bytes b.toArray t) ∧ BA ks bs
  | _, _ => False
theorem BA.len : ∀ {ks : List Value} {bs : List (List UInt8)}, BA ks bs → ks.length = bs.length
  | [], [], _ => rfl
  | [], _ :: _, h => h.elim
  | _ :: _, [], h => h.elim
  | _ :: ks, _ :: bs, h => by simp [BA.len h.2]
theorem BA.snoc : ∀ {ks : List Value} {bs : List (List UInt8)} {b : List UInt8} {t : Tok}, BA ks bs → BA (ks ++ [.bytes b.toArray t]) (bs ++ [b])
  | [], [], _, _, _ => ⟨⟨_, rfl⟩, trivial⟩
  | [], _ :: _, _, _, h => h.elim
  | _ :: _, [], _, _, h => h.elim
  | _ :: ks, _ :: bs, _, _, h => ⟨h.1, BA.snoc h.2⟩
theorem BA.app : ∀ {ks ks' : List Value} {bs bs' : List (List UInt8)}, BA ks bs → BA ks' bs' → BA (ks ++ ks') (bs ++ bs')
  | [], _, [], _, _, h => h
  | [], _, _ :: _, _, h, _ => h.elim
  | _ :: _, _, [], _, h, _ => h.elim
  | _ :: _, _, _ :: _, _, h, h' => ⟨h.1, BA.app h.2 h'⟩
theorem BA.rev : ∀ {ks : List Value} {bs : List (List UInt8)}, BA ks bs → BA ks.reverse bs.reverse
  | [], [], _ => trivial
  | [], _ :: _, h => h.elim
  | _ :: _, [], h => h.elim
  | _ :: ks, _ :: bs, h => by
    obtain ⟨⟨t, rfl⟩, h2⟩ := h
    rw [List.reverse_cons, List.reverse_cons]
    exact BA.snoc h2.rev
theorem BA.get : ∀ {ks : List Value} {bs : List (List UInt8)}, BA ks bs → ∀ i, i < bs.length → ∃ t, ks.getD i Value.none = .bytes (bs.getD i []).toArray t
  | [], [], _, i, hi => by simp at hi
  | [], _ :: _, h, _, _ => h.elim
  | _ :: _, [], h, _, _ => h.elim
  | _ :: ks, _ :: bs, h, 0, _ => by obtain ⟨⟨t, rfl⟩, _⟩ := h; exact ⟨t, rfl⟩
  | _ :: ks, _ :: bs, h, i + 1, hi => by
    obtain ⟨t, e⟩ := BA.get h.2 i (by simpa using hi)
    exact ⟨t, by simpa using e⟩
theorem BA.all : ∀ {ks : List Value} {bs : List (List UInt8)}, BA ks bs → ∀ k ∈ ks, ∃ b t, k = Value.bytes b t
  | [], [], _, _, h => by simp at h
  | [], _ :: _, h, _, _ => h.elim
  | _ :: _, [], h, _, _ => h.elim
  | _ :: ks, _ :: bs, h, k, hk => by
    rcases List.mem_cons.mp hk with rfl | hk
    · obtain ⟨⟨t, rfl⟩, _⟩ := h; exact ⟨_, t, rfl⟩
    · exact BA.all h.2 k hk
theorem firsts_bytes : ∀ {ks : List Value}, (∀ k ∈ ks, ∃ b t, k = Value.bytes b t) → ks.mapM firstOfTuple' = pure (ks.map fun _ => none)
  | [], _ => rfl
  | k :: ks, h => by
    obtain ⟨b, t, rfl⟩ := h k (.head _)
    rw [List.mapM_cons, firsts_bytes fun k hk => h k (.tail _ hk)]
    rfl
theorem types_bytes : ∀ {ks : List Value}, (∀ k ∈ ks, ∃ b t, k = Value.bytes b t) → ks.mapM typeOf = pure (ks.map fun _ => Value.type "bytes")
  | [], _ => rfl
  | k :: ks, h => by
    obtain ⟨b, t, rfl⟩ := h k (.head _)
    rw [List.mapM_cons, types_bytes fun k hk => h k (.tail _ hk)]
    rfl
theorem kind_bytes {ks : List Value} (h : ∀ k ∈ ks, ∃ b t, k = Value.bytes b t) (hne : ks ≠ []) : keyKind' ks.toArray = pure oneType' := by
  obtain ⟨k, r, rfl⟩ : ∃ k r, ks = k :: r := by cases ks with | nil => exact absurd rfl hne | cons k r => exact ⟨k, r, rfl⟩
  rw [kat_kind_eq, List.mapM_toArray, firsts_bytes h]
  simp only [map_pure, pure_bind]
  have h1 : ((List.map (fun _ => (none : Option Value)) (k :: r)).toArray.all fun x => x.isSome) = false := by simp
  rw [if_neg (by rw [h1]; exact Bool.false_ne_true)]
  have h2 : (((List.map (fun _ => (none : Option Value)) (k :: r)).toArray[0]?).bind id).isSome = false := by simp
  rw [if_neg (by rw [h2]; exact Bool.false_ne_true)]
  rw [oneTypeOnly'_eq, List.mapM_toArray, types_bytes h]
  simp only [map_pure, pure_bind]
  have h3 : (List.map (fun _ => Value.type "bytes") (k :: r)).toArray[0]? = some (Value.type "bytes") := by simp
  rw [h3]
  have h4 : ((List.map (fun _ => Value.type "bytes") (k :: r)).toArray.all fun x => x == Value.type "bytes") = true := by simp
  simp only [h4, if_true, pure_bind, Option.isSome_some]
noncomputable def bLt (bs : List (List UInt8)) (i j : Nat) : Bool := blt (bs.getD i []) (bs.getD j [])
theorem b_swn (bs : List (List UInt8)) : SWN (bLt bs) := ⟨fun _ _ => bo.asymm _ _, fun _ _ _ => bo.ntrans _ _ _⟩
theorem bTells {ks : List Value} {bs : List (List UInt8)} (h : BA ks bs) : Tells (bLt bs) bs.length (kas_ask prog w A oneType' ks) s := by
  intro i j C h1 h2 _ hC
  unfold kas_ask
  obtain ⟨t1, e1⟩ := h.get i h1
  obtain ⟨t2, e2⟩ := h.get j h2
  rw [e1, e2, keyLt'_oneType]
  exact oneLt_bytes hC

theorem keys_loop {vs : List Value} {kf : Value → List UInt8} {f : Value} {news : List (Addr × Obj)} {kS D : Addr} {e1 : Nat} {Fin : List Value → Nat → Shared → Prop} {s₀ : Shared} (C : KeyOk prog w g f vs kf)
    (hu : A.units + 300 < cLine) (hd : A.depth + 10 < recursionLimit) (hh : A.handled = none) (hkD : D ≠ kS) (hk : ∀ q ∈ news, q.1 ≠ kS) :
    ∀ (r ks : List Value) (bs : List (List UInt8)) (e : Nat) (s : Shared), (∀ v ∈ r, v ∈ vs) → Fr g L s.heap m → News g L s.heap ((kS, seqObj "list" ks.toArray e) :: (D, seqObj "list" #[] e1) :: news) → BA ks bs → s.gens = s₀.gens → s.os = s₀.os →
      (∀ ks' e' s', BA ks' (bs ++ r.map kf) → Fr g L s'.heap m → News g L s'.heap ((kS, seqObj "list" ks'.toArray e') :: (D, seqObj "list" #[] e1) :: news) → s'.gens = s₀.gens → s'.os = s₀.os → Fin ks' e' s') →
      KatKeys prog w A g L m kS f Fin r ks e s := by
  intro r
  induction r with
  | nil =>
    intro ks bs e s _ F N hb hg ho hF
    exact KatKeys.nil (hF ks e s (by simpa using hb) F N hg ho)
  | cons v r ih =>
    intro ks bs e s hv F N hb hg ho hF
    refine KatKeys.cons (C v (hv v (.head _)) A _ _ s hu hd hh (keepFr F) (fun s' tk k => ?_))
    have F' := frKeep F k.keep (by simp) (by simp)
    have N' : News g L s'.heap ((kS, seqObj "list" ks.toArray e) :: (D, seqObj "list" #[] e1) :: news) := fun q hq => ⟨k.keep.get _ _ (by simp) (N q hq).1, (N q hq).2⟩
    refine KatBack.intro F' N' (.head (fun q hq => ?_)) (fun h' c F2 N2 => ?_)
    · rcases List.mem_cons.mp hq with rfl | hq
      · exact hkD
      · exact hk q hq
    · exact ih _ (bs ++ [kf v]) c _ (fun x hx => hv x (.tail _ hx)) F2 N2 hb.snoc (k.gens.trans hg) (k.os.trans ho) (fun ks' e' s'' h1 => hF ks' e' s'' (by simpa using h1))

theorem sortedK_ {vs : List Value} {kf : Value → List UInt8} {q l : Addr} {b : Bool} {news : List (Addr × Obj)} {kw : List (Str × Value)} {Q : Value → Shared → Prop} (F : Fr g L s.heap m) (N : News g L s.heap news) (hl : s.heap.IsList l vs.toArray) (h2 : 2 ≤ vs.length) (h64 : vs.length < 64)
    (C : KeyOk prog w g (.ref q) vs kf) (hu : A.units + 310 < cLine) (hd : A.depth + 10 < recursionLimit) (hh : A.handled = none)
    (hkw : kw = if b = true then [(Str.ofString "key", .ref q), (Str.ofString "reverse", .bool true)] else [(Str.ofString "key", .ref q)])
    (h : ∀ D c p s', Stable (bLt (katRev b (vs.map kf))) vs.length p → Fr g L s'.heap m → News g L s'.heap ((D, listOf (katRev b (p.map fun i => (katRev b vs).getD i Value.none)).toArray c) :: news) → (∀ q ∈ news, q.1 ≠ D) →
      s'.gens = s.gens → s'.os = s.os → Q (.ref D) s') :
    wpAny (model prog w) A (call (.builtin "sorted") [.ref l] kw) Q E s := by
  have key : ∀ (ha1 : argsOk "sorted" ⟨[.ref l], kw⟩) (ha2 : ∀ x, argsOk "list.sort" ⟨[.ref x], kw⟩) (ht : ∀ x, Builtin.«list.sort» ⟨[.ref x], kw⟩ = ksk_tree x (.ref q) b), wpAny (model prog w) A (call (.builtin "sorted") [.ref l] kw) Q E s := by
    intro ha1 ha2 ht
    refine kat_sortedK (b := b) (f := .ref q) F N hl h2 h64 ha1 ha2 ht (fun D kS e1 h' F' N' lDk lD => ?_)
    have hDk : D ≠ kS := Nat.ne_of_lt lDk
    have hnD : ∀ q ∈ news, q.1 ≠ D := fun q hq => Nat.ne_of_lt (lD q hq)
    have hnk : ∀ q ∈ news, q.1 ≠ kS := fun q hq => Nat.ne_of_lt (Nat.lt_trans (lD q hq) lDk)
    refine keys_loop (A := A.in1.in1) (s₀ := s) C (by show A.units + 1 + 1 + 300 < cLine; omega) hd hh hDk hnk vs [] [] 0 { s with heap := h' } (fun _ h => h) F' N' trivial rfl rfl (fun ks e s' hb F2 N2 hg ho => ?_)
    rw [List.nil_append] at hb
    have hlen : ks.length = vs.length := by rw [hb.len, List.length_map]
    have hne : ks ≠ [] := fun e => by rw [e] at hlen; simp at hlen; omega
    rw [kind_bytes hb.all hne]
    refine wpAny_pure ?_
    have hb' : BA (katRev b ks) (katRev b (vs.map kf)) := by
      unfold katRev; split
      · exact hb.rev
      · exact hb
    have T := bTells (prog := prog) (w := w) (A := A.in1.in1) (s := s') hb'
    rw [kat_len, List.length_map] at T
    refine sort_wp (b_swn _) T (by omega) (fun p hp => ?_)
    refine KatFin.intro F2 N2 (.head (fun q hq => ?_)) (fun h3 c3 F3 N3 => ?_)
    · rcases List.mem_cons.mp hq with rfl | hq
      · exact hDk
      · exact hnk q hq
    · refine KasFin.intro F3 N3 (.tail (Ne.symm hDk) (.head hnD)) (fun h4 c4 F4 N4 => ?_)
      exact h D c4 p.toList _ hp F4 (fun x hx => N4 x (.tail _ hx)) hnD hg ho
  cases b with
  | false =>
    simp only [Bool.false_eq_true, if_false] at hkw
    subst hkw
    exact key (ksk_s1 _ _) (fun x => ksk_l1 _ _) (fun x => ksk_t1 q x)
  | true =>
    simp only [if_true] at hkw
    subst hkw
    exact key (ksk_s2 _ _ _) (fun x => ksk_l2 _ _ _) (fun x => ksk_t2 q x true)

theorem args_sortedN (a v u : Value) : argsOk "sorted" ⟨[a], [(Str.ofString "key", v), (Str.ofString "reverse", u)]⟩ := ksk_s2 a v u
/-- words, without a key, the greatest first -/
theorem sortedN_ {vs : List Value} {bs : List (List UInt8)} {l : Addr} {news : List (Addr × Obj)} {Q : Value → Shared → Prop} (F : Fr g L s.heap m) (N : News g L s.heap news) (hl : s.heap.IsList l vs.toArray) (hb : BA vs bs) (h2 : 2 ≤ vs.length) (h64 : vs.length < 64)
    (h : ∀ D c p h', Stable (bLt bs.reverse) vs.length p → Fr g L h' m → News g L h' ((D, listOf (p.map fun i => vs.reverse.getD i Value.none).reverse.toArray c) :: news) → (∀ q ∈ news, q.1 ≠ D) → Q (.ref D) { s with heap := h' }) :
    wpAny (model prog w) A (call (.builtin "sorted") [.ref l] [(Str.ofString "key", .none), (Str.ofString "reverse", .bool true)]) Q E s := by
  refine call_function_entry_kw kind_sorted plain_sorted entry_sorted (args_sortedN _ _ _) ?_
  unfold Builtin.«sorted»
  refine wpAny_bind (m := checkCount "sorted" 1 1 _) (wpAny_pure ?_)
  refine wpAny_bind (collect_list hl ?_ (by rw [sizeLine_eq]; omega))
  refine wpAny_bind (wpAny_newList ?_ (by rw [sizeLine_eq]; omega))
  have hsz : ((s.heap.push (seqObj "list" #[] 0)).update s.heap.objs.size (Obj.mapSeq (· ++ vs.toArray))).objs.size = s.heap.objs.size + 1 := by
    rw [Heap.size_update, size_push']
  have hoL : (((s.heap.push (seqObj "list" #[] 0)).update s.heap.objs.size (Obj.mapSeq (· ++ vs.toArray))).push (seqObj "list" vs.toArray 0)).get? (s.heap.objs.size + 1) = some (seqObj "list" vs.toArray 0) := by
    rw [← hsz]; exact Heap.get?_push_size _ rfl
  have keep : ∀ b o, s.heap.get? b = some o → (((s.heap.push (seqObj "list" #[] 0)).update s.heap.objs.size (Obj.mapSeq (· ++ vs.toArray))).push (seqObj "list" vs.toArray 0)).get? b = some o := fun b o q => by
    have hlt : b < s.heap.objs.size := Heap.lt_size q
    rw [Heap.get?_push_ne _ _ _ (by rw [hsz]; exact Nat.ne_of_lt (Nat.lt_succ_of_lt hlt)), Heap.get?_update_ne _ _ _ _ (Nat.ne_of_lt hlt), Heap.get?_push_ne _ _ _ (Nat.ne_of_lt hlt)]
    exact q
  have hL : L < s.heap.objs.size := F.ns.lt
  show wpAny _ _ _ _ _ { s with heap := ((s.heap.push (seqObj "list" #[] 0)).update s.heap.objs.size (Obj.mapSeq (· ++ vs.toArray))).push (seqObj "list" vs.toArray 0) }
  rw [hsz]
  refine wpAny_bind (wpAny_holding (wpAny_call_entry_kw slot_list_sort ⟨_, hoL, rfl⟩ entry_list_sort ?body (ksk_l2 _ _ _)))
  case body =>
    refine list_sortR (s := { s with heap := ((s.heap.push (seqObj "list" #[] 0)).update s.heap.objs.size (Obj.mapSeq (· ++ vs.toArray))).push (seqObj "list" vs.toArray 0) })
      (F.kept keep) (N.grown keep) hoL (Nat.ne_of_gt (Nat.lt_succ_of_lt hL)) (Heap.get?_none_of_le (Nat.le_trans F.above (Nat.le_succ_of_le (Nat.le_of_lt hL))))
      (fun p hp => Nat.ne_of_lt (Nat.lt_succ_of_lt (Heap.lt_size (N p hp).1))) h2 h64 rfl fun e1 h' F' N' => ?_
    have hne : vs ≠ [] := fun e => by rw [e] at h2; simp at h2
    rw [kind_bytes hb.all hne]
    refine wpAny_pure ?_
    have T := bTells (prog := prog) (w := w) (A := A.in1.in1) (s := { s with heap := h' }) hb.rev
    rw [List.length_reverse, ← hb.len] at T
    refine sort_wp (b_swn _) T (by omega) (fun p hp => ?_)
    have hnD : ∀ q ∈ news, q.1 ≠ s.heap.objs.size + 1 := fun q hq => Nat.ne_of_lt (Nat.lt_succ_of_lt (Heap.lt_size (N q hq).1))
    exact KasFin.intro F' N' (.head hnD) (fun h'' c F'' N'' => ⟨_, rfl, wpAny_pure ⟨_, rfl, h _ c p.toList _ hp F'' N'' hnD⟩⟩)
end
end
section
open Builtin
theorem order_gt (a b : List UInt8) : (Bytes.order a b == .gt) = blt b a := by
  unfold blt
  cases h : Bytes.order a b with
  | lt => rw [order_asymm a b h]; rfl
  | gt =>
    cases h2 : Bytes.order b a with
    | lt => rfl
    | gt =>
      have h3 : blt a b = false := by unfold blt; rw [h]; rfl
      have h4 : blt b a = false := by unfold blt; rw [h2]; rfl
      have e := bo.total a b h3 h4
      subst e
      exact absurd h (by induction a with
        | nil => decide
        | cons x a ih =>
          intro h
          rw [show Bytes.order (x :: a) (x :: a) = if x < x then .lt else if x > x then .gt else Bytes.order a a from rfl] at h
          simp [UInt8.lt_irrefl] at h
          have z : Bytes.order a a = .gt := h
          exact ih z z (by unfold blt; rw [z]; rfl) (by unfold blt; rw [z]; rfl) z)
    | eq =>
      exfalso
      have h4 : blt b a = false := by unfold blt; rw [h2]; rfl
      have h3 : blt a b = false := by unfold blt; rw [h]; rfl
      have e := bo.total a b h3 h4
      subst e
      rw [h] at h2
      cases h2
  | eq =>
    cases h2 : Bytes.order b a with
    | lt => have := order_asymm b a h2; rw [h] at this; cases this
    | gt => rfl
    | eq => rfl
theorem slot_bytes_gt : Slot "bytes" (cmpInfo .Gt).2.1 "bytes.__gt__" :=
  .of (owner := "bytes") (n := "__gt__") (by rw [typeLookup_type, builtinLookup_eq_fast]; kernel_rfl) (by decide +kernel) (by decide +kernel) (by decide +kernel)
    (by first | exact .inl (by decide +kernel) | exact .inr (by decide +kernel)) (by rw [isSubtype_type]; kernel_rfl)
theorem entry_bytes_gt : entryFor table "bytes.__gt__" = some Builtin.«bytes.__gt__» := entryFor_of_tree (by kernel_rfl)
theorem args_bytes_gt_2 (a b : Value) : argsOk "bytes.__gt__" ⟨[a, b], []⟩ := by
  unfold argsOk; rw [signature?_of (id := "bytes.__gt__") (n := ['_', '_', 't', 'g', '_', '_']) (o := ['s', 'e', 't', 'y', 'b']) (by kernel_rfl) FB.owner_bytes]; kernel_rfl
theorem gives_bytes_gt (b c : Array UInt8) (t u : Tok) : Gives («bytes.__gt__» ⟨[.bytes b t, .bytes c u], []⟩) (.val (.bool (blt c.toList b.toList))) := by
  refine .of_wp fun M A E s Q hq => ?_
  show wpAny M A (isInstance (.bytes c u) (.type "bytes") >>= fun r => _) _ E s
  refine wpAny_bind (wpAny_isInstance (typeIs_bytes s c u) F.sub_bytes_bytes ?_)
  rw [← order_gt] at hq
  exact wpAny_pure ⟨_, rfl, hq⟩
section
variable {prog : Program} {w : World} {A : Around} {E : Value → Shared → Prop} {s : Shared}
theorem gtV {x y : Value} {b c : List UInt8} {t u : Tok} {Q : Value → Shared → Prop} (e1 : x = .bytes b.toArray t) (e2 : y = .bytes c.toArray u) (h : Q (.bool (blt c b)) s) : wpAny (model prog w) A (richCompare .Gt x y) Q E s := by
  subst e1 e2
  exact compareOp_gives (op := .Gt) (typeIs_bytes s _ t) (typeIs_bytes s _ u) slot_bytes_gt entry_bytes_gt (args_bytes_gt_2 _ _) (gives_bytes_gt _ _ t u) (fun e => nomatch e) h
theorem ltV {x y : Value} {b c : List UInt8} {t u : Tok} {Q : Value → Shared → Prop} (e1 : x = .bytes b.toArray t) (e2 : y = .bytes c.toArray u) (h : Q (.bool (blt b c)) s) : wpAny (model prog w) A (richCompare .Lt x y) Q E s := by
  subst e1 e2
  exact lt_bytes h
end
theorem frK {g h h' : Heap} {L : Addr} {ds : List Addr} {m : Str → Option Value} (F : Fr g L h m) (k : ∀ b o, b ∉ ds → h.get? b = some o → h'.get? b = some o) (hL : L ∉ ds) (hg : ∀ d ∈ ds, g.get? d = none) : Fr g L h' m := by
  obtain ⟨oL, a1, a2, hoL, a3⟩ := F.ns
  refine ⟨⟨oL, a1, a2, k _ _ hL hoL, a3⟩, fun b x e => k b x (fun q => ?_) (F.keep b x e), F.above⟩
  rw [hg _ q] at e
  cases e
theorem swn_flip {lt : Nat → Nat → Bool} (O : SWN lt) : SWN (fun i j => lt j i) := ⟨fun a b => O.asymm b a, fun a b c h1 h2 => O.ntrans c b a h2 h1⟩
theorem ks_get {vs : List Value} {kf : Value → List UInt8} {i : Nat} {v : Value} (h : vs[i]? = some v) : (vs.map kf).getD i [] = kf v := by
  obtain ⟨hi, e⟩ := List.getElem?_eq_some_iff.mp h
  rw [List.getD_eq_getElem?_getD, List.getElem?_map, h]; rfl

theorem args_min_key (a v d : Value) : argsOk "min" ⟨[a], [(Str.ofString "default", d), (Str.ofString "key", v)]⟩ := by unfold argsOk; kernel_rfl
section
variable {prog : Program} {w : World} {A : Around} {E : Value → Shared → Prop} {s : Shared} {g : Heap} {L l q I S : Addr} {m : Str → Option Value} {vs : List Value} {kf : Value → List UInt8} {R : Result → Shared → Prop} {Q : Value → Shared → Prop}
theorem min_loop_key {h₁ : Heap} {s₁ : Shared} {dk : List (Str × Value)} (hh : A.handled = none) (hu : A.units + 310 < cLine) (hd : A.depth + 10 < recursionLimit)
    (C : KeyOk prog w g (.ref q) vs kf) (hlI : l ≠ I) (hSI : S ≠ I) (hlS : l ≠ S) (hIL : L ≠ I) (hSL : L ≠ S) (gI : g.get? I = none) (gS : g.get? S = none) (hl₁ : h₁.IsList l vs.toArray)
    (hR : ∀ i v s', vs[i]? = some v → (∀ j, j < vs.length → j ≠ i → prec (bLt (vs.map kf)) i j) → (∀ b o, b ∉ [I, S] → h₁.get? b = some o → s'.heap.get? b = some o) → Fr g L s'.heap m → s'.gens = s₁.gens → s'.os = s₁.os → R (.ok (.ret v)) s') :
    ∀ (r j i : Nat) (s : Shared) (vb kb : Value) (tb : Tok) (c : Nat), vs.length - (j + 1) = r → j + 1 ≤ vs.length → Fr g L s.heap m → (∀ b o, b ∉ [I, S] → h₁.get? b = some o → s.heap.get? b = some o) → s.gens = s₁.gens → s.os = s₁.os →
      s.heap.get? S = some (seqObj "list" #[vb, kb] c) → s.heap.IsListIter I l (j + 1) → vs[i]? = some vb → kb = .bytes ((vs.map kf).getD i []).toArray tb → i ≤ j → (∀ j', j' ≤ j → j' ≠ i → prec (bLt (vs.map kf)) i j') →
      codeAny (model prog w) A (.builtin "min.loop" ⟨[.ref I, (.ref q), .ref S], dk⟩) R s := by
  have hname : (toString "min" ++ toString ".loop" : String) = "min.loop" := by decide
  have O : SWN (bLt (vs.map kf)) := b_swn _
  intro r
  induction r with
  | zero =>
    intro j i s vb kb tb c hr hj F hx hg ho hS hit hvb hkb hij hbest
    have hin : j + 1 = vs.length := by lia
    obtain ⟨ol, hol, hol2⟩ := id hl₁
    have hl : s.heap.IsList l vs.toArray := ⟨ol, hx l ol (by simp [hlI, hlS]) hol, hol2⟩
    refine codeAny_builtin PySem.F.entry_min_loop ?_
    rw [Around.under_plainId PySem.F.plain_min_loop _]
    show wpAny _ A.in1 (seqItems? (.ref S) >>= _) _ _ _
    refine wpAny_bind (wpAny_seqItems hS rfl ?_)
    show wpAny _ A.in1 (tryCatch (pyNext (.ref I)) _ >>= _) _ _ _
    refine wpAny_bind (wpAny_tryCatch (wpAny_pyNext_list_end hh hit hl (by simp; lia) fun h' he' => ?_))
    have k' : ∀ b o, b ∉ [I, S] → s.heap.get? b = some o → h'.get? b = some o := fun b o hb e => he' b o (by simp at hb; exact hb.1) e
    have F1 := frK F k' (by simp [hIL, hSL]) (by simp [gI, gS])
    have hS' := he' S _ hSI hS
    have s1 := Heap.SameBut.update h' S (Obj.mapSeq fun _ => (#[] : Array Value))
    show wpAny _ A.in1 (updateSeq S (fun _ => #[]) >>= _) _ _ _
    refine wpAny_bind ?_
    refine wpAny_updateSeq hS' rfl (wpAny_bind (wpAny_letGo (wpAny_pure ?_)))
    have k2 : ∀ b o, b ∉ [I, S] → h'.get? b = some o → (h'.update S (Obj.mapSeq fun _ => (#[] : Array Value))).get? b = some o := fun b o hb e => (s1.2 b (by simp at hb; exact hb.2)).trans e
    exact hR i vb _ hvb (fun j' hj' => hbest j' (by lia)) (fun b o hb e => k2 b o hb (k' b o hb (hx b o hb e))) (frK F1 k2 (by simp [hIL, hSL]) (by simp [gI, gS])) hg ho
  | succ r ih =>
    intro j i s vb kb tb c hr hj F hx hg ho hS hit hvb hkb hij hbest
    have hlt : j + 1 < vs.length := by lia
    obtain ⟨ol, hol, hol2⟩ := id hl₁
    have hl : s.heap.IsList l vs.toArray := ⟨ol, hx l ol (by simp [hlI, hlS]) hol, hol2⟩
    refine codeAny_builtin PySem.F.entry_min_loop ?_
    rw [Around.under_plainId PySem.F.plain_min_loop _]
    show wpAny _ A.in1 (seqItems? (.ref S) >>= _) _ _ _
    refine wpAny_bind (wpAny_seqItems hS rfl ?_)
    show wpAny _ A.in1 (tryCatch (pyNext (.ref I)) _ >>= _) _ _ _
    obtain ⟨v, hv⟩ : ∃ v, vs[j + 1]? = some v := ⟨_, List.getElem?_eq_getElem hlt⟩
    refine wpAny_bind (wpAny_tryCatch (wpAny_pyNext_list_item hit hl (x := v) (by simpa using hv) fun h' hit' hs' => ?_))
    have k' : ∀ b o, b ∉ [I, S] → s.heap.get? b = some o → h'.get? b = some o := fun b o hb e => (hs'.2 b (by simp at hb; exact hb.1)).trans e
    have F1 : Fr g L ({ s with heap := h' } : Shared).heap m := frK F k' (by simp [hIL, hSL]) (by simp [gI, gS])
    have hvm : v ∈ vs := List.mem_of_getElem? hv
    obtain ⟨oI', hoI', hoI2⟩ := id hit'
    show wpAny _ A.in1 (tryCatch (holding [v] (call (.ref q) [v])) _ >>= _) _ _ _
    refine wpAny_bind (wpAny_tryCatch (wpAny_holding (C v hvm A.in1 _ _ { s with heap := h' } (by rw [show A.in1.units = A.units + 1 from rfl]; lia) hd hh (keepFr F1) (fun s2 t2 k2 => ?_))))
    have k2' : ∀ b o, h'.get? b = some o → s2.heap.get? b = some o := fun b o e => k2.keep.get b o (by simp) e
    have F2 : Fr g L s2.heap m := frK F1 (ds := []) (fun b o _ e => k2' b o e) (by simp) (by simp)
    have hS2 : s2.heap.get? S = some (seqObj "list" #[vb, kb] c) := k2' _ _ ((hs'.2 S hSI).trans hS)
    have hit2 : s2.heap.IsListIter I l (j + 1 + 1) := ⟨oI', k2' _ _ hoI', hoI2⟩
    show wpAny _ A.in1 (tryCatch (holding [v, (.bytes (kf v).toArray t2)] (richCompare .Lt (.bytes (kf v).toArray t2) kb >>= _)) _ >>= _) _ _ _
    refine wpAny_bind (wpAny_tryCatch (wpAny_holding (wpAny_bind (ltV (b := kf v) (t := t2) rfl hkb ?_))))
    refine wpAny_bind (wpAny_holding (wpAny_truthy_bool ?_))
    refine wpAny_bind (wpAny_letGo (wpAny_pure ?_))
    have hb2 : blt (kf v) ((vs.map kf).getD i []) = (bLt (vs.map kf)) (j + 1) i := by
      show blt (kf v) ((vs.map kf).getD i []) = blt ((vs.map kf).getD (j + 1) []) ((vs.map kf).getD i [])
      rw [ks_get hv]
    by_cases hb' : (bLt (vs.map kf)) (j + 1) i = true
    · have s1 := Heap.SameBut.update s2.heap S (Obj.mapSeq fun _ => #[v, (.bytes (kf v).toArray t2)])
      obtain ⟨c2, hc2⟩ : ∃ c2, (s2.heap.update S (Obj.mapSeq fun _ => #[v, (.bytes (kf v).toArray t2)])).get? S = some (seqObj "list" #[v, (.bytes (kf v).toArray t2)] c2) := ⟨_, get?_update_seq hS2 fun _ => #[v, (.bytes (kf v).toArray t2)]⟩
      rw [hb2, if_pos hb']
      refine wpAny_bind ?_
      refine wpAny_updateSeq hS2 rfl (wpAny_bind (wpAny_letGo ?_))
      rw [hname]
      have k3 : ∀ b o, b ∉ [I, S] → s2.heap.get? b = some o → (s2.heap.update S (Obj.mapSeq fun _ => #[v, (.bytes (kf v).toArray t2)])).get? b = some o := fun b o hb e => (s1.2 b (by simp at hb; exact hb.2)).trans e
      refine wpAny_pure ⟨plainId_quiet PySem.F.plain_min_loop _, ih (j + 1) (j + 1) { s2 with heap := s2.heap.update S (Obj.mapSeq fun _ => #[v, (.bytes (kf v).toArray t2)]) } v (.bytes (kf v).toArray t2) t2 c2 (by lia) hlt (frK F2 k3 (by simp [hIL, hSL]) (by simp [gI, gS]))
        (fun b o hb e => k3 b o hb (k2' b o (k' b o hb (hx b o hb e)))) (k2.gens.trans hg) (k2.os.trans ho) hc2 ⟨oI', (s1.2 I hSI.symm).trans (k2' _ _ hoI'), hoI2⟩ hv (by have e := ks_get (kf := kf) hv; first | (rw [e]; done) | (rw [e]; exact rfl)) (Nat.le_refl _) fun j' hj' hne => ?_⟩
      by_cases e : j' = i
      · subst e
        exact Or.inl hb'
      · exact prec_trans O (Or.inl hb') (hbest j' (by lia) e)
    · rw [hb2, if_neg hb']
      refine wpAny_bind (wpAny_letGo ?_)
      rw [hname]
      refine wpAny_pure ⟨plainId_quiet PySem.F.plain_min_loop _, ih (j + 1) i s2 vb kb tb c (by lia) hlt F2 (fun b o hb e => k2' b o (k' b o hb (hx b o hb e))) (k2.gens.trans hg) (k2.os.trans ho) hS2 hit2 hvb hkb (by lia) fun j' hj' hne => ?_⟩
      by_cases e : j' = j + 1
      · subst e
        exact Or.inr ⟨by simpa using hb', by lia⟩
      · exact hbest j' (by lia) hne

theorem min_key {d : Value} (hh : A.handled = none) (hu : A.units + 310 < cLine) (hd : A.depth + 10 < recursionLimit) (F : Fr g L s.heap m)
    (C : KeyOk prog w g (.ref q) vs kf) (hlI : l ≠ I) (hIL : L ≠ I) (gI : g.get? I = none) (hl : s.heap.IsList l vs.toArray) (hit : s.heap.IsListIter I l 0) (hne : 0 < vs.length)
    (hQ : ∀ i v s', vs[i]? = some v → (∀ j, j < vs.length → j ≠ i → prec (bLt (vs.map kf)) i j) → (∀ b o, b ≠ I → s.heap.get? b = some o → s'.heap.get? b = some o) → Fr g L s'.heap m → s'.gens = s.gens → s'.os = s.os → Q v s') :
    wpAny (model prog w) A (call (.builtin "min") [.ref I] [(Str.ofString "default", d), (Str.ofString "key", (.ref q))]) Q E s := by
  have hname : (toString "min" ++ toString ".loop" : String) = "min.loop" := by decide
  refine kmk_tree PySem.F.kind_min PySem.F.plain_min PySem.F.entry_min (args_min_key _ _ _) ?_
  show wpAny _ A.in1 (Builtin.Builtins.bindParams "min" ["key", "default"] 0 ⟨[], [(Str.ofString "default", d), (Str.ofString "key", (.ref q))]⟩ >>= _) _ _ s
  refine wpAny_bind (wpAny_of_eq (show Builtin.Builtins.bindParams "min" ["key", "default"] 0 ⟨[], [(Str.ofString "default", d), (Str.ofString "key", (.ref q))]⟩ = pure [some (.ref q), some d] from rfl) ?_)
  refine wpAny_bind (wpAny_pure ?_)
  refine wpAny_bind (wpAny_pyIter_listiter hit ?_)
  refine wpAny_bind (wpAny_newList ?_ (Nat.zero_le _))
  rw [hname]
  refine wpAny_pure ⟨plainId_quiet PySem.F.plain_min_loop _, ?_⟩
  obtain ⟨oI, hoI, hoI2⟩ := id hit
  obtain ⟨ol, hol, hol2⟩ := id hl
  have hSI : s.heap.objs.size ≠ I := Nat.ne_of_gt (Heap.lt_size hoI)
  have hlS : l ≠ s.heap.objs.size := Nat.ne_of_lt (Heap.lt_size hol)
  have hLlt : L < s.heap.objs.size := F.ns.lt
  have hSL : L ≠ s.heap.objs.size := Nat.ne_of_lt hLlt
  have gS : g.get? s.heap.objs.size = none := Heap.get?_none_of_le (Nat.le_trans F.above (Nat.le_of_lt hLlt))
  have freshS : ∀ b o, s.heap.get? b = some o → b ≠ s.heap.objs.size := fun b o e => Nat.ne_of_lt (Heap.lt_size e)
  have kp : ∀ b o, s.heap.get? b = some o → (s.heap.push (seqObj "list" #[] 0)).get? b = some o := fun b o e => Heap.get?_push_of_some _ e
  have hS : (s.heap.push (seqObj "list" #[] 0)).get? s.heap.objs.size = some (seqObj "list" #[] 0) := Heap.get?_push_size _ rfl
  have F0 : Fr g L (s.heap.push (seqObj "list" #[] 0)) m := F.push _
  have hl₁ : (s.heap.push (seqObj "list" #[] 0)).IsList l vs.toArray := ⟨ol, kp _ _ hol, hol2⟩
  have hit₁ : (s.heap.push (seqObj "list" #[] 0)).IsListIter I l 0 := ⟨oI, kp _ _ hoI, hoI2⟩
  generalize s.heap.push (seqObj "list" #[] 0) = h₁ at *
  generalize s.heap.objs.size = S at *
  refine codeAny_builtin PySem.F.entry_min_loop ?_
  rw [Around.under_plainId PySem.F.plain_min_loop _]
  show wpAny _ A.in1 (seqItems? (.ref S) >>= _) _ _ { s with heap := h₁ }
  refine wpAny_bind (wpAny_seqItems hS rfl ?_)
  show wpAny _ A.in1 (tryCatch (pyNext (.ref I)) _ >>= _) _ _ _
  obtain ⟨v, hv⟩ : ∃ v, vs[0]? = some v := ⟨_, List.getElem?_eq_getElem hne⟩
  refine wpAny_bind (wpAny_tryCatch (wpAny_pyNext_list_item hit₁ hl₁ (x := v) (by simpa using hv) fun h' hit' hs' => ?_))
  have k' : ∀ b o, b ∉ [I, S] → h₁.get? b = some o → h'.get? b = some o := fun b o hb e => (hs'.2 b (by simp at hb; exact hb.1)).trans e
  have F1 : Fr g L ({ s with heap := h' } : Shared).heap m := frK F0 k' (by simp [hIL, hSL]) (by simp [gI, gS])
  have hvm : v ∈ vs := List.mem_of_getElem? hv
  obtain ⟨oI', hoI', hoI2'⟩ := id hit'
  show wpAny _ A.in1 (tryCatch (holding [v] (call (.ref q) [v])) _ >>= _) _ _ _
  refine wpAny_bind (wpAny_tryCatch (wpAny_holding (C v hvm A.in1 _ _ { s with heap := h' } (by rw [show A.in1.units = A.units + 1 from rfl]; lia) hd hh (keepFr F1) (fun s2 t2 k2 => ?_))))
  have k2' : ∀ b o, h'.get? b = some o → s2.heap.get? b = some o := fun b o e => k2.keep.get b o (by simp) e
  have F2 : Fr g L s2.heap m := frK F1 (ds := []) (fun b o _ e => k2' b o e) (by simp) (by simp)
  have hS2 : s2.heap.get? S = some (seqObj "list" #[] 0) := k2' _ _ ((hs'.2 S hSI).trans hS)
  have s1 := Heap.SameBut.update s2.heap S (Obj.mapSeq fun _ => #[v, (.bytes (kf v).toArray t2)])
  obtain ⟨c2, hc2⟩ : ∃ c2, (s2.heap.update S (Obj.mapSeq fun _ => #[v, (.bytes (kf v).toArray t2)])).get? S = some (seqObj "list" #[v, (.bytes (kf v).toArray t2)] c2) := ⟨_, get?_update_seq hS2 fun _ => #[v, (.bytes (kf v).toArray t2)]⟩
  show wpAny _ A.in1 (updateSeq S (fun _ => #[v, (.bytes (kf v).toArray t2)]) >>= _) _ _ _
  refine wpAny_bind ?_
  refine wpAny_updateSeq hS2 rfl ?_
  rw [hname]
  have k3 : ∀ b o, b ∉ [I, S] → s2.heap.get? b = some o → (s2.heap.update S (Obj.mapSeq fun _ => #[v, (.bytes (kf v).toArray t2)])).get? b = some o := fun b o hb e => (s1.2 b (by simp at hb; exact hb.2)).trans e
  refine wpAny_pure ⟨plainId_quiet PySem.F.plain_min_loop _, min_loop_key (h₁ := h₁) (s₁ := s) hh hu hd C hlI hSI hlS hIL hSL gI gS hl₁ ?_ (vs.length - 1) 0 0 { s2 with heap := s2.heap.update S (Obj.mapSeq fun _ => #[v, (.bytes (kf v).toArray t2)]) } v (.bytes (kf v).toArray t2) t2 c2 (by lia) (by lia) (frK F2 k3 (by simp [hIL, hSL]) (by simp [gI, gS]))
        (fun b o hb e => k3 b o hb (k2' b o (k' b o hb e))) k2.gens k2.os hc2 ⟨oI', (s1.2 I hSI.symm).trans (k2' _ _ hoI'), hoI2'⟩ hv (by have e := ks_get (kf := kf) hv; first | (rw [e]; done) | (rw [e]; exact rfl)) (Nat.le_refl _) fun j' hj' hne => absurd (Nat.le_zero.mp hj') hne⟩
  intro i v s' h1 h2 h3 h4 h5 h6
  exact hQ i v s' h1 h2 (fun b o hb e => h3 b o (by simp; exact ⟨hb, freshS b o e⟩) (kp b o e)) h4 h5 h6
end

theorem args_min_none (a v d : Value) : argsOk "min" ⟨[a], [(Str.ofString "default", d), (Str.ofString "key", v)]⟩ := by unfold argsOk; kernel_rfl
section
variable {prog : Program} {w : World} {A : Around} {E : Value → Shared → Prop} {s : Shared} {g : Heap} {L l q I S : Addr} {m : Str → Option Value} {vs : List Value} {kf : Value → List UInt8} {R : Result → Shared → Prop} {Q : Value → Shared → Prop}
theorem min_loop_none {h₁ : Heap} {s₁ : Shared} {dk : List (Str × Value)} (hh : A.handled = none) (hu : A.units + 310 < cLine) (hd : A.depth + 10 < recursionLimit)
    (C : ∀ v ∈ vs, ∃ t, v = Value.bytes (kf v).toArray t) (hlI : l ≠ I) (hSI : S ≠ I) (hlS : l ≠ S) (hIL : L ≠ I) (hSL : L ≠ S) (gI : g.get? I = none) (gS : g.get? S = none) (hl₁ : h₁.IsList l vs.toArray)
    (hR : ∀ i v s', vs[i]? = some v → (∀ j, j < vs.length → j ≠ i → prec (bLt (vs.map kf)) i j) → (∀ b o, b ∉ [I, S] → h₁.get? b = some o → s'.heap.get? b = some o) → Fr g L s'.heap m → s'.gens = s₁.gens → s'.os = s₁.os → R (.ok (.ret v)) s') :
    ∀ (r j i : Nat) (s : Shared) (vb kb : Value) (tb : Tok) (c : Nat), vs.length - (j + 1) = r → j + 1 ≤ vs.length → Fr g L s.heap m → (∀ b o, b ∉ [I, S] → h₁.get? b = some o → s.heap.get? b = some o) → s.gens = s₁.gens → s.os = s₁.os →
      s.heap.get? S = some (seqObj "list" #[vb, kb] c) → s.heap.IsListIter I l (j + 1) → vs[i]? = some vb → kb = .bytes ((vs.map kf).getD i []).toArray tb → i ≤ j → (∀ j', j' ≤ j → j' ≠ i → prec (bLt (vs.map kf)) i j') →
      codeAny (model prog w) A (.builtin "min.loop" ⟨[.ref I, Value.none, .ref S], dk⟩) R s := by
  have hname : (toString "min" ++ toString ".loop" : String) = "min.loop" := by decide
  have O : SWN (bLt (vs.map kf)) := b_swn _
  intro r
  induction r with
  | zero =>
    intro j i s vb kb tb c hr hj F hx hg ho hS hit hvb hkb hij hbest
    have hin : j + 1 = vs.length := by lia
    obtain ⟨ol, hol, hol2⟩ := id hl₁
    have hl : s.heap.IsList l vs.toArray := ⟨ol, hx l ol (by simp [hlI, hlS]) hol, hol2⟩
    refine codeAny_builtin PySem.F.entry_min_loop ?_
    rw [Around.under_plainId PySem.F.plain_min_loop _]
    show wpAny _ A.in1 (seqItems? (.ref S) >>= _) _ _ _
    refine wpAny_bind (wpAny_seqItems hS rfl ?_)
    show wpAny _ A.in1 (tryCatch (pyNext (.ref I)) _ >>= _) _ _ _
    refine wpAny_bind (wpAny_tryCatch (wpAny_pyNext_list_end hh hit hl (by simp; lia) fun h' he' => ?_))
    have k' : ∀ b o, b ∉ [I, S] → s.heap.get? b = some o → h'.get? b = some o := fun b o hb e => he' b o (by simp at hb; exact hb.1) e
    have F1 := frK F k' (by simp [hIL, hSL]) (by simp [gI, gS])
    have hS' := he' S _ hSI hS
    have s1 := Heap.SameBut.update h' S (Obj.mapSeq fun _ => (#[] : Array Value))
    show wpAny _ A.in1 (updateSeq S (fun _ => #[]) >>= _) _ _ _
    refine wpAny_bind ?_
    refine wpAny_updateSeq hS' rfl (wpAny_bind (wpAny_letGo (wpAny_pure ?_)))
    have k2 : ∀ b o, b ∉ [I, S] → h'.get? b = some o → (h'.update S (Obj.mapSeq fun _ => (#[] : Array Value))).get? b = some o := fun b o hb e => (s1.2 b (by simp at hb; exact hb.2)).trans e
    exact hR i vb _ hvb (fun j' hj' => hbest j' (by lia)) (fun b o hb e => k2 b o hb (k' b o hb (hx b o hb e))) (frK F1 k2 (by simp [hIL, hSL]) (by simp [gI, gS])) hg ho
  | succ r ih =>
    intro j i s vb kb tb c hr hj F hx hg ho hS hit hvb hkb hij hbest
    have hlt : j + 1 < vs.length := by lia
    obtain ⟨ol, hol, hol2⟩ := id hl₁
    have hl : s.heap.IsList l vs.toArray := ⟨ol, hx l ol (by simp [hlI, hlS]) hol, hol2⟩
    refine codeAny_builtin PySem.F.entry_min_loop ?_
    rw [Around.under_plainId PySem.F.plain_min_loop _]
    show wpAny _ A.in1 (seqItems? (.ref S) >>= _) _ _ _
    refine wpAny_bind (wpAny_seqItems hS rfl ?_)
    show wpAny _ A.in1 (tryCatch (pyNext (.ref I)) _ >>= _) _ _ _
    obtain ⟨v, hv⟩ : ∃ v, vs[j + 1]? = some v := ⟨_, List.getElem?_eq_getElem hlt⟩
    refine wpAny_bind (wpAny_tryCatch (wpAny_pyNext_list_item hit hl (x := v) (by simpa using hv) fun h' hit' hs' => ?_))
    have k' : ∀ b o, b ∉ [I, S] → s.heap.get? b = some o → h'.get? b = some o := fun b o hb e => (hs'.2 b (by simp at hb; exact hb.1)).trans e
    have F1 : Fr g L ({ s with heap := h' } : Shared).heap m := frK F k' (by simp [hIL, hSL]) (by simp [gI, gS])
    have hvm : v ∈ vs := List.mem_of_getElem? hv
    obtain ⟨oI', hoI', hoI2⟩ := id hit'
    obtain ⟨t2, ev⟩ := C v hvm
    show wpAny _ A.in1 (pure v >>= _) _ _ { s with heap := h' }
    refine wpAny_bind (wpAny_pure ?_)
    obtain ⟨s2, hs2, k2⟩ : ∃ s2 : Shared, s2 = { s with heap := h' } ∧ KeepS [] ({ s with heap := h' } : Shared) s2 := ⟨_, rfl, KeepS.refl⟩
    rw [← hs2]
    have k2' : ∀ b o, h'.get? b = some o → s2.heap.get? b = some o := fun b o e => k2.keep.get b o (by simp) e
    have F2 : Fr g L s2.heap m := frK F1 (ds := []) (fun b o _ e => k2' b o e) (by simp) (by simp)
    have hS2 : s2.heap.get? S = some (seqObj "list" #[vb, kb] c) := k2' _ _ ((hs'.2 S hSI).trans hS)
    have hit2 : s2.heap.IsListIter I l (j + 1 + 1) := ⟨oI', k2' _ _ hoI', hoI2⟩
    show wpAny _ A.in1 (tryCatch (holding [v, v] (richCompare .Lt v kb >>= _)) _ >>= _) _ _ _
    refine wpAny_bind (wpAny_tryCatch (wpAny_holding (wpAny_bind (ltV (b := kf v) (t := t2) ev hkb ?_))))
    refine wpAny_bind (wpAny_holding (wpAny_truthy_bool ?_))
    refine wpAny_bind (wpAny_letGo (wpAny_pure ?_))
    have hb2 : blt (kf v) ((vs.map kf).getD i []) = (bLt (vs.map kf)) (j + 1) i := by
      show blt (kf v) ((vs.map kf).getD i []) = blt ((vs.map kf).getD (j + 1) []) ((vs.map kf).getD i [])
      rw [ks_get hv]
    by_cases hb' : (bLt (vs.map kf)) (j + 1) i = true
    · have s1 := Heap.SameBut.update s2.heap S (Obj.mapSeq fun _ => #[v, v])
      obtain ⟨c2, hc2⟩ : ∃ c2, (s2.heap.update S (Obj.mapSeq fun _ => #[v, v])).get? S = some (seqObj "list" #[v, v] c2) := ⟨_, get?_update_seq hS2 fun _ => #[v, v]⟩
      rw [hb2, if_pos hb']
      refine wpAny_bind ?_
      refine wpAny_updateSeq hS2 rfl (wpAny_bind (wpAny_letGo ?_))
      rw [hname]
      have k3 : ∀ b o, b ∉ [I, S] → s2.heap.get? b = some o → (s2.heap.update S (Obj.mapSeq fun _ => #[v, v])).get? b = some o := fun b o hb e => (s1.2 b (by simp at hb; exact hb.2)).trans e
      refine wpAny_pure ⟨plainId_quiet PySem.F.plain_min_loop _, ih (j + 1) (j + 1) { s2 with heap := s2.heap.update S (Obj.mapSeq fun _ => #[v, v]) } v v t2 c2 (by lia) hlt (frK F2 k3 (by simp [hIL, hSL]) (by simp [gI, gS]))
        (fun b o hb e => k3 b o hb (k2' b o (k' b o hb (hx b o hb e)))) (k2.gens.trans hg) (k2.os.trans ho) hc2 ⟨oI', (s1.2 I hSI.symm).trans (k2' _ _ hoI'), hoI2⟩ hv (by have e := ks_get (kf := kf) hv; first | (rw [e]; done) | (rw [e]; exact ev)) (Nat.le_refl _) fun j' hj' hne => ?_⟩
      by_cases e : j' = i
      · subst e
        exact Or.inl hb'
      · exact prec_trans O (Or.inl hb') (hbest j' (by lia) e)
    · rw [hb2, if_neg hb']
      refine wpAny_bind (wpAny_letGo ?_)
      rw [hname]
      refine wpAny_pure ⟨plainId_quiet PySem.F.plain_min_loop _, ih (j + 1) i s2 vb kb tb c (by lia) hlt F2 (fun b o hb e => k2' b o (k' b o hb (hx b o hb e))) (k2.gens.trans hg) (k2.os.trans ho) hS2 hit2 hvb hkb (by lia) fun j' hj' hne => ?_⟩
      by_cases e : j' = j + 1
      · subst e
        exact Or.inr ⟨by simpa using hb', by lia⟩
      · exact hbest j' (by lia) hne

theorem min_none {d : Value} (hh : A.handled = none) (hu : A.units + 310 < cLine) (hd : A.depth + 10 < recursionLimit) (F : Fr g L s.heap m)
    (C : ∀ v ∈ vs, ∃ t, v = Value.bytes (kf v).toArray t) (hlI : l ≠ I) (hIL : L ≠ I) (gI : g.get? I = none) (hl : s.heap.IsList l vs.toArray) (hit : s.heap.IsListIter I l 0) (hne : 0 < vs.length)
    (hQ : ∀ i v s', vs[i]? = some v → (∀ j, j < vs.length → j ≠ i → prec (bLt (vs.map kf)) i j) → (∀ b o, b ≠ I → s.heap.get? b = some o → s'.heap.get? b = some o) → Fr g L s'.heap m → s'.gens = s.gens → s'.os = s.os → Q v s') :
    wpAny (model prog w) A (call (.builtin "min") [.ref I] [(Str.ofString "default", d), (Str.ofString "key", Value.none)]) Q E s := by
  have hname : (toString "min" ++ toString ".loop" : String) = "min.loop" := by decide
  refine kmk_tree PySem.F.kind_min PySem.F.plain_min PySem.F.entry_min (args_min_none _ _ _) ?_
  show wpAny _ A.in1 (Builtin.Builtins.bindParams "min" ["key", "default"] 0 ⟨[], [(Str.ofString "default", d), (Str.ofString "key", Value.none)]⟩ >>= _) _ _ s
  refine wpAny_bind (wpAny_of_eq (show Builtin.Builtins.bindParams "min" ["key", "default"] 0 ⟨[], [(Str.ofString "default", d), (Str.ofString "key", Value.none)]⟩ = pure [some Value.none, some d] from rfl) ?_)
  refine wpAny_bind (wpAny_pure ?_)
  refine wpAny_bind (wpAny_pyIter_listiter hit ?_)
  refine wpAny_bind (wpAny_newList ?_ (Nat.zero_le _))
  rw [hname]
  refine wpAny_pure ⟨plainId_quiet PySem.F.plain_min_loop _, ?_⟩
  obtain ⟨oI, hoI, hoI2⟩ := id hit
  obtain ⟨ol, hol, hol2⟩ := id hl
  have hSI : s.heap.objs.size ≠ I := Nat.ne_of_gt (Heap.lt_size hoI)
  have hlS : l ≠ s.heap.objs.size := Nat.ne_of_lt (Heap.lt_size hol)
  have hLlt : L < s.heap.objs.size := F.ns.lt
  have hSL : L ≠ s.heap.objs.size := Nat.ne_of_lt hLlt
  have gS : g.get? s.heap.objs.size = none := Heap.get?_none_of_le (Nat.le_trans F.above (Nat.le_of_lt hLlt))
  have freshS : ∀ b o, s.heap.get? b = some o → b ≠ s.heap.objs.size := fun b o e => Nat.ne_of_lt (Heap.lt_size e)
  have kp : ∀ b o, s.heap.get? b = some o → (s.heap.push (seqObj "list" #[] 0)).get? b = some o := fun b o e => Heap.get?_push_of_some _ e
  have hS : (s.heap.push (seqObj "list" #[] 0)).get? s.heap.objs.size = some (seqObj "list" #[] 0) := Heap.get?_push_size _ rfl
  have F0 : Fr g L (s.heap.push (seqObj "list" #[] 0)) m := F.push _
  have hl₁ : (s.heap.push (seqObj "list" #[] 0)).IsList l vs.toArray := ⟨ol, kp _ _ hol, hol2⟩
  have hit₁ : (s.heap.push (seqObj "list" #[] 0)).IsListIter I l 0 := ⟨oI, kp _ _ hoI, hoI2⟩
  generalize s.heap.push (seqObj "list" #[] 0) = h₁ at *
  generalize s.heap.objs.size = S at *
  refine codeAny_builtin PySem.F.entry_min_loop ?_
  rw [Around.under_plainId PySem.F.plain_min_loop _]
  show wpAny _ A.in1 (seqItems? (.ref S) >>= _) _ _ { s with heap := h₁ }
  refine wpAny_bind (wpAny_seqItems hS rfl ?_)
  show wpAny _ A.in1 (tryCatch (pyNext (.ref I)) _ >>= _) _ _ _
  obtain ⟨v, hv⟩ : ∃ v, vs[0]? = some v := ⟨_, List.getElem?_eq_getElem hne⟩
  refine wpAny_bind (wpAny_tryCatch (wpAny_pyNext_list_item hit₁ hl₁ (x := v) (by simpa using hv) fun h' hit' hs' => ?_))
  have k' : ∀ b o, b ∉ [I, S] → h₁.get? b = some o → h'.get? b = some o := fun b o hb e => (hs'.2 b (by simp at hb; exact hb.1)).trans e
  have F1 : Fr g L ({ s with heap := h' } : Shared).heap m := frK F0 k' (by simp [hIL, hSL]) (by simp [gI, gS])
  have hvm : v ∈ vs := List.mem_of_getElem? hv
  obtain ⟨oI', hoI', hoI2'⟩ := id hit'
  obtain ⟨t2, ev⟩ := C v hvm
  show wpAny _ A.in1 (pure v >>= _) _ _ { s with heap := h' }
  refine wpAny_bind (wpAny_pure ?_)
  obtain ⟨s2, hs2, k2⟩ : ∃ s2 : Shared, s2 = { s with heap := h' } ∧ KeepS [] ({ s with heap := h' } : Shared) s2 := ⟨_, rfl, KeepS.refl⟩
  rw [← hs2]
  have k2' : ∀ b o, h'.get? b = some o → s2.heap.get? b = some o := fun b o e => k2.keep.get b o (by simp) e
  have F2 : Fr g L s2.heap m := frK F1 (ds := []) (fun b o _ e => k2' b o e) (by simp) (by simp)
  have hS2 : s2.heap.get? S = some (seqObj "list" #[] 0) := k2' _ _ ((hs'.2 S hSI).trans hS)
  have s1 := Heap.SameBut.update s2.heap S (Obj.mapSeq fun _ => #[v, v])
  obtain ⟨c2, hc2⟩ : ∃ c2, (s2.heap.update S (Obj.mapSeq fun _ => #[v, v])).get? S = some (seqObj "list" #[v, v] c2) := ⟨_, get?_update_seq hS2 fun _ => #[v, v]⟩
  show wpAny _ A.in1 (updateSeq S (fun _ => #[v, v]) >>= _) _ _ _
  refine wpAny_bind ?_
  refine wpAny_updateSeq hS2 rfl ?_
  rw [hname]
  have k3 : ∀ b o, b ∉ [I, S] → s2.heap.get? b = some o → (s2.heap.update S (Obj.mapSeq fun _ => #[v, v])).get? b = some o := fun b o hb e => (s1.2 b (by simp at hb; exact hb.2)).trans e
  refine wpAny_pure ⟨plainId_quiet PySem.F.plain_min_loop _, min_loop_none (h₁ := h₁) (s₁ := s) hh hu hd C hlI hSI hlS hIL hSL gI gS hl₁ ?_ (vs.length - 1) 0 0 { s2 with heap := s2.heap.update S (Obj.mapSeq fun _ => #[v, v]) } v v t2 c2 (by lia) (by lia) (frK F2 k3 (by simp [hIL, hSL]) (by simp [gI, gS]))
        (fun b o hb e => k3 b o hb (k2' b o (k' b o hb e))) k2.gens k2.os hc2 ⟨oI', (s1.2 I hSI.symm).trans (k2' _ _ hoI'), hoI2'⟩ hv (by have e := ks_get (kf := kf) hv; first | (rw [e]; done) | (rw [e]; exact ev)) (Nat.le_refl _) fun j' hj' hne => absurd (Nat.le_zero.mp hj') hne⟩
  intro i v s' h1 h2 h3 h4 h5 h6
  exact hQ i v s' h1 h2 (fun b o hb e => h3 b o (by simp; exact ⟨hb, freshS b o e⟩) (kp b o e)) h4 h5 h6
end

theorem args_max_key (a v d : Value) : argsOk "max" ⟨[a], [(Str.ofString "default", d), (Str.ofString "key", v)]⟩ := by unfold argsOk; kernel_rfl
section
variable {prog : Program} {w : World} {A : Around} {E : Value → Shared → Prop} {s : Shared} {g : Heap} {L l q I S : Addr} {m : Str → Option Value} {vs : List Value} {kf : Value → List UInt8} {R : Result → Shared → Prop} {Q : Value → Shared → Prop}
theorem max_loop_key {h₁ : Heap} {s₁ : Shared} {dk : List (Str × Value)} (hh : A.handled = none) (hu : A.units + 310 < cLine) (hd : A.depth + 10 < recursionLimit)
    (C : KeyOk prog w g (.ref q) vs kf) (hlI : l ≠ I) (hSI : S ≠ I) (hlS : l ≠ S) (hIL : L ≠ I) (hSL : L ≠ S) (gI : g.get? I = none) (gS : g.get? S = none) (hl₁ : h₁.IsList l vs.toArray)
    (hR : ∀ i v s', vs[i]? = some v → (∀ j, j < vs.length → j ≠ i → prec (fun a b => bLt (vs.map kf) b a) i j) → (∀ b o, b ∉ [I, S] → h₁.get? b = some o → s'.heap.get? b = some o) → Fr g L s'.heap m → s'.gens = s₁.gens → s'.os = s₁.os → R (.ok (.ret v)) s') :
    ∀ (r j i : Nat) (s : Shared) (vb kb : Value) (tb : Tok) (c : Nat), vs.length - (j + 1) = r → j + 1 ≤ vs.length → Fr g L s.heap m → (∀ b o, b ∉ [I, S] → h₁.get? b = some o → s.heap.get? b = some o) → s.gens = s₁.gens → s.os = s₁.os →
      s.heap.get? S = some (seqObj "list" #[vb, kb] c) → s.heap.IsListIter I l (j + 1) → vs[i]? = some vb → kb = .bytes ((vs.map kf).getD i []).toArray tb → i ≤ j → (∀ j', j' ≤ j → j' ≠ i → prec (fun a b => bLt (vs.map kf) b a) i j') →
      codeAny (model prog w) A (.builtin "max.loop" ⟨[.ref I, (.ref q), .ref S], dk⟩) R s := by
  have hname : (toString "max" ++ toString ".loop" : String) = "max.loop" := by decide
  have O : SWN (fun a b => bLt (vs.map kf) b a) := swn_flip (b_swn _)
  intro r
  induction r with
  | zero =>
    intro j i s vb kb tb c hr hj F hx hg ho hS hit hvb hkb hij hbest
    have hin : j + 1 = vs.length := by lia
    obtain ⟨ol, hol, hol2⟩ := id hl₁
    have hl : s.heap.IsList l vs.toArray := ⟨ol, hx l ol (by simp [hlI, hlS]) hol, hol2⟩
    refine codeAny_builtin PySem.F.entry_max_loop ?_
    rw [Around.under_plainId PySem.F.plain_max_loop _]
    show wpAny _ A.in1 (seqItems? (.ref S) >>= _) _ _ _
    refine wpAny_bind (wpAny_seqItems hS rfl ?_)
    show wpAny _ A.in1 (tryCatch (pyNext (.ref I)) _ >>= _) _ _ _
    refine wpAny_bind (wpAny_tryCatch (wpAny_pyNext_list_end hh hit hl (by simp; lia) fun h' he' => ?_))
    have k' : ∀ b o, b ∉ [I, S] → s.heap.get? b = some o → h'.get? b = some o := fun b o hb e => he' b o (by simp at hb; exact hb.1) e
    have F1 := frK F k' (by simp [hIL, hSL]) (by simp [gI, gS])
    have hS' := he' S _ hSI hS
    have s1 := Heap.SameBut.update h' S (Obj.mapSeq fun _ => (#[] : Array Value))
    show wpAny _ A.in1 (updateSeq S (fun _ => #[]) >>= _) _ _ _
    refine wpAny_bind ?_
    refine wpAny_updateSeq hS' rfl (wpAny_bind (wpAny_letGo (wpAny_pure ?_)))
    have k2 : ∀ b o, b ∉ [I, S] → h'.get? b = some o → (h'.update S (Obj.mapSeq fun _ => (#[] : Array Value))).get? b = some o := fun b o hb e => (s1.2 b (by simp at hb; exact hb.2)).trans e
    exact hR i vb _ hvb (fun j' hj' => hbest j' (by lia)) (fun b o hb e => k2 b o hb (k' b o hb (hx b o hb e))) (frK F1 k2 (by simp [hIL, hSL]) (by simp [gI, gS])) hg ho
  | succ r ih =>
    intro j i s vb kb tb c hr hj F hx hg ho hS hit hvb hkb hij hbest
    have hlt : j + 1 < vs.length := by lia
    obtain ⟨ol, hol, hol2⟩ := id hl₁
    have hl : s.heap.IsList l vs.toArray := ⟨ol, hx l ol (by simp [hlI, hlS]) hol, hol2⟩
    refine codeAny_builtin PySem.F.entry_max_loop ?_
    rw [Around.under_plainId PySem.F.plain_max_loop _]
    show wpAny _ A.in1 (seqItems? (.ref S) >>= _) _ _ _
    refine wpAny_bind (wpAny_seqItems hS rfl ?_)
    show wpAny _ A.in1 (tryCatch (pyNext (.ref I)) _ >>= _) _ _ _
    obtain ⟨v, hv⟩ : ∃ v, vs[j + 1]? = some v := ⟨_, List.getElem?_eq_getElem hlt⟩
    refine wpAny_bind (wpAny_tryCatch (wpAny_pyNext_list_item hit hl (x := v) (by simpa using hv) fun h' hit' hs' => ?_))
    have k' : ∀ b o, b ∉ [I, S] → s.heap.get? b = some o → h'.get? b = some o := fun b o hb e => (hs'.2 b (by simp at hb; exact hb.1)).trans e
    have F1 : Fr g L ({ s with heap := h' } : Shared).heap m := frK F k' (by simp [hIL, hSL]) (by simp [gI, gS])
    have hvm : v ∈ vs := List.mem_of_getElem? hv
    obtain ⟨oI', hoI', hoI2⟩ := id hit'
    show wpAny _ A.in1 (tryCatch (holding [v] (call (.ref q) [v])) _ >>= _) _ _ _
    refine wpAny_bind (wpAny_tryCatch (wpAny_holding (C v hvm A.in1 _ _ { s with heap := h' } (by rw [show A.in1.units = A.units + 1 from rfl]; lia) hd hh (keepFr F1) (fun s2 t2 k2 => ?_))))
    have k2' : ∀ b o, h'.get? b = some o → s2.heap.get? b = some o := fun b o e => k2.keep.get b o (by simp) e
    have F2 : Fr g L s2.heap m := frK F1 (ds := []) (fun b o _ e => k2' b o e) (by simp) (by simp)
    have hS2 : s2.heap.get? S = some (seqObj "list" #[vb, kb] c) := k2' _ _ ((hs'.2 S hSI).trans hS)
    have hit2 : s2.heap.IsListIter I l (j + 1 + 1) := ⟨oI', k2' _ _ hoI', hoI2⟩
    show wpAny _ A.in1 (tryCatch (holding [v, (.bytes (kf v).toArray t2)] (richCompare .Gt (.bytes (kf v).toArray t2) kb >>= _)) _ >>= _) _ _ _
    refine wpAny_bind (wpAny_tryCatch (wpAny_holding (wpAny_bind (gtV (b := kf v) (t := t2) rfl hkb ?_))))
    refine wpAny_bind (wpAny_holding (wpAny_truthy_bool ?_))
    refine wpAny_bind (wpAny_letGo (wpAny_pure ?_))
    have hb2 : blt ((vs.map kf).getD i []) (kf v) = (fun a b => bLt (vs.map kf) b a) (j + 1) i := by
      show blt ((vs.map kf).getD i []) (kf v) = blt ((vs.map kf).getD i []) ((vs.map kf).getD (j + 1) [])
      rw [ks_get hv]
    by_cases hb' : (fun a b => bLt (vs.map kf) b a) (j + 1) i = true
    · have s1 := Heap.SameBut.update s2.heap S (Obj.mapSeq fun _ => #[v, (.bytes (kf v).toArray t2)])
      obtain ⟨c2, hc2⟩ : ∃ c2, (s2.heap.update S (Obj.mapSeq fun _ => #[v, (.bytes (kf v).toArray t2)])).get? S = some (seqObj "list" #[v, (.bytes (kf v).toArray t2)] c2) := ⟨_, get?_update_seq hS2 fun _ => #[v, (.bytes (kf v).toArray t2)]⟩
      rw [hb2, if_pos hb']
      refine wpAny_bind ?_
      refine wpAny_updateSeq hS2 rfl (wpAny_bind (wpAny_letGo ?_))
      rw [hname]
      have k3 : ∀ b o, b ∉ [I, S] → s2.heap.get? b = some o → (s2.heap.update S (Obj.mapSeq fun _ => #[v, (.bytes (kf v).toArray t2)])).get? b = some o := fun b o hb e => (s1.2 b (by simp at hb; exact hb.2)).trans e
      refine wpAny_pure ⟨plainId_quiet PySem.F.plain_max_loop _, ih (j + 1) (j + 1) { s2 with heap := s2.heap.update S (Obj.mapSeq fun _ => #[v, (.bytes (kf v).toArray t2)]) } v (.bytes (kf v).toArray t2) t2 c2 (by lia) hlt (frK F2 k3 (by simp [hIL, hSL]) (by simp [gI, gS]))
        (fun b o hb e => k3 b o hb (k2' b o (k' b o hb (hx b o hb e)))) (k2.gens.trans hg) (k2.os.trans ho) hc2 ⟨oI', (s1.2 I hSI.symm).trans (k2' _ _ hoI'), hoI2⟩ hv (by have e := ks_get (kf := kf) hv; first | (rw [e]; done) | (rw [e]; exact rfl)) (Nat.le_refl _) fun j' hj' hne => ?_⟩
      by_cases e : j' = i
      · subst e
        exact Or.inl hb'
      · exact prec_trans O (Or.inl hb') (hbest j' (by lia) e)
    · rw [hb2, if_neg hb']
      refine wpAny_bind (wpAny_letGo ?_)
      rw [hname]
      refine wpAny_pure ⟨plainId_quiet PySem.F.plain_max_loop _, ih (j + 1) i s2 vb kb tb c (by lia) hlt F2 (fun b o hb e => k2' b o (k' b o hb (hx b o hb e))) (k2.gens.trans hg) (k2.os.trans ho) hS2 hit2 hvb hkb (by lia) fun j' hj' hne => ?_⟩
      by_cases e : j' = j + 1
      · subst e
        exact Or.inr ⟨by simpa using hb', by lia⟩
      · exact hbest j' (by lia) hne

theorem max_key {d : Value} (hh : A.handled = none) (hu : A.units + 310 < cLine) (hd : A.depth + 10 < recursionLimit) (F : Fr g L s.heap m)
    (C : KeyOk prog w g (.ref q) vs kf) (hlI : l ≠ I) (hIL : L ≠ I) (gI : g.get? I = none) (hl : s.heap.IsList l vs.toArray) (hit : s.heap.IsListIter I l 0) (hne : 0 < vs.length)
    (hQ : ∀ i v s', vs[i]? = some v → (∀ j, j < vs.length → j ≠ i → prec (fun a b => bLt (vs.map kf) b a) i j) → (∀ b o, b ≠ I → s.heap.get? b = some o → s'.heap.get? b = some o) → Fr g L s'.heap m → s'.gens = s.gens → s'.os = s.os → Q v s') :
    wpAny (model prog w) A (call (.builtin "max") [.ref I] [(Str.ofString "default", d), (Str.ofString "key", (.ref q))]) Q E s := by
  have hname : (toString "max" ++ toString ".loop" : String) = "max.loop" := by decide
  refine kmk_tree PySem.F.kind_max PySem.F.plain_max PySem.F.entry_max (args_max_key _ _ _) ?_
  show wpAny _ A.in1 (Builtin.Builtins.bindParams "max" ["key", "default"] 0 ⟨[], [(Str.ofString "default", d), (Str.ofString "key", (.ref q))]⟩ >>= _) _ _ s
  refine wpAny_bind (wpAny_of_eq (show Builtin.Builtins.bindParams "max" ["key", "default"] 0 ⟨[], [(Str.ofString "default", d), (Str.ofString "key", (.ref q))]⟩ = pure [some (.ref q), some d] from rfl) ?_)
  refine wpAny_bind (wpAny_pure ?_)
  refine wpAny_bind (wpAny_pyIter_listiter hit ?_)
  refine wpAny_bind (wpAny_newList ?_ (Nat.zero_le _))
  rw [hname]
  refine wpAny_pure ⟨plainId_quiet PySem.F.plain_max_loop _, ?_⟩
  obtain ⟨oI, hoI, hoI2⟩ := id hit
  obtain ⟨ol, hol, hol2⟩ := id hl
  have hSI : s.heap.objs.size ≠ I := Nat.ne_of_gt (Heap.lt_size hoI)
  have hlS : l ≠ s.heap.objs.size := Nat.ne_of_lt (Heap.lt_size hol)
  have hLlt : L < s.heap.objs.size := F.ns.lt
  have hSL : L ≠ s.heap.objs.size := Nat.ne_of_lt hLlt
  have gS : g.get? s.heap.objs.size = none := Heap.get?_none_of_le (Nat.le_trans F.above (Nat.le_of_lt hLlt))
  have freshS : ∀ b o, s.heap.get? b = some o → b ≠ s.heap.objs.size := fun b o e => Nat.ne_of_lt (Heap.lt_size e)
  have kp : ∀ b o, s.heap.get? b = some o → (s.heap.push (seqObj "list" #[] 0)).get? b = some o := fun b o e => Heap.get?_push_of_some _ e
  have hS : (s.heap.push (seqObj "list" #[] 0)).get? s.heap.objs.size = some (seqObj "list" #[] 0) := Heap.get?_push_size _ rfl
  have F0 : Fr g L (s.heap.push (seqObj "list" #[] 0)) m := F.push _
  have hl₁ : (s.heap.push (seqObj "list" #[] 0)).IsList l vs.toArray := ⟨ol, kp _ _ hol, hol2⟩
  have hit₁ : (s.heap.push (seqObj "list" #[] 0)).IsListIter I l 0 := ⟨oI, kp _ _ hoI, hoI2⟩
  generalize s.heap.push (seqObj "list" #[] 0) = h₁ at *
  generalize s.heap.objs.size = S at *
  refine codeAny_builtin PySem.F.entry_max_loop ?_
  rw [Around.under_plainId PySem.F.plain_max_loop _]
  show wpAny _ A.in1 (seqItems? (.ref S) >>= _) _ _ { s with heap := h₁ }
  refine wpAny_bind (wpAny_seqItems hS rfl ?_)
  show wpAny _ A.in1 (tryCatch (pyNext (.ref I)) _ >>= _) _ _ _
  obtain ⟨v, hv⟩ : ∃ v, vs[0]? = some v := ⟨_, List.getElem?_eq_getElem hne⟩
  refine wpAny_bind (wpAny_tryCatch (wpAny_pyNext_list_item hit₁ hl₁ (x := v) (by simpa using hv) fun h' hit' hs' => ?_))
  have k' : ∀ b o, b ∉ [I, S] → h₁.get? b = some o → h'.get? b = some o := fun b o hb e => (hs'.2 b (by simp at hb; exact hb.1)).trans e
  have F1 : Fr g L ({ s with heap := h' } : Shared).heap m := frK F0 k' (by simp [hIL, hSL]) (by simp [gI, gS])
  have hvm : v ∈ vs := List.mem_of_getElem? hv
  obtain ⟨oI', hoI', hoI2'⟩ := id hit'
  show wpAny _ A.in1 (tryCatch (holding [v] (call (.ref q) [v])) _ >>= _) _ _ _
  refine wpAny_bind (wpAny_tryCatch (wpAny_holding (C v hvm A.in1 _ _ { s with heap := h' } (by rw [show A.in1.units = A.units + 1 from rfl]; lia) hd hh (keepFr F1) (fun s2 t2 k2 => ?_))))
  have k2' : ∀ b o, h'.get? b = some o → s2.heap.get? b = some o := fun b o e => k2.keep.get b o (by simp) e
  have F2 : Fr g L s2.heap m := frK F1 (ds := []) (fun b o _ e => k2' b o e) (by simp) (by simp)
  have hS2 : s2.heap.get? S = some (seqObj "list" #[] 0) := k2' _ _ ((hs'.2 S hSI).trans hS)
  have s1 := Heap.SameBut.update s2.heap S (Obj.mapSeq fun _ => #[v, (.bytes (kf v).toArray t2)])
  obtain ⟨c2, hc2⟩ : ∃ c2, (s2.heap.update S (Obj.mapSeq fun _ => #[v, (.bytes (kf v).toArray t2)])).get? S = some (seqObj "list" #[v, (.bytes (kf v).toArray t2)] c2) := ⟨_, get?_update_seq hS2 fun _ => #[v, (.bytes (kf v).toArray t2)]⟩
  show wpAny _ A.in1 (updateSeq S (fun _ => #[v, (.bytes (kf v).toArray t2)]) >>= _) _ _ _
  refine wpAny_bind ?_
  refine wpAny_updateSeq hS2 rfl ?_
  rw [hname]
  have k3 : ∀ b o, b ∉ [I, S] → s2.heap.get? b = some o → (s2.heap.update S (Obj.mapSeq fun _ => #[v, (.bytes (kf v).toArray t2)])).get? b = some o := fun b o hb e => (s1.2 b (by simp at hb; exact hb.2)).trans e
  refine wpAny_pure ⟨plainId_quiet PySem.F.plain_max_loop _, max_loop_key (h₁ := h₁) (s₁ := s) hh hu hd C hlI hSI hlS hIL hSL gI gS hl₁ ?_ (vs.length - 1) 0 0 { s2 with heap := s2.heap.update S (Obj.mapSeq fun _ => #[v, (.bytes (kf v).toArray t2)]) } v (.bytes (kf v).toArray t2) t2 c2 (by lia) (by lia) (frK F2 k3 (by simp [hIL, hSL]) (by simp [gI, gS]))
        (fun b o hb e => k3 b o hb (k2' b o (k' b o hb e))) k2.gens k2.os hc2 ⟨oI', (s1.2 I hSI.symm).trans (k2' _ _ hoI'), hoI2'⟩ hv (by have e := ks_get (kf := kf) hv; first | (rw [e]; done) | (rw [e]; exact rfl)) (Nat.le_refl _) fun j' hj' hne => absurd (Nat.le_zero.mp hj') hne⟩
  intro i v s' h1 h2 h3 h4 h5 h6
  exact hQ i v s' h1 h2 (fun b o hb e => h3 b o (by simp; exact ⟨hb, freshS b o e⟩) (kp b o e)) h4 h5 h6
end

theorem args_max_none (a v d : Value) : argsOk "max" ⟨[a], [(Str.ofString "default", d), (Str.ofString "key", v)]⟩ := by unfold argsOk; kernel_rfl
section
variable {prog : Program} {w : World} {A : Around} {E : Value → Shared → Prop} {s : Shared} {g : Heap} {L l q I S : Addr} {m : Str → Option Value} {vs : List Value} {kf : Value → List UInt8} {R : Result → Shared → Prop} {Q : Value → Shared → Prop}
theorem max_loop_none {h₁ : Heap} {s₁ : Shared} {dk : List (Str × Value)} (hh : A.handled = none) (hu : A.units + 310 < cLine) (hd : A.depth + 10 < recursionLimit)
    (C : ∀ v ∈ vs, ∃ t, v = Value.bytes (kf v).toArray t) (hlI : l ≠ I) (hSI : S ≠ I) (hlS : l ≠ S) (hIL : L ≠ I) (hSL : L ≠ S) (gI : g.get? I = none) (gS : g.get? S = none) (hl₁ : h₁.IsList l vs.toArray)
    (hR : ∀ i v s', vs[i]? = some v → (∀ j, j < vs.length → j ≠ i → prec (fun a b => bLt (vs.map kf) b a) i j) → (∀ b o, b ∉ [I, S] → h₁.get? b = some o → s'.heap.get? b = some o) → Fr g L s'.heap m → s'.gens = s₁.gens → s'.os = s₁.os → R (.ok (.ret v)) s') :
    ∀ (r j i : Nat) (s : Shared) (vb kb : Value) (tb : Tok) (c : Nat), vs.length - (j + 1) = r → j + 1 ≤ vs.length → Fr g L s.heap m → (∀ b o, b ∉ [I, S] → h₁.get? b = some o → s.heap.get? b = some o) → s.gens = s₁.gens → s.os = s₁.os →
      s.heap.get? S = some (seqObj "list" #[vb, kb] c) → s.heap.IsListIter I l (j + 1) → vs[i]? = some vb → kb = .bytes ((vs.map kf).getD i []).toArray tb → i ≤ j → (∀ j', j' ≤ j → j' ≠ i → prec (fun a b => bLt (vs.map kf) b a) i j') →
      codeAny (model prog w) A (.builtin "max.loop" ⟨[.ref I, Value.none, .ref S], dk⟩) R s := by
  have hname : (toString "max" ++ toString ".loop" : String) = "max.loop" := by decide
  have O : SWN (fun a b => bLt (vs.map kf) b a) := swn_flip (b_swn _)
  intro r
  induction r with
  | zero =>
    intro j i s vb kb tb c hr hj F hx hg ho hS hit hvb hkb hij hbest
    have hin : j + 1 = vs.length := by lia
    obtain ⟨ol, hol, hol2⟩ := id hl₁
    have hl : s.heap.IsList l vs.toArray := ⟨ol, hx l ol (by simp [hlI, hlS]) hol, hol2⟩
    refine codeAny_builtin PySem.F.entry_max_loop ?_
    rw [Around.under_plainId PySem.F.plain_max_loop _]
    show wpAny _ A.in1 (seqItems? (.ref S) >>= _) _ _ _
    refine wpAny_bind (wpAny_seqItems hS rfl ?_)
    show wpAny _ A.in1 (tryCatch (pyNext (.ref I)) _ >>= _) _ _ _
    refine wpAny_bind (wpAny_tryCatch (wpAny_pyNext_list_end hh hit hl (by simp; lia) fun h' he' => ?_))
    have k' : ∀ b o, b ∉ [I, S] → s.heap.get? b = some o → h'.get? b = some o := fun b o hb e => he' b o (by simp at hb; exact hb.1) e
    have F1 := frK F k' (by simp [hIL, hSL]) (by simp [gI, gS])
    have hS' := he' S _ hSI hS
    have s1 := Heap.SameBut.update h' S (Obj.mapSeq fun _ => (#[] : Array Value))
    show wpAny _ A.in1 (updateSeq S (fun _ => #[]) >>= _) _ _ _
    refine wpAny_bind ?_
    refine wpAny_updateSeq hS' rfl (wpAny_bind (wpAny_letGo (wpAny_pure ?_)))
    have k2 : ∀ b o, b ∉ [I, S] → h'.get? b = some o → (h'.update S (Obj.mapSeq fun _ => (#[] : Array Value))).get? b = some o := fun b o hb e => (s1.2 b (by simp at hb; exact hb.2)).trans e
    exact hR i vb _ hvb (fun j' hj' => hbest j' (by lia)) (fun b o hb e => k2 b o hb (k' b o hb (hx b o hb e))) (frK F1 k2 (by simp [hIL, hSL]) (by simp [gI, gS])) hg ho
  | succ r ih =>
    intro j i s vb kb tb c hr hj F hx hg ho hS hit hvb hkb hij hbest
    have hlt : j + 1 < vs.length := by lia
    obtain ⟨ol, hol, hol2⟩ := id hl₁
    have hl : s.heap.IsList l vs.toArray := ⟨ol, hx l ol (by simp [hlI, hlS]) hol, hol2⟩
    refine codeAny_builtin PySem.F.entry_max_loop ?_
    rw [Around.under_plainId PySem.F.plain_max_loop _]
    show wpAny _ A.in1 (seqItems? (.ref S) >>= _) _ _ _
    refine wpAny_bind (wpAny_seqItems hS rfl ?_)
    show wpAny _ A.in1 (tryCatch (pyNext (.ref I)) _ >>= _) _ _ _
    obtain ⟨v, hv⟩ : ∃ v, vs[j + 1]? = some v := ⟨_, List.getElem?_eq_getElem hlt⟩
    refine wpAny_bind (wpAny_tryCatch (wpAny_pyNext_list_item hit hl (x := v) (by simpa using hv) fun h' hit' hs' => ?_))
    have k' : ∀ b o, b ∉ [I, S] → s.heap.get? b = some o → h'.get? b = some o := fun b o hb e => (hs'.2 b (by simp at hb; exact hb.1)).trans e
    have F1 : Fr g L ({ s with heap := h' } : Shared).heap m := frK F k' (by simp [hIL, hSL]) (by simp [gI, gS])
    have hvm : v ∈ vs := List.mem_of_getElem? hv
    obtain ⟨oI', hoI', hoI2⟩ := id hit'
    obtain ⟨t2, ev⟩ := C v hvm
    show wpAny _ A.in1 (pure v >>= _) _ _ { s with heap := h' }
    refine wpAny_bind (wpAny_pure ?_)
    obtain ⟨s2, hs2, k2⟩ : ∃ s2 : Shared, s2 = { s with heap := h' } ∧ KeepS [] ({ s with heap := h' } : Shared) s2 := ⟨_, rfl, KeepS.refl⟩
    rw [← hs2]
    have k2' : ∀ b o, h'.get? b = some o → s2.heap.get? b = some o := fun b o e => k2.keep.get b o (by simp) e
    have F2 : Fr g L s2.heap m := frK F1 (ds := []) (fun b o _ e => k2' b o e) (by simp) (by simp)
    have hS2 : s2.heap.get? S = some (seqObj "list" #[vb, kb] c) := k2' _ _ ((hs'.2 S hSI).trans hS)
    have hit2 : s2.heap.IsListIter I l (j + 1 + 1) := ⟨oI', k2' _ _ hoI', hoI2⟩
    show wpAny _ A.in1 (tryCatch (holding [v, v] (richCompare .Gt v kb >>= _)) _ >>= _) _ _ _
    refine wpAny_bind (wpAny_tryCatch (wpAny_holding (wpAny_bind (gtV (b := kf v) (t := t2) ev hkb ?_))))
    refine wpAny_bind (wpAny_holding (wpAny_truthy_bool ?_))
    refine wpAny_bind (wpAny_letGo (wpAny_pure ?_))
    have hb2 : blt ((vs.map kf).getD i []) (kf v) = (fun a b => bLt (vs.map kf) b a) (j + 1) i := by
      show blt ((vs.map kf).getD i []) (kf v) = blt ((vs.map kf).getD i []) ((vs.map kf).getD (j + 1) [])
      rw [ks_get hv]
    by_cases hb' : (fun a b => bLt (vs.map kf) b a) (j + 1) i = true
    · have s1 := Heap.SameBut.update s2.heap S (Obj.mapSeq fun _ => #[v, v])
      obtain ⟨c2, hc2⟩ : ∃ c2, (s2.heap.update S (Obj.mapSeq fun _ => #[v, v])).get? S = some (seqObj "list" #[v, v] c2) := ⟨_, get?_update_seq hS2 fun _ => #[v, v]⟩
      rw [hb2, if_pos hb']
      refine wpAny_bind ?_
      refine wpAny_updateSeq hS2 rfl (wpAny_bind (wpAny_letGo ?_))
      rw [hname]
      have k3 : ∀ b o, b ∉ [I, S] → s2.heap.get? b = some o → (s2.heap.update S (Obj.mapSeq fun _ => #[v, v])).get? b = some o := fun b o hb e => (s1.2 b (by simp at hb; exact hb.2)).trans e
      refine wpAny_pure ⟨plainId_quiet PySem.F.plain_max_loop _, ih (j + 1) (j + 1) { s2 with heap := s2.heap.update S (Obj.mapSeq fun _ => #[v, v]) } v v t2 c2 (by lia) hlt (frK F2 k3 (by simp [hIL, hSL]) (by simp [gI, gS]))
        (fun b o hb e => k3 b o hb (k2' b o (k' b o hb (hx b o hb e)))) (k2.gens.trans hg) (k2.os.trans ho) hc2 ⟨oI', (s1.2 I hSI.symm).trans (k2' _ _ hoI'), hoI2⟩ hv (by have e := ks_get (kf := kf) hv; first | (rw [e]; done) | (rw [e]; exact ev)) (Nat.le_refl _) fun j' hj' hne => ?_⟩
      by_cases e : j' = i
      · subst e
        exact Or.inl hb'
      · exact prec_trans O (Or.inl hb') (hbest j' (by lia) e)
    · rw [hb2, if_neg hb']
      refine wpAny_bind (wpAny_letGo ?_)
      rw [hname]
      refine wpAny_pure ⟨plainId_quiet PySem.F.plain_max_loop _, ih (j + 1) i s2 vb kb tb c (by lia) hlt F2 (fun b o hb e => k2' b o (k' b o hb (hx b o hb e))) (k2.gens.trans hg) (k2.os.trans ho) hS2 hit2 hvb hkb (by lia) fun j' hj' hne => ?_⟩
      by_cases e : j' = j + 1
      · subst e
        exact Or.inr ⟨by simpa using hb', by lia⟩
      · exact hbest j' (by lia) hne

theorem max_none {d : Value} (hh : A.handled = none) (hu : A.units + 310 < cLine) (hd : A.depth + 10 < recursionLimit) (F : Fr g L s.heap m)
    (C : ∀ v ∈ vs, ∃ t, v = Value.bytes (kf v).toArray t) (hlI : l ≠ I) (hIL : L ≠ I) (gI : g.get? I = none) (hl : s.heap.IsList l vs.toArray) (hit : s.heap.IsListIter I l 0) (hne : 0 < vs.length)
    (hQ : ∀ i v s', vs[i]? = some v → (∀ j, j < vs.length → j ≠ i → prec (fun a b => bLt (vs.map kf) b a) i j) → (∀ b o, b ≠ I → s.heap.get? b = some o → s'.heap.get? b = some o) → Fr g L s'.heap m → s'.gens = s.gens → s'.os = s.os → Q v s') :
    wpAny (model prog w) A (call (.builtin "max") [.ref I] [(Str.ofString "default", d), (Str.ofString "key", Value.none)]) Q E s := by
  have hname : (toString "max" ++ toString ".loop" : String) = "max.loop" := by decide
  refine kmk_tree PySem.F.kind_max PySem.F.plain_max PySem.F.entry_max (args_max_none _ _ _) ?_
  show wpAny _ A.in1 (Builtin.Builtins.bindParams "max" ["key", "default"] 0 ⟨[], [(Str.ofString "default", d), (Str.ofString "key", Value.none)]⟩ >>= _) _ _ s
  refine wpAny_bind (wpAny_of_eq (show Builtin.Builtins.bindParams "max" ["key", "default"] 0 ⟨[], [(Str.ofString "default", d), (Str.ofString "key", Value.none)]⟩ = pure [some Value.none, some d] from rfl) ?_)
  refine wpAny_bind (wpAny_pure ?_)
  refine wpAny_bind (wpAny_pyIter_listiter hit ?_)
  refine wpAny_bind (wpAny_newList ?_ (Nat.zero_le _))
  rw [hname]
  refine wpAny_pure ⟨plainId_quiet PySem.F.plain_max_loop _, ?_⟩
  obtain ⟨oI, hoI, hoI2⟩ := id hit
  obtain ⟨ol, hol, hol2⟩ := id hl
  have hSI : s.heap.objs.size ≠ I := Nat.ne_of_gt (Heap.lt_size hoI)
  have hlS : l ≠ s.heap.objs.size := Nat.ne_of_lt (Heap.lt_size hol)
  have hLlt : L < s.heap.objs.size := F.ns.lt
  have hSL : L ≠ s.heap.objs.size := Nat.ne_of_lt hLlt
  have gS : g.get? s.heap.objs.size = none := Heap.get?_none_of_le (Nat.le_trans F.above (Nat.le_of_lt hLlt))
  have freshS : ∀ b o, s.heap.get? b = some o → b ≠ s.heap.objs.size := fun b o e => Nat.ne_of_lt (Heap.lt_size e)
  have kp : ∀ b o, s.heap.get? b = some o → (s.heap.push (seqObj "list" #[] 0)).get? b = some o := fun b o e => Heap.get?_push_of_some _ e
  have hS : (s.heap.push (seqObj "list" #[] 0)).get? s.heap.objs.size = some (seqObj "list" #[] 0) := Heap.get?_push_size _ rfl
  have F0 : Fr g L (s.heap.push (seqObj "list" #[] 0)) m := F.push _
  have hl₁ : (s.heap.push (seqObj "list" #[] 0)).IsList l vs.toArray := ⟨ol, kp _ _ hol, hol2⟩
  have hit₁ : (s.heap.push (seqObj "list" #[] 0)).IsListIter I l 0 := ⟨oI, kp _ _ hoI, hoI2⟩
  generalize s.heap.push (seqObj "list" #[] 0) = h₁ at *
  generalize s.heap.objs.size = S at *
  refine codeAny_builtin PySem.F.entry_max_loop ?_
  rw [Around.under_plainId PySem.F.plain_max_loop _]
  show wpAny _ A.in1 (seqItems? (.ref S) >>= _) _ _ { s with heap := h₁ }
  refine wpAny_bind (wpAny_seqItems hS rfl ?_)
  show wpAny _ A.in1 (tryCatch (pyNext (.ref I)) _ >>= _) _ _ _
  obtain ⟨v, hv⟩ : ∃ v, vs[0]? = some v := ⟨_, List.getElem?_eq_getElem hne⟩
  refine wpAny_bind (wpAny_tryCatch (wpAny_pyNext_list_item hit₁ hl₁ (x := v) (by simpa using hv) fun h' hit' hs' => ?_))
  have k' : ∀ b o, b ∉ [I, S] → h₁.get? b = some o → h'.get? b = some o := fun b o hb e => (hs'.2 b (by simp at hb; exact hb.1)).trans e
  have F1 : Fr g L ({ s with heap := h' } : Shared).heap m := frK F0 k' (by simp [hIL, hSL]) (by simp [gI, gS])
  have hvm : v ∈ vs := List.mem_of_getElem? hv
  obtain ⟨oI', hoI', hoI2'⟩ := id hit'
  obtain ⟨t2, ev⟩ := C v hvm
  show wpAny _ A.in1 (pure v >>= _) _ _ { s with heap := h' }
  refine wpAny_bind (wpAny_pure ?_)
  obtain ⟨s2, hs2, k2⟩ : ∃ s2 : Shared, s2 = { s with heap := h' } ∧ KeepS [] ({ s with heap := h' } : Shared) s2 := ⟨_, rfl, KeepS.refl⟩
  rw [← hs2]
  have k2' : ∀ b o, h'.get? b = some o → s2.heap.get? b = some o := fun b o e => k2.keep.get b o (by simp) e
  have F2 : Fr g L s2.heap m := frK F1 (ds := []) (fun b o _ e => k2' b o e) (by simp) (by simp)
  have hS2 : s2.heap.get? S = some (seqObj "list" #[] 0) := k2' _ _ ((hs'.2 S hSI).trans hS)
  have s1 := Heap.SameBut.update s2.heap S (Obj.mapSeq fun _ => #[v, v])
  obtain ⟨c2, hc2⟩ : ∃ c2, (s2.heap.update S (Obj.mapSeq fun _ => #[v, v])).get? S = some (seqObj "list" #[v, v] c2) := ⟨_, get?_update_seq hS2 fun _ => #[v, v]⟩
  show wpAny _ A.in1 (updateSeq S (fun _ => #[v, v]) >>= _) _ _ _
  refine wpAny_bind ?_
  refine wpAny_updateSeq hS2 rfl ?_
  rw [hname]
  have k3 : ∀ b o, b ∉ [I, S] → s2.heap.get? b = some o → (s2.heap.update S (Obj.mapSeq fun _ => #[v, v])).get? b = some o := fun b o hb e => (s1.2 b (by simp at hb; exact hb.2)).trans e
  refine wpAny_pure ⟨plainId_quiet PySem.F.plain_max_loop _, max_loop_none (h₁ := h₁) (s₁ := s) hh hu hd C hlI hSI hlS hIL hSL gI gS hl₁ ?_ (vs.length - 1) 0 0 { s2 with heap := s2.heap.update S (Obj.mapSeq fun _ => #[v, v]) } v v t2 c2 (by lia) (by lia) (frK F2 k3 (by simp [hIL, hSL]) (by simp [gI, gS]))
        (fun b o hb e => k3 b o hb (k2' b o (k' b o hb e))) k2.gens k2.os hc2 ⟨oI', (s1.2 I hSI.symm).trans (k2' _ _ hoI'), hoI2'⟩ hv (by have e := ks_get (kf := kf) hv; first | (rw [e]; done) | (rw [e]; exact ev)) (Nat.le_refl _) fun j' hj' hne => absurd (Nat.le_zero.mp hj') hne⟩
  intro i v s' h1 h2 h3 h4 h5 h6
  exact hQ i v s' h1 h2 (fun b o hb e => h3 b o (by simp; exact ⟨hb, freshS b o e⟩) (kp b o e)) h4 h5 h6
end
end
section
theorem slot_object_init : Slot "object" "__init__" "object.__init__" :=
  .of (owner := "object") (n := "__init__") (by rw [typeLookup_type, builtinLookup_eq_fast]; kernel_rfl) (by decide +kernel) (by decide +kernel) (by decide +kernel)
    (by first | exact .inl (by decide +kernel) | exact .inr (by decide +kernel)) (by rw [isSubtype_type]; kernel_rfl)
theorem called_object : TypeCalled "object" "object.__new__" "object.__init__" :=
  { notType := by decide +kernel, canCreate := by decide +kernel, mro := ⟨_, _, (show mroOf (.type "object") = pure [.type "object"] by kernel_rfl)⟩, made := by kernel_rfl, plain := by decide +kernel, sub := by rw [isSubtype_type]; kernel_rfl, init := slot_object_init }
theorem typeCall_object : checkTypeCall "object" ⟨[], []⟩ = pure () := by kernel_rfl
theorem newCall_object : checkBuiltinCall "object.__new__" ⟨[.type "object"], []⟩ = pure () := by kernel_rfl
theorem args_object_init (x : Value) : argsOk "object.__init__" ⟨[x], []⟩ := by unfold argsOk; kernel_rfl
theorem madeHere_object : Bind.madeHere "object.__new__" (.type "object") = pure () := by kernel_rfl
theorem plain_object_new : plainId "object.__new__" = true := by decide +kernel
theorem entry_object_init' : entryFor table "object.__init__" = some Builtin.«object.__init__» := entryFor_of_tree (by kernel_rfl)
noncomputable abbrev objO : Obj := { cls := .type "object", data := .plain }
section
variable {prog : Program} {w : World} {A : Around} {E : Value → Shared → Prop} {s : Shared}
theorem code_object {Q₁ : Value → Shared → Prop} (h : Q₁ (.ref s.heap.objs.size) { s with heap := s.heap.push objO }) :
    codeAny (model prog w) A (.call (.builtin "object.__new__") ⟨[.type "object"], []⟩) (wants Q₁ E) s := by
  refine codeAny_of_tree ?_
  rw [show A.under (.call (.builtin "object.__new__") ⟨[.type "object"], []⟩) = A.in1 from Around.under_plain rfl rfl]
  show wpAny _ A.in1 (do checkBuiltinCall "object.__new__" ⟨[.type "object"], []⟩; again (.builtin "object.__new__" ⟨[.type "object"], []⟩)) _ _ s
  refine wpAny_bind (wpAny_of_eq newCall_object (wpAny_pure ⟨plainId_quiet plain_object_new _, codeAny_builtin F.entry_object_new ?_⟩))
  rw [Around.under_plainId plain_object_new _]
  unfold Builtin.«object.__new__»
  have hm := madeHere_object
  have ht : isType (.type "object") = pure true := by kernel_rfl
  refine wpAny_bind (wpAny_of_eq ht ?_)
  dsimp only
  rw [if_neg (by decide)]
  repeat wp_step
  exact h
theorem call_object {Q : Value → Shared → Prop} (h : Q (.ref s.heap.objs.size) { s with heap := s.heap.push objO }) : wpAny (model prog w) A (call (.type "object") []) Q E s := by
  refine callType_codes (Q₁ := fun obj s₁ => obj = .ref s.heap.objs.size ∧ s₁ = { s with heap := s.heap.push objO }) called_object typeCall_object entry_object_init' (code_object ⟨rfl, rfl⟩) ?_
  rintro obj s₁ ⟨rfl, rfl⟩
  refine ⟨⟨_, Heap.get?_push_size _ rfl, rfl⟩, args_object_init _, ?_⟩
  unfold Builtin.«object.__init__»
  exact wpAny_pure ⟨rfl, h⟩
noncomputable abbrev itO (l : Addr) : Obj := { cls := .type "list_iterator", data := .fields #[.ref l, .int 0 0] }
theorem iter_list_ {l : Addr} {items : Array Value} {Q : Value → Shared → Prop} (hl : s.heap.IsList l items) (h : Q (.ref s.heap.objs.size) { s with heap := s.heap.push (itO l) }) :
    wpAny (model prog w) A (call (.builtin "iter") [.ref l]) Q E s := by
  refine call_function_entry (by decide +kernel) (by decide +kernel) kdk_entry_iter (kdk_args_iter _) ?_
  unfold Builtin.«iter»
  refine wpAny_bind (m := someArgs "iter" 1 2 _) (wpAny_of_eq (a := [Value.ref l]) (by first | rfl | kernel_rfl!) ?_)
  show wpAny _ _ (pyIter (.ref l) >>= _) _ _ _
  refine wpAny_bind (wpAny_pyIter_list hl ?_)
  exact wpAny_pure ⟨_, rfl, h⟩
theorem iter_iter_ {I l : Addr} {k : Nat} {Q : Value → Shared → Prop} (hi : s.heap.IsListIter I l k) (h : Q (.ref I) s) :
    wpAny (model prog w) A (call (.builtin "iter") [.ref I]) Q E s := by
  refine call_function_entry (by decide +kernel) (by decide +kernel) kdk_entry_iter (kdk_args_iter _) ?_
  unfold Builtin.«iter»
  refine wpAny_bind (m := someArgs "iter" 1 2 _) (wpAny_of_eq (a := [Value.ref I]) (by first | rfl | kernel_rfl!) ?_)
  show wpAny _ _ (pyIter (.ref I) >>= _) _ _ _
  refine wpAny_bind (wpAny_pyIter_listiter hi ?_)
  exact wpAny_pure ⟨_, rfl, h⟩
theorem iterArg {g : Heap} {L l I arg : Addr} {m : Str → Option Value} {arr : Array Value} {a b : Addr × Obj} {rest : List (Addr × Obj)} {Q : Value → Shared → Prop} (F : Fr g L s.heap m) (N : News g L s.heap (a :: b :: rest))
    (hrest : (arg = l ∧ rest = []) ∨ (arg = I ∧ rest = [(I, itO l)])) (hgl : g.IsList l arr)
    (h : ∀ J h', Fr g L h' m → News g L h' [a, b, (J, itO l)] → (∀ b o, s.heap.get? b = some o → h'.get? b = some o) → Q (.ref J) { s with heap := h' }) :
    wpAny (model prog w) A (call (.builtin "iter") [.ref arg]) Q E s := by
  rcases hrest with ⟨rfl, rfl⟩ | ⟨rfl, rfl⟩
  · obtain ⟨ol, hol, hol2⟩ := hgl
    refine iter_list_ (items := arr) ⟨ol, F.keep _ _ hol, hol2⟩ (h _ _ (F.push _) (fun q hq => ?_) (fun b o e => Heap.get?_push_of_some _ e))
    have NN := N.grown (fun b o e => Heap.get?_push_of_some (itO arg) e)
    rcases List.mem_cons.mp hq with rfl | hq
    · exact NN _ (.head _)
    · rcases List.mem_cons.mp hq with rfl | hq
      · exact NN _ (.tail _ (.head _))
      · rw [List.mem_singleton.mp hq]
        exact ⟨Heap.get?_push_size _ rfl, Nat.ne_of_gt F.ns.lt, Heap.get?_none_of_le (Nat.le_trans F.above (Nat.le_of_lt F.ns.lt))⟩
  · have nI := N (arg, itO l) (.tail _ (.tail _ (.head _)))
    exact iter_iter_ (l := l) (k := 0) ⟨_, nI.1, rfl, rfl⟩ (h arg s.heap F N (fun _ _ e => e))
theorem objArg {g : Heap} {L : Addr} {m : Str → Option Value} {a : Addr × Obj} {rest : List (Addr × Obj)} {Q : Value → Shared → Prop} (F : Fr g L s.heap m) (N : News g L s.heap (a :: rest))
    (h : ∀ S h', Fr g L h' m → News g L h' (a :: (S, objO) :: rest) → (∀ b o, s.heap.get? b = some o → h'.get? b = some o ∧ b ≠ S) → Q (.ref S) { s with heap := h' }) :
    wpAny (model prog w) A (call (.type "object") []) Q E s := by
  refine call_object (h _ _ (F.push _) (fun q hq => ?_) (fun b o e => ⟨Heap.get?_push_of_some _ e, Nat.ne_of_lt (Heap.lt_size e)⟩))
  have NN := N.grown (fun b o e => Heap.get?_push_of_some objO e)
  rcases List.mem_cons.mp hq with rfl | hq
  · exact NN _ (.head _)
  · rcases List.mem_cons.mp hq with rfl | hq
    · exact ⟨Heap.get?_push_size _ rfl, Nat.ne_of_gt F.ns.lt, Heap.get?_none_of_le (Nat.le_trans F.above (Nat.le_of_lt F.ns.lt))⟩
    · exact NN _ (.tail _ hq)
end
end
section
theorem neData {h : Heap} {a b : Addr} {o o' : Obj} (h1 : h.get? a = some o) (h2 : h.get? b = some o') (hd : o.data ≠ o'.data) : a ≠ b := fun e => by
  subst e; rw [h1] at h2; exact hd (by rw [Option.some.inj h2])
/-- things: each a list in the ground, or a word -/
noncomputable def Thg (h : Heap) (v : Value) : Prop := (∃ a o, v = .ref a ∧ h.get? a = some o ∧ o.cls = .type "list") ∨ (∃ b t, v = .bytes b t)
theorem Thg.mono {h h' : Heap} {v : Value} (T : Thg h v) (k : ∀ b o, h.get? b = some o → h'.get? b = some o) : Thg h' v :=
  T.imp (fun ⟨a, o, e, h1, h2⟩ => ⟨a, o, e, k _ _ h1, h2⟩) id
section
variable {M : Model} {A : Around} {E : Value → Shared → Prop} {s : Shared}
theorem is_sentinel {v : Value} {S : Addr} {Q : Value → Shared → Prop} (T : Thg s.heap v) (hS : s.heap.get? S = some objO) (h : Q (.bool false) s) : wpAny M A (compareOp .Is v (.ref S)) Q E s := by
  rcases T with ⟨a, o, rfl, h1, h2⟩ | ⟨b, t, rfl⟩
  · refine wpAny_is_ref_other (fun e => ?_) h1 hS ?_ h
    · subst e; rw [h1] at hS; have z := Option.some.inj hS; rw [z] at h2; injection h2 with h2; exact absurd h2 (by decide)
    · rw [h2]; intro e; injection e with e; exact absurd e (by decide)
  · exact wpAny_is_other rfl (by intro e; cases e) h
end
theorem slice_all {vs : List Value} {n : Int} (hn : (vs.length : Int) ≤ n) : slicePick vs.toArray none (some n) none = vs.toArray := by
  have h0 : ¬ n < 0 := by omega
  have e1 : sliceBounds none (some n) none vs.toArray.size = (0, (vs.length : Int), 1) := by
    simp only [sliceBounds, Option.getD_none, h0, if_false, List.size_toArray]
    have : min n (vs.length : Int) = vs.length := by omega
    simp [this]
  unfold slicePick
  rw [e1]
  have e2 : sliceRange 0 (vs.length : Int) 1 = List.range vs.length := by
    unfold sliceRange
    by_cases h : (0 : Int) < vs.length
    · have e3 : ((vs.length : Int) - 0 + 1 - 1) / 1 = vs.length := by omega
      simp only [show (1 : Int) > 0 from by decide, if_true, h, e3]
      simp
    · have : vs.length = 0 := by omega
      simp [this]
  show (List.filterMap _ (sliceRange 0 (vs.length : Int) 1)).toArray = _
  rw [e2]
  congr 1
  have : ∀ (l : List Value), (List.range l.length).filterMap (fun x => l.toArray[x]?) = l := by
    intro l
    simp only [List.getElem?_toArray]
    induction l with
    | nil => rfl
    | cons a l ih =>
      rw [List.length_cons, List.range_succ_eq_map, List.filterMap_cons]
      simp only [List.getElem?_cons_zero, List.filterMap_map]
      congr 1
  exact this vs
end
section
/-- an iterator's turns, upon a ground -/
structure Turns (prog : Program) (w : World) (A : Around) (gc : Heap) (It : Addr) (N : Nat) (Src : Nat → Heap → Prop) (V : Nat → Value → Prop) : Prop where
  item : ∀ k (s : Shared) (Q : Option Value → Shared → Prop), k < N → Src k s.heap → (∀ b o, gc.get? b = some o → s.heap.get? b = some o) →
    (∀ v h' tk, V k v → Src (k + 1) h' → Heap.SameBut It s.heap h' → Q (some v) { s with heap := h', toks := tk }) → wpAny (model prog w) A (pyNext (.ref It)) Q NoE s
  stop : ∀ (s : Shared) (Q : Option Value → Shared → Prop), Src N s.heap → (∀ b o, gc.get? b = some o → s.heap.get? b = some o) → (∀ h', Heap.ExtBut It s.heap h' → Q none { s with heap := h' }) → wpAny (model prog w) A (pyNext (.ref It)) Q NoE s
  there : ∀ k h, Src k h → (h.get? It).isSome
  keep : ∀ k h h', Src k h → (∀ o, h.get? It = some o → h'.get? It = some o) → Src k h'
section
variable {prog : Program} {w : World} {A : Around} {E : Value → Shared → Prop} {s : Shared}

structure LSt (gc : Heap) (C D It : Addr) (Src : Nat → Heap → Prop) (Ok : Nat → Value → Heap → Prop) (s₂ : Shared) (k : Nat) (outs : List Value) (s : Shared) : Prop where
  fr : ∃ m, Fr gc C s.heap m
  lst : s.heap.get? D = some (listOf outs.toArray k)
  src : Src k s.heap
  len : outs.length = k
  ok : ∀ j x, outs[j]? = some x → Ok j x (hideAll s.heap [It, C, D])
  gens : s.gens = s₂.gens
  os : s.os = s₂.os

theorem listComp {elt target : Expr} {scope : Scope} {cl : List (Str × Addr)} {env : Env} {It : Addr} {oI : Obj} {N : Nat} {Src : Nat → Heap → Prop} {V : Nat → Value → Prop} {Ok : Nat → Value → Heap → Prop} {Q : Value → Shared → Prop} {s₂ : Shared}
    (hI : s₂.heap.get? It = some oI) (hN : N < 900) (h0 : Src 0 s₂.heap) (T : ∀ gc, Keep [It] s₂.heap gc → Turns prog w A gc It N Src V)
    (hmono : ∀ k x h h', Ok k x h → (∀ b o, h.get? b = some o → h'.get? b = some o) → Ok k x h')
    (hself : ∀ s' Q', Src 0 s'.heap → Q' (.ref It) s' → wpAny (model prog w) A (pyIter (.ref It)) Q' NoE s')
    (helt : ∀ gc C m (s' : Shared) k v (Q' : Value → Shared → Prop), Keep [It] s₂.heap gc → Fr gc C s'.heap m → Src (k + 1) s'.heap → V k v → k < N →
      (∀ x m' (s'' : Shared), Fr gc C s''.heap m' → (∀ b o, b ≠ C → s'.heap.get? b = some o → s''.heap.get? b = some o) → s''.gens = s'.gens → s''.os = s'.os →
        (∀ bad : List Addr, (∀ b ∈ bad, (s'.heap.get? b).isSome) → Ok k x (hideAll s''.heap bad)) → Q' x s'') →
      wpAny (model prog w) A (letOwnedTupleGo target (.ref It) v) (fun _ s₅ => wpAny (model prog w) A (assign target (compEnvC scope cl C env) v) (fun _ s₆ => wpAny (model prog w) A (eval elt (compEnvC scope cl C env)) Q' NoE s₆) NoE s₅) NoE s')
    (hQ : ∀ D' (outs : List Value) s', KeepS [It] s₂ s' → s'.heap.get? D' = some (listOf outs.toArray N) → s₂.heap.get? D' = none → outs.length = N → (∀ j x, outs[j]? = some x → Ok j x (hideAll s'.heap [D'])) → Q (.ref D') s') :
    CompD prog w A elt target scope cl env Q (.ref It) s₂ [It] := by
  refine ⟨by simp [hI], ?_⟩
  intro gc Da C h₁ F hD hDC gD hds kg old
  have hIt := hds It (by simp)
  have TT := T gc kg
  have oldIt := old _ _ hI
  refine ⟨fun n s' => ∃ k outs, n = N + 1 - k ∧ k ≤ N ∧ LSt gc C Da It Src Ok s₂ k outs s', N + 1, ?_, ?_, ?_⟩
  · exact ⟨0, [], rfl, by omega, ⟨_, F⟩, hD, TT.keep 0 _ _ h0 (fun o e => (old _ _ e).1), rfl, fun j x e => by simp at e, rfl, rfl⟩
  · intro Q' hQ'
    exact hself _ _ (TT.keep 0 _ _ h0 (fun o e => (old _ _ e).1)) hQ'
  · rintro n s' ⟨k, outs, rfl, hk, Z⟩
    obtain ⟨m, Fm⟩ := Z.fr
    by_cases hend : k < N
    · refine TT.item k s' _ hend Z.src Fm.keep fun v h' tk hv hs' sb => ?_
      have F' : Fr gc C h' m := frK Fm (ds := [It]) (fun b o hb e => (sb.2 b (by simpa using hb)).trans e) (by simpa using Ne.symm hIt.2.1) (by simpa using hIt.1)
      refine wpAny_mono (helt gc C m { s' with heap := h', toks := tk } k v _ kg F' hs' hv hend fun x m' s3 F3 k3 g3 o3 hok => ?_) (fun _ _ h => h) (fun _ _ h => h)
      replace k3 : ∀ b o, b ≠ C → h'.get? b = some o → s3.heap.get? b = some o := k3
      have hD1 : h'.get? Da = some (listOf outs.toArray k) := (sb.2 _ (Ne.symm hIt.2.2)).trans Z.lst
      have hD3 := k3 _ _ hDC hD1
      obtain ⟨oC, _, _, hoC, _⟩ := F'.ns
      obtain ⟨oI', hoI'⟩ := Option.isSome_iff_exists.mp (TT.there _ _ hs')
      refine append_at (its := outs.toArray) (n := k) hD3 (fun h8 hs8 ho8 => ?_) (hsz := by rw [sizeLine_eq]; have := Z.len; simp; omega)
      have F8 : Fr gc C h8 m' := F3.change hs8 hDC gD
      refine ⟨N + 1 - (k + 1), by omega, k + 1, outs ++ [x], rfl, by omega, ⟨_, F8⟩, by simpa using ho8, TT.keep _ _ _ hs' (fun o e => (hs8.2 _ hIt.2.2).trans (k3 _ _ hIt.2.1 e)), by simp [Z.len], fun j y hj => ?_, g3.trans Z.gens, o3.trans Z.os⟩
      have up : ∀ b o, (hideAll s3.heap [It, C, Da]).get? b = some o → (hideAll h8 [It, C, Da]).get? b = some o := fun b o e => by
        have hb : b ∉ [It, C, Da] := fun hb => by rw [hideAll_none _ hb] at e; cases e
        have hb' := hb
        simp at hb'
        exact hideAll_get _ ((hs8.2 b hb'.2.2).trans (of_hideAll _ e)) hb
      by_cases hjk : j < outs.length
      · rw [List.getElem?_append_left hjk] at hj
        refine hmono j y _ _ (Z.ok j y hj) fun b o e => up b o ?_
        have hb : b ∉ [It, C, Da] := fun hb => by rw [hideAll_none _ hb] at e; cases e
        have hb' := hb
        simp at hb'
        exact hideAll_get _ (k3 b o hb'.2.1 ((sb.2 b hb'.1).trans (of_hideAll _ e))) hb
      · have hjl : j < (outs ++ [x]).length := (List.getElem?_eq_some_iff.mp hj).1
        have ej : j = outs.length := by simp at hjl; omega
        subst ej
        simp at hj
        subst hj
        rw [Z.len]
        refine hmono k x _ _ (hok [It, C, Da] fun b hb => ?_) up
        simp at hb
        rcases hb with rfl | rfl | rfl
        · show (h'.get? _).isSome = true
          rw [hoI']; rfl
        · show (h'.get? _).isSome = true
          rw [hoC]; rfl
        · show (h'.get? _).isSome = true
          rw [hD1]; rfl
    · have ek : k = N := by omega
      subst ek
      refine TT.stop s' _ Z.src Fm.keep fun h' he => ?_
      refine ⟨⟨m, frExt Fm he (hIt.2.1) hIt.1⟩, Z.gens, Z.os, fun s3 k3 sb => ?_⟩
      refine hQ Da outs s3 k3 ((sb _ hDC).trans (he _ _ (Ne.symm hIt.2.2) Z.lst)) ?_ Z.len fun j x hj => ?_
      · cases q : s₂.heap.get? Da with
        | none => rfl
        | some o => exact absurd rfl (old _ _ q).2.2
      · refine hmono j x _ _ (Z.ok j x hj) fun b o e => ?_
        have hb : b ∉ [It, C, Da] := fun hb => by rw [hideAll_none _ hb] at e; cases e
        simp at hb
        refine hideAll_get _ ((sb b hb.2.1).trans (he b o hb.1 (of_hideAll _ e))) (by simpa using hb.2.2)
theorem listTurns {gc : Heap} {It l : Addr} {vs : List Value} (hh : A.handled = none) (hl : gc.IsList l vs.toArray) :
    Turns prog w A gc It vs.length (fun k h => h.IsListIter It l k) (fun k v => vs[k]? = some v) := by
  have hls : ∀ h : Heap, (∀ b o, gc.get? b = some o → h.get? b = some o) → h.IsList l vs.toArray := fun h k => by
    obtain ⟨ol, hol, h2⟩ := hl
    exact ⟨ol, k _ _ hol, h2⟩
  refine ⟨fun k s Q hk hs hg hq => ?_, fun s Q hs hg hq => ?_, fun k h hs => ?_, fun k h h' hs hk => ?_⟩
  · obtain ⟨v, hv⟩ : ∃ v, vs[k]? = some v := ⟨_, List.getElem?_eq_getElem hk⟩
    exact wpAny_pyNext_list_item hs (hls _ hg) (x := v) (by simpa using hv) fun h' h1 h2 => hq v h' _ hv h1 h2
  · exact wpAny_pyNext_list_end hh hs (hls _ hg) (by simp) fun h' h1 => hq h' h1
  · obtain ⟨o, ho, _⟩ := hs; rw [ho]; rfl
  · obtain ⟨o, ho, h2⟩ := hs; exact ⟨o, hk _ ho, h2⟩
theorem rangeTurns {gc : Heap} {It : Addr} {x0 : Int} {N : Nat} (hh : A.handled = none) :
    Turns prog w A gc It N (fun k h => IsRangeIter h It (x0 + k) ((N : Int) - k) 1) (fun k v => ∃ t, v = .int (x0 + k) t) := by
  refine ⟨fun k s Q hk hs hg hq => ?_, fun s Q hs hg hq => ?_, fun k h hs => ?_, fun k h h' hs hk => ?_⟩
  · refine wpAny_pyNext_range_item hs (by omega) fun h' h1 h2 => hq _ h' _ ⟨_, rfl⟩ ?_ h2
    have e1 : x0 + ((k + 1 : Nat) : Int) = x0 + k + 1 := by omega
    have e2 : (N : Int) - ((k + 1 : Nat) : Int) = N - k - 1 := by omega
    rw [e1, e2]; exact h1
  · exact wpAny_pyNext_range_end hh hs (by omega) fun h' h1 => hq h' h1
  · rw [hs]; rfl
  · exact hk _ hs
/-- a, b, c = a tuple of three -/
theorem assign3 {env : Env} {a b c : Str} {pa pb pc tp : Pos} {kk : Nat} {T : Addr} {x y z : Value} {m : Str → Option Value} {Q : Unit → Shared → Prop} (hh : A.handled = none) (ht : s.heap.IsTuple T #[x, y, z])
    (ha : env.kindOf a = some .local) (hb : env.kindOf b = some .local) (hc : env.kindOf c = some .local) (hp : (env.scope.kind == .class || (env.scope.kind == .module && env.locals != env.globals)) = false) (hn : s.heap.Ns env.locals m)
    (h : ∀ (h' : Heap) (tk : Nat), h'.Ns env.locals (fun q => if q = c then some z else if q = b then some y else if q = a then some x else m q) → (∀ c o, c ≠ env.locals → s.heap.get? c = some o → h'.get? c = some o) → Q () { s with heap := h', toks := tk }) :
    wpAny (model prog w) A (assign (.Tuple [.Name a pa, .Name b pb, .Name c pc] kk tp) env (.ref T)) Q E s := by
  refine wpAny_assign_Tuple hh ht rfl rfl fun h₁ he₁ => ?_
  have hL : env.locals ≠ s.heap.objs.size := Nat.ne_of_lt hn.lt
  have hn₁ : h₁.Ns env.locals m := hn.at' fun o e => he₁ _ o hL e
  have up₁ : ∀ c o, s.heap.get? c = some o → h₁.get? c = some o := fun c o e => he₁ c o (Nat.ne_of_lt (Heap.lt_size e)) e
  show wpAny _ _ (assignInOrder [assign (.Name a pa) env, assign (.Name b pb) env, assign (.Name c pc) env] [x, y, z]) _ _ _
  refine assignInOrder_cons ?_
  refine wpAny_assign_Name (wpAny_storeName_local ha hn₁ (fun h₂ hn₂ hs₂ => ?_) hp)
  refine assignInOrder_cons ?_
  refine wpAny_assign_Name (wpAny_storeName_local hb hn₂ (fun h₃ hn₃ hs₃ => ?_) hp)
  refine assignInOrder_cons ?_
  refine wpAny_assign_Name (wpAny_storeName_local hc hn₃ (fun h₄ hn₄ hs₄ => ?_) hp)
  refine assignInOrder_nil ?_
  exact h h₄ _ hn₄ fun c o hc e => hs₄.extBut c o hc (hs₃.extBut c o hc (hs₂.extBut c o hc (up₁ c o e)))
theorem frSetNs {gc h h' : Heap} {C : Addr} {m m' : Str → Option Value} (F : Fr gc C h m) (hn : h'.Ns C m') (k : ∀ b o, b ≠ C → h.get? b = some o → h'.get? b = some o) : Fr gc C h' m' :=
  ⟨hn, fun b o e => k b o (fun q => by rw [q] at e; exact absurd (Heap.lt_size e) (Nat.not_lt.mpr F.above)) (F.keep b o e), F.above⟩
structure CompNames (scope : Scope) (cl : List (Str × Addr)) (env : Env) (xs : List Str) : Prop where
  loc : ∀ C, ∀ x ∈ xs, (compEnvC scope cl C env).kindOf x = some .local
  fn : ∀ C, (compEnvC scope cl C env).scope.kind = .function
theorem CompNames.hp {scope : Scope} {cl : List (Str × Addr)} {env : Env} {xs : List Str} (H : CompNames scope cl env xs) (C : Addr) :
    ((compEnvC scope cl C env).scope.kind == .class || ((compEnvC scope cl C env).scope.kind == .module && (compEnvC scope cl C env).locals != (compEnvC scope cl C env).globals)) = false := by
  rw [H.fn C]; rfl
/-- [elem for k, order, elem in result] -/
theorem lastComp3 {p1 p2 p3 p4 p5 : Pos} {kk : Nat} {scope : Scope} {cl : List (Str × Addr)} {env : Env} {It D : Addr} {its : List Itm} {out : Itm → Value} {e : Nat} {Q : Value → Shared → Prop} {s₂ : Shared}
    (hn : CompNames scope cl env [Str.ofString "k", Str.ofString "order", Str.ofString "elem"]) (hh : A.handled = none) (hI : s₂.heap.IsListIter It D 0) (hD : s₂.heap.get? D = some (listOf (its.map Itm.val).toArray e)) (hz : its.length < 900)
    (hits : ∀ i ∈ its, s₂.heap.get? i.adr = some i.obj) (hout : ∀ i ∈ its, i.more = [out i])
    (hQ : ∀ D' s', KeepS [It] s₂ s' → s'.heap.get? D' = some (listOf (its.map out).toArray its.length) → s₂.heap.get? D' = none → Q (.ref D') s') :
    CompD prog w A (.Name (Str.ofString "elem") p1) (.Tuple [.Name (Str.ofString "k") p2, .Name (Str.ofString "order") p3, .Name (Str.ofString "elem") p4] kk p5) scope cl env Q (.ref It) s₂ [It] := by
  obtain ⟨oI, hoI, hcI, hdI⟩ := id hI
  have hDI : D ≠ It := neData hD hoI (by rw [hdI]; intro q; cases q)
  have hit : ∀ i ∈ its, i.adr ≠ It := fun i hi => neData (hits i hi) hoI (by rw [hdI]; intro q; cases q)
  refine listComp (N := its.length) (Src := fun k h => h.IsListIter It D k) (V := fun k v => (its.map Itm.val)[k]? = some v) (Ok := fun k x _ => its[k]?.map out = some x) hoI hz hI
    (fun gc kg => by
      have := listTurns (prog := prog) (w := w) (A := A) (gc := gc) (It := It) (l := D) (vs := its.map Itm.val) hh (PySem.IsL.isList (n := e) (kg.get _ _ (by simpa using hDI) hD))
      simpa using this) (fun _ _ _ _ h _ => h)
    (fun s' Q' hs hq => wpAny_pyIter_listiter hs hq) (fun gc C m s' k v Q' kg F hs hv hk hq => ?_) (fun D' outs s' k' hD' hn' hlen hok => ?_)
  · have hv' : v = its[k].val := by simpa [hk, eq_comm] using hv
    subst hv'
    have hmem : its[k] ∈ its := List.getElem_mem hk
    have ho := hits _ hmem
    have ho' : s'.heap.get? its[k].adr = some its[k].obj := F.keep _ _ (kg.get _ _ (by simpa using hit _ hmem) ho)
    refine wpAny_letOwnedTupleGo_listiter hs ?_
    refine assign3 (x := .bytes its[k].key.toArray its[k].t) (y := .int its[k].ord its[k].u) (z := out its[k]) hh ⟨_, ho', rfl, _, by show Data.seq _ _ = _; rw [hout _ hmem]⟩ (hn.loc C _ (by simp)) (hn.loc C _ (by simp)) (hn.loc C _ (by simp)) (hn.hp C) F.ns fun h' tk hn' k' => ?_
    refine wpAny_Name (wpAny_loadName_local (hn.fn C) (hn.loc C _ (by simp)) hn' (if_pos rfl) (hq _ _ _ (frSetNs F hn' k') k' rfl rfl (fun _ _ => by simp [hk])))
  · have eo : outs = its.map out := by
      refine List.ext_getElem? fun j => ?_
      rw [List.getElem?_map]
      cases q : outs[j]? with
      | some x => exact (hok j x q).symm
      | none =>
        have : its.length ≤ j := by rw [← hlen]; exact List.getElem?_eq_none_iff.mp q
        simp [this]
    subst eo
    exact hQ D' s' k' hD' hn'
/-- [elem for elem, order in result] -/
theorem lastComp2 {p1 p2 p3 p5 : Pos} {kk : Nat} {scope : Scope} {cl : List (Str × Addr)} {env : Env} {It D : Addr} {its : List Itm} {out : Itm → Value} {e : Nat} {Q : Value → Shared → Prop} {s₂ : Shared}
    (hn : CompNames scope cl env [Str.ofString "elem", Str.ofString "order"]) (hh : A.handled = none) (hI : s₂.heap.IsListIter It D 0) (hD : s₂.heap.get? D = some (listOf (its.map Itm.val).toArray e)) (hz : its.length < 900)
    (hits : ∀ i ∈ its, s₂.heap.get? i.adr = some i.obj) (hout : ∀ i ∈ its, i.more = [] ∧ out i = .bytes i.key.toArray i.t)
    (hQ : ∀ D' s', KeepS [It] s₂ s' → s'.heap.get? D' = some (listOf (its.map out).toArray its.length) → s₂.heap.get? D' = none → Q (.ref D') s') :
    CompD prog w A (.Name (Str.ofString "elem") p1) (.Tuple [.Name (Str.ofString "elem") p2, .Name (Str.ofString "order") p3] kk p5) scope cl env Q (.ref It) s₂ [It] := by
  obtain ⟨oI, hoI, hcI, hdI⟩ := id hI
  have hDI : D ≠ It := neData hD hoI (by rw [hdI]; intro q; cases q)
  have hit : ∀ i ∈ its, i.adr ≠ It := fun i hi => neData (hits i hi) hoI (by rw [hdI]; intro q; cases q)
  refine listComp (N := its.length) (Src := fun k h => h.IsListIter It D k) (V := fun k v => (its.map Itm.val)[k]? = some v) (Ok := fun k x _ => its[k]?.map out = some x) hoI hz hI
    (fun gc kg => by
      have := listTurns (prog := prog) (w := w) (A := A) (gc := gc) (It := It) (l := D) (vs := its.map Itm.val) hh (PySem.IsL.isList (n := e) (kg.get _ _ (by simpa using hDI) hD))
      simpa using this) (fun _ _ _ _ h _ => h)
    (fun s' Q' hs hq => wpAny_pyIter_listiter hs hq) (fun gc C m s' k v Q' kg F hs hv hk hq => ?_) (fun D' outs s' k' hD' hn' hlen hok => ?_)
  · have hv' : v = its[k].val := by simpa [hk, eq_comm] using hv
    subst hv'
    have hmem : its[k] ∈ its := List.getElem_mem hk
    have ho := hits _ hmem
    have ho' : s'.heap.get? its[k].adr = some its[k].obj := F.keep _ _ (kg.get _ _ (by simpa using hit _ hmem) ho)
    refine wpAny_letOwnedTupleGo_listiter hs ?_
    refine kcp_assign (x := .bytes its[k].key.toArray its[k].t) (y := .int its[k].ord its[k].u) hh ⟨_, ho', rfl, _, by show Data.seq _ _ = _; rw [(hout _ hmem).1]⟩ (hn.loc C _ (by simp)) (hn.loc C _ (by simp)) (hn.hp C) F.ns fun h' tk hn' k' => ?_
    refine wpAny_Name (wpAny_loadName_local (hn.fn C) (hn.loc C _ (by simp)) hn' ((if_neg (by decide)).trans (if_pos rfl)) (hq _ _ _ (frSetNs F hn' k') k' rfl rfl (fun _ _ => by simp [hk, (hout _ hmem).2])))
  · have eo : outs = its.map out := by
      refine List.ext_getElem? fun j => ?_
      rw [List.getElem?_map]
      cases q : outs[j]? with
      | some x => exact (hok j x q).symm
      | none =>
        have : its.length ≤ j := by rw [← hlen]; exact List.getElem?_eq_none_iff.mp q
        simp [this]
    subst eo
    exact hQ D' s' k' hD' hn'
end
end
section
noncomputable def ItsOk (Sp : Nat → Itm → Prop) (h : Heap) (its : List Itm) : Prop := ∀ j it, its[j]? = some it → Sp j it ∧ h.get? it.adr = some it.obj
theorem ItsOk.keep {Sp : Nat → Itm → Prop} {h h' : Heap} {its : List Itm} (I : ItsOk Sp h its) (k : ∀ it ∈ its, h.get? it.adr = some it.obj → h'.get? it.adr = some it.obj) : ItsOk Sp h' its := fun j it e =>
  ⟨(I j it e).1, k it (List.mem_of_getElem? e) (I j it e).2⟩
section
variable {prog : Program} {w : World} {A : Around} {E : Value → Shared → Prop} {s : Shared}

/-- the state of the comprehension over zip(range, iterator) behind k turns -/
structure ZSt (gc : Heap) (C D z TI TO i1 J l : Addr) (c0 left step : Int) (vs : List Value) (Sp : Nat → Itm → Prop) (s₂ : Shared) (k : Nat) (its : List Itm) (s : Shared) : Prop where
  fr : ∃ m, Fr gc C s.heap m
  lst : ∃ e, s.heap.get? D = some (listOf (its.map Itm.val).toArray e)
  zip : IsZip s.heap z TI TO .none
  tin : IsPair s.heap TI (.ref i1) (.ref J)
  tout : ∃ a b, IsPair s.heap TO a b
  rng : IsRangeIter s.heap i1 (c0 + step * k) (left - k) step
  it : s.heap.IsListIter J l k
  isl : s.heap.IsList l vs.toArray
  len : its.length = k
  ok : ItsOk Sp s.heap its
  nod : (its.map Itm.adr).Nodup
  new : ∀ x ∈ its, x.adr ∉ [C, D, z, TI, TO, i1, J, l] ∧ gc.get? x.adr = none
  gens : s.gens = s₂.gens
  os : s.os = s₂.os

theorem zipComp {elt : Expr} {p1 p2 p3 : Pos} {kk : Nat} {scope : Scope} {cl : List (Str × Addr)} {env : Env} {z TI TO i1 J l : Addr} {c0 left step : Int} {vs : List Value} {Sp : Nat → Itm → Prop} {Q : Value → Shared → Prop} {s₂ : Shared}
    (hh : A.handled = none) (D : ZA z TI TO i1 J l) (hlJ : l ≠ J) (hlTI : l ≠ TI) (hz : IsZip s₂.heap z TI TO .none) (hTI : IsPair s₂.heap TI (.ref i1) (.ref J)) (hTO : IsPair s₂.heap TO .none .none) (h1 : IsRangeIter s₂.heap i1 c0 left step) (h2 : s₂.heap.IsListIter J l 0)
    (hl : s₂.heap.IsList l vs.toArray) (hlen : vs.length < 900)
    (hki : ∀ C, (compEnvC scope cl C env).kindOf (Str.ofString "i") = some .local) (hke : ∀ C, (compEnvC scope cl C env).kindOf (Str.ofString "elem") = some .local) (hsk : ∀ C, ((compEnvC scope cl C env).scope.kind == .class || ((compEnvC scope cl C env).scope.kind == .module && (compEnvC scope cl C env).locals != (compEnvC scope cl C env).globals)) = false)
    (helt : ∀ gc C m (s' : Shared) k v t (Q' : Value → Shared → Prop), Keep [z, TO, i1, J] s₂.heap gc → Fr gc C s'.heap m → m (Str.ofString "i") = some (.int (c0 + step * (k : Nat)) t) → m (Str.ofString "elem") = some v → vs[k]? = some v →
      (∀ it s'', Sp k it → s''.heap.get? it.adr = some it.obj → s'.heap.get? it.adr = none → (∀ b o, s'.heap.get? b = some o → s''.heap.get? b = some o) → s''.gens = s'.gens → s''.os = s'.os → Q' it.val s'') →
      wpAny (model prog w) A (eval elt (compEnvC scope cl C env)) Q' NoE s')
    (hQ : ∀ D' its s', KeepS [z, TO, i1, J] s₂ s' → s'.heap.get? D' = some (listOf (its.map Itm.val).toArray its.length) → s₂.heap.get? D' = none → its.length = min left.toNat vs.length → ItsOk Sp s'.heap its → (its.map Itm.adr).Nodup → (∀ x ∈ its, x.adr ≠ D' ∧ s₂.heap.get? x.adr = none) →
      (if vs.length < left.toNat then Gone s'.heap J else s'.heap.IsListIter J l its.length) → Q (.ref D') s') :
    CompD prog w A elt (.Tuple [.Name (Str.ofString "i") p1, .Name (Str.ofString "elem") p2] kk p3) scope cl env Q (.ref z) s₂ [z, TO, i1, J] := by
  obtain ⟨oJ, hoJ, hoJ2⟩ := id h2
  obtain ⟨ol, hol, hol2⟩ := id hl
  refine ⟨?_, ?_⟩
  · intro d hd
    simp at hd
    rcases hd with rfl | rfl | rfl | rfl
    · rw [hz]; rfl
    · rw [hTO]; rfl
    · rw [h1]; rfl
    · rw [hoJ]; rfl
  intro gc Da C h₁ F hD hDC gD hds kg old
  have oz := old _ _ hz
  have oTI := old _ _ hTI
  have oTO := old _ _ hTO
  have oi := old _ _ h1
  have oJ' := old _ _ hoJ
  have ol' := old _ _ hol
  have hTIn : TI ∉ [z, TO, i1, J] := by simp; exact ⟨D.TIz, D.TITO, D.TIi1, D.TIi2⟩
  have hln : l ∉ [z, TO, i1, J] := by simp; exact ⟨D.l2z, D.l2TO, D.l2i1, hlJ⟩
  refine ⟨fun n s' => ∃ k its, n = vs.length + 1 - k ∧ k ≤ vs.length ∧ (k : Int) ≤ max left 0 ∧ ZSt gc C Da z TI TO i1 J l c0 left step vs Sp s₂ k its s' ∧ (∃ e, e = its.length ∧ s'.heap.get? Da = some (listOf (its.map Itm.val).toArray e)), vs.length + 1, ?_, ?_, ?_⟩
  · refine ⟨0, [], rfl, by omega, by omega, ⟨⟨_, F⟩, ⟨0, hD⟩, oz.1, oTI.1, ⟨_, _, oTO.1⟩, by simpa using oi.1, ⟨oJ, oJ'.1, hoJ2⟩, ⟨ol, ol'.1, hol2⟩, rfl, fun j it e => by simp at e, by simp, by simp, rfl, rfl⟩, 0, rfl, hD⟩
  · intro Q' hQ'
    exact wpAny_pyIter_zip oz.1 hQ'
  · rintro n s' ⟨k, its, rfl, hk, hkl, Z, e0, he0, hDe⟩
    subst he0
    obtain ⟨m, Fm⟩ := Z.fr
    obtain ⟨a, b, hTO'⟩ := Z.tout
    have gd : ∀ d ∈ [z, TO, i1, J], gc.get? d = none := fun d hd => (hds d hd).1
    by_cases hleft : left - k ≤ 0
    · refine zipR_end1 hh D Z.zip Z.tin hTO' Z.rng hleft fun h' k' => ?_
      have kk' : ∀ b o, b ∉ [z, TO, i1, J] → s'.heap.get? b = some o → h'.get? b = some o := fun b o hb e => by
        simp at hb
        exact k' b o hb.1 hb.2.2.1 e
      refine ⟨⟨m, frK Fm kk' (fun q => absurd rfl (hds C q).2.1) gd⟩, Z.gens, Z.os, fun s3 k3 sb => ?_⟩
      have up : ∀ b o, b ∉ [z, TO, i1, J] → b ≠ C → s'.heap.get? b = some o → s3.heap.get? b = some o := fun b o hb hC e => (sb b hC).trans (kk' b o hb e)
      have hDn : Da ∉ [z, TO, i1, J] := fun q => absurd rfl (hds Da q).2.2
      obtain ⟨oJ3, hoJ3, hoJ4⟩ := Z.it
      have hJC : J ≠ C := (hds J (by simp)).2.1
      refine hQ Da its s3 k3 (up _ _ hDn hDC hDe) ?_ ?_ ?_ Z.nod ?_ ?_
      · cases q : s₂.heap.get? Da with
        | none => rfl
        | some o => exact absurd rfl (old _ _ q).2.2
      · rw [Z.len]; omega
      · exact Z.ok.keep fun it hi e => up _ _ (by have := (Z.new it hi).1; simp at this ⊢; simp [this]) (by have := (Z.new it hi).1; simp at this; simp [this]) e
      · intro x hx
        have nx := (Z.new x hx).1
        simp at nx
        refine ⟨by simp [nx], ?_⟩
        cases q : s₂.heap.get? x.adr with
        | none => rfl
        | some o =>
          have := kg.get _ _ (by simp [nx]) q
          rw [(Z.new x hx).2] at this
          cases this
      · have : ¬ vs.length < left.toNat := by omega
        rw [if_neg this, Z.len]
        exact ⟨oJ3, (sb J hJC).trans (k' _ _ D.i2z D.i12.symm hoJ3), hoJ4⟩
    · by_cases hend : k < vs.length
      · obtain ⟨v, hv⟩ : ∃ v, vs[k]? = some v := ⟨_, List.getElem?_eq_getElem hend⟩
        refine zipR_item D Z.zip Z.tin hTO' Z.rng (by omega) Z.it Z.isl (y := v) (by simpa using hv) fun h' tk hz' hTO2 hr' hit' hT' hsz k' => ?_
        have hTz : s'.heap.objs.size ≠ z := Nat.ne_of_gt (Heap.lt_size Z.zip)
        have kk' : ∀ b o, b ∉ [z, TO, i1, J] → s'.heap.get? b = some o → h'.get? b = some o := fun b o hb e => by
          simp at hb
          exact k' b o hb.1 hb.2.1 hb.2.2.1 hb.2.2.2 e
        refine wpAny_letOwnedTupleGo_zip hz' fun h5 hz5 hs5 => ?_
        have k5 : ∀ b o, b ≠ z → h'.get? b = some o → h5.get? b = some o := fun b o hb e => (hs5.2 b hb).trans e
        have k5' : ∀ b o, b ∉ [z, TO, i1, J] → s'.heap.get? b = some o → h5.get? b = some o := fun b o hb e => k5 b o (by simp at hb; exact hb.1) (kk' b o hb e)
        have hCn : C ∉ [z, TO, i1, J] := fun q => absurd rfl (hds C q).2.1
        have hDn : Da ∉ [z, TO, i1, J] := fun q => absurd rfl (hds Da q).2.2
        have F5 : Fr gc C h5 m := frK Fm k5' hCn gd
        refine kcp_assign hh (x := .int (c0 + step * k) tk) (y := v) ⟨_, k5 _ _ hTz hT', rfl, _, rfl⟩ (hki C) (hke C) (hsk C) F5.ns fun h6 tk6 hn6 k6 => ?_
        replace k6 : ∀ b o, b ≠ C → h5.get? b = some o → h6.get? b = some o := k6
        have F6 : Fr gc C h6 (fun z => if z = Str.ofString "elem" then some v else if z = Str.ofString "i" then some (.int (c0 + step * k) tk) else m z) :=
          ⟨hn6, fun b o e => k6 b o (fun q => by rw [q] at e; have := F5.above; exact absurd (Heap.lt_size e) (Nat.not_lt.mpr this)) (F5.keep b o e), F5.above⟩
        refine helt gc C _ _ k v tk _ kg F6 rfl rfl hv fun it s7 hsp hit7 hfr7 k7 g7 o7 => ?_
        replace k7 : ∀ b o, h6.get? b = some o → s7.heap.get? b = some o := k7
        replace hfr7 : h6.get? it.adr = none := hfr7
        have F7 : Fr gc C s7.heap _ := frK F6 (ds := []) (fun b o _ e => k7 b o e) (by simp) (by simp)
        have up : ∀ b o, b ∉ [z, TO, i1, J] → b ≠ C → s'.heap.get? b = some o → s7.heap.get? b = some o := fun b o hb hc e => k7 _ _ (k6 b o hc (k5' b o hb e))
        have upz : ∀ b o, b ≠ z → b ≠ C → h'.get? b = some o → s7.heap.get? b = some o := fun b o hb hc e => k7 _ _ (k6 b o hc (k5 b o hb e))
        have nC : ∀ d ∈ [z, TO, i1, J], d ≠ C := fun d hd => (hds d hd).2.1
        have nD : ∀ d ∈ [z, TO, i1, J], d ≠ Da := fun d hd => (hds d hd).2.2
        have hD7 := up _ _ hDn hDC hDe
        have hz7 : IsZip s7.heap z TI TO .none := k7 _ _ (k6 _ _ (nC z (by simp)) hz5)
        have hTO7 : IsPair s7.heap TO (.int (c0 + step * k) tk) v := upz _ _ D.TOz (nC TO (by simp)) hTO2
        have hr7 : IsRangeIter s7.heap i1 (c0 + step * k + step) (left - k - 1) step := upz _ _ D.i1z (nC i1 (by simp)) hr'
        obtain ⟨oJ5, hoJ5, hoJ6⟩ := hit'
        have hJ7 : s7.heap.get? J = some oJ5 := upz _ _ D.i2z (nC J (by simp)) hoJ5
        have hTI7 : IsPair s7.heap TI (.ref i1) (.ref J) := up _ _ hTIn oTI.2.1 Z.tin
        obtain ⟨ol7, hol7, hol8⟩ := Z.isl
        have hl7 : s7.heap.get? l = some ol7 := up _ _ hln ol'.2.1 hol7
        have hits : ∀ x ∈ its, s7.heap.get? x.adr = some x.obj ∧ x.adr ≠ it.adr := fun x hx => by
          obtain ⟨j, hj⟩ := List.getElem?_of_mem hx
          have nx := (Z.new x hx).1
          simp at nx
          have e6 : h6.get? x.adr = some x.obj := k6 _ _ (by simp [nx]) (k5' _ _ (by simp [nx]) (Z.ok j x hj).2)
          exact ⟨k7 _ _ e6, fun q => by rw [q, hfr7] at e6; cases e6⟩
        have inh6 : ∀ b o, h6.get? b = some o → it.adr ≠ b := fun b o e q => by rw [← q, hfr7] at e; cases e
        have newit : it.adr ∉ [C, Da, z, TI, TO, i1, J, l] := by
          obtain ⟨oC, _, _, hoC, _⟩ := F6.ns
          simp
          exact ⟨inh6 _ _ hoC, inh6 _ _ (k6 _ _ hDC (k5' _ _ hDn hDe)), inh6 _ _ (k6 _ _ (nC z (by simp)) hz5), inh6 _ _ (k6 _ _ oTI.2.1 (k5' _ _ hTIn Z.tin)), inh6 _ _ (k6 _ _ (nC TO (by simp)) (k5 _ _ D.TOz hTO2)),
            inh6 _ _ (k6 _ _ (nC i1 (by simp)) (k5 _ _ D.i1z hr')), inh6 _ _ (k6 _ _ (nC J (by simp)) (k5 _ _ D.i2z hoJ5)), inh6 _ _ (k6 _ _ ol'.2.1 (k5' _ _ hln hol7))⟩
        have gcit : gc.get? it.adr = none := by
          cases q : gc.get? it.adr with
          | none => rfl
          | some o => have := F6.keep _ _ q; rw [hfr7] at this; cases this
        have Nit : ∀ x ∈ its ++ [it], s7.heap.get? x.adr = some x.obj ∧ x.adr ∉ [C, Da, z, TI, TO, i1, J, l] ∧ gc.get? x.adr = none := fun x hx => by
          rcases List.mem_append.mp hx with hx | hx
          · exact ⟨(hits x hx).1, Z.new x hx⟩
          · rw [List.mem_singleton.mp hx]; exact ⟨hit7, newit, gcit⟩
        have N7 : News gc C s7.heap ((Da, listOf (its.map Itm.val).toArray its.length) :: (z, _) :: (TO, _) :: (i1, _) :: (J, oJ5) :: (its ++ [it]).map fun x => (x.adr, x.obj)) :=
          newsCons hD7 hDC gD (newsCons hz7 (nC z (by simp)) (gd z (by simp)) (newsCons hTO7 (nC TO (by simp)) (gd TO (by simp)) (newsCons hr7 (nC i1 (by simp)) (gd i1 (by simp)) (newsCons hJ7 (nC J (by simp)) (gd J (by simp)) (fun q hq => by
            obtain ⟨x, hx, rfl⟩ := List.mem_map.mp hq
            have := Nit x hx
            have n2 := this.2.1
            simp at n2
            exact ⟨this.1, by simp [n2], this.2.2⟩)))))
        refine append_1 F7 N7 (fun q hq => ?_) (by simp; have := Z.len; omega) fun h8 F8 N8 => ?_
        · simp only [List.mem_cons, List.mem_map] at hq
          rcases hq with rfl | rfl | rfl | rfl | ⟨x, hx, rfl⟩
          · exact nD z (by simp)
          · exact nD TO (by simp)
          · exact nD i1 (by simp)
          · exact nD J (by simp)
          · have n2 := (Nit x hx).2.1
            simp at n2
            simp [n2]
        have e1 : its.map Itm.val ++ [it.val] = (its ++ [it]).map Itm.val := by simp
        rw [e1] at N8
        have M8 : ∀ q, q ∈ _ → _ := fun q hq => (N8 q hq).1
        refine ⟨vs.length + 1 - (k + 1), by omega, k + 1, its ++ [it], rfl, by omega, by omega, ⟨⟨_, F8⟩, ⟨_, M8 _ (.head _)⟩, M8 _ (.tail _ (.head _)), F8.keep _ _ (kg.get _ _ hTIn hTI), ⟨_, _, M8 _ (.tail _ (.tail _ (.head _)))⟩, ?_, ⟨oJ5, M8 _ (.tail _ (.tail _ (.tail _ (.tail _ (.head _))))), hoJ6⟩,
          ⟨ol, F8.keep _ _ (kg.get _ _ hln hol), hol2⟩, by simp [Z.len], ?_, ?_, fun x hx => (Nit x hx).2, g7.trans Z.gens, o7.trans Z.os⟩, _, by simp, M8 _ (.head _)⟩
        · have r8 := M8 _ (.tail _ (.tail _ (.tail _ (.head _))))
          have ea : c0 + step * ((k + 1 : Nat) : Int) = c0 + step * k + step := by push_cast; rw [Int.mul_add]; omega
          have eb : left - ((k + 1 : Nat) : Int) = left - k - 1 := by push_cast; omega
          show IsRangeIter h8 i1 (c0 + step * ((k + 1 : Nat) : Int)) (left - ((k + 1 : Nat) : Int)) step
          rw [ea, eb]
          exact r8
        · intro j x hj
          have hx := List.mem_of_getElem? hj
          have ox := M8 (x.adr, x.obj) (.tail _ (.tail _ (.tail _ (.tail _ (.tail _ (List.mem_map.mpr ⟨x, hx, rfl⟩))))))
          by_cases hjk : j < its.length
          · rw [List.getElem?_append_left hjk] at hj
            exact ⟨(Z.ok j x hj).1, ox⟩
          · have hjl : j < (its ++ [it]).length := (List.getElem?_eq_some_iff.mp hj).1
            have ej : j = its.length := by simp at hjl; omega
            subst ej
            simp at hj
            subst hj
            rw [Z.len]
            exact ⟨hsp, ox⟩
        · rw [List.map_append, List.nodup_append]
          refine ⟨Z.nod, by simp, fun a ha b hb => ?_⟩
          obtain ⟨x, hx, rfl⟩ := List.mem_map.mp ha
          simp at hb
          rw [hb]
          exact (hits x hx).2
      · refine zipR_end2 hh D Z.zip Z.tin hTO' Z.rng (by omega) Z.it Z.isl (by simp; omega) fun h' tk hg' k' => ?_
        have kk' : ∀ b o, b ∉ [z, TO, i1, J] → s'.heap.get? b = some o → h'.get? b = some o := fun b o hb e => by
          simp at hb
          exact k' b o hb.1 hb.2.1 hb.2.2.1 hb.2.2.2 e
        refine ⟨⟨m, frK Fm kk' (fun q => absurd rfl (hds C q).2.1) gd⟩, Z.gens, Z.os, fun s3 k3 sb => ?_⟩
        have up : ∀ b o, b ∉ [z, TO, i1, J] → b ≠ C → s'.heap.get? b = some o → s3.heap.get? b = some o := fun b o hb hC e => (sb b hC).trans (kk' b o hb e)
        have hDn : Da ∉ [z, TO, i1, J] := fun q => absurd rfl (hds Da q).2.2
        obtain ⟨oJ3, hoJ3, hoJ4⟩ := Z.it
        have hJC : J ≠ C := (hds J (by simp)).2.1
        refine hQ Da its s3 k3 (up _ _ hDn hDC hDe) ?_ ?_ ?_ Z.nod ?_ ?_
        · cases q : s₂.heap.get? Da with
          | none => rfl
          | some o => exact absurd rfl (old _ _ q).2.2
        · rw [Z.len]; omega
        · exact Z.ok.keep fun it hi e => up _ _ (by have := (Z.new it hi).1; simp at this ⊢; simp [this]) (by have := (Z.new it hi).1; simp at this; simp [this]) e
        · intro x hx
          have nx := (Z.new x hx).1
          simp at nx
          refine ⟨by simp [nx], ?_⟩
          cases q : s₂.heap.get? x.adr with
          | none => rfl
          | some o =>
            have := kg.get _ _ (by simp [nx]) q
            rw [(Z.new x hx).2] at this
            cases this
        · have : vs.length < left.toNat := by omega
          rw [if_pos this]
          exact hg'.at fun o e => (sb J hJC).trans e
end
end
section
variable {lt : Nat → Nat → Bool}
theorem prec_irrefl (O : SWN lt) (a : Nat) : ¬ prec lt a a := by
  rintro (h | h)
  · have := O.asymm _ _ h; rw [h] at this; cases this
  · omega
theorem prec_asymm (O : SWN lt) {a b : Nat} (h : prec lt a b) : ¬ prec lt b a := fun h' => prec_irrefl O a (prec_trans O h h')
theorem prec_total (_ : SWN lt) {a b : Nat} (h : a ≠ b) : prec lt a b ∨ prec lt b a := by
  unfold prec
  cases h1 : lt a b <;> cases h2 : lt b a <;> simp
  omega
theorem take_unique' (O : SWN lt) : ∀ (q P : List Nat), P.Pairwise (prec lt) → q.Pairwise (prec lt) → (∀ a ∈ q, a ∈ P) → (∀ a ∈ q, ∀ b ∈ P, b ∉ q → prec lt a b) → q = P.take q.length
  | [], _, _, _, _, _ => rfl
  | a :: q, P, hP, hq, hin, htop => by
    obtain ⟨h1, h2⟩ := List.pairwise_cons.mp hq
    have hmin : ∀ b ∈ P, b ≠ a → prec lt a b := fun b hb hne => by
      by_cases hbq : b ∈ q
      · exact h1 b hbq
      · exact htop a (.head _) b hb (by simp [hne, hbq])
    cases P with
    | nil => exact absurd (hin a (.head _)) (by simp)
    | cons x P =>
      obtain ⟨h3, h4⟩ := List.pairwise_cons.mp hP
      have hx : x = a := by
        by_cases e : x = a
        · exact e
        · have ha : a ∈ P := by
            rcases List.mem_cons.mp (hin a (.head _)) with r | r
            · exact absurd r.symm e
            · exact r
          exact absurd (hmin x (.head _) e) (prec_asymm O (h3 a ha))
      subst hx
      have := take_unique' O q P h4 h2 (fun b hb => by
          rcases List.mem_cons.mp (hin b (.tail _ hb)) with r | r
          · subst r; exact absurd (h1 _ hb) (prec_irrefl O _)
          · exact r) (fun b hb c hc hcq => htop b (.tail _ hb) c (.tail _ hc) (by
          simp only [List.mem_cons, not_or]
          exact ⟨fun e => by subst e; exact prec_irrefl O _ (h3 _ hc), hcq⟩))
      rw [List.length_cons, List.take_succ_cons, ← this]
theorem take_unique (O : SWN lt) {N : Nat} {P q : List Nat} (hP : Stable lt N P) (hq : q.Pairwise (prec lt)) (hlt : ∀ a ∈ q, a < N) (htop : ∀ a ∈ q, ∀ b, b < N → b ∉ q → prec lt a b) : q = P.take q.length :=
  take_unique' O q P hP.sorted hq (fun a ha => hP.perm.mem_iff.mpr (by simpa using hlt a ha)) (fun a ha b hb hbq => htop a ha b (by simpa using hP.perm.mem_iff.mp hb) hbq)
theorem stable_len {N : Nat} {P : List Nat} (hP : Stable lt N P) : P.length = N := by have := hP.perm.length_eq; simpa using this
theorem stable_lt {N : Nat} {P : List Nat} (hP : Stable lt N P) {a : Nat} (ha : a ∈ P) : a < N := by simpa using hP.perm.mem_iff.mp ha
theorem stable_mem {N : Nat} {P : List Nat} (hP : Stable lt N P) {a : Nat} (ha : a < N) : a ∈ P := hP.perm.mem_iff.mpr (by simpa using ha)
theorem stable_unique (O : SWN lt) {N : Nat} {P q : List Nat} (hP : Stable lt N P) (hq : Stable lt N q) : q = P := by
  have h := take_unique O hP hq.sorted (fun a ha => stable_lt hq ha) (fun a _ b hb hbq => absurd (stable_mem hq hb) hbq)
  rw [stable_len hq, List.take_of_length_le (by rw [stable_len hP]; exact Nat.le_refl _)] at h
  exact h
theorem take_one (O : SWN lt) {N i : Nat} {P : List Nat} (hP : Stable lt N P) (hi : i < N) (h : ∀ j, j < N → j ≠ i → prec lt i j) : P.take 1 = [i] := by
  have := take_unique O hP (q := [i]) (List.pairwise_singleton _ _) (by simpa using hi) (fun a ha b hb hbq => by
    simp only [List.mem_singleton] at ha hbq
    subst ha
    exact h b hb hbq)
  exact this.symm
theorem stable_exists (O : SWN lt) (N : Nat) : ∃ P, Stable lt N P := by
  have key : ∀ l : List Nat, l.Nodup → ∃ P : List Nat, P.Perm l ∧ P.Pairwise (prec lt) := by
    intro l
    induction l with
    | nil => intro _; exact ⟨[], .refl _, .nil⟩
    | cons a l ih =>
      intro hnd
      obtain ⟨ha, hl⟩ := List.nodup_cons.mp hnd
      obtain ⟨P, h1, h2⟩ := ih hl
      have ins : ∀ Q : List Nat, a ∉ Q → Q.Pairwise (prec lt) → ∃ R : List Nat, R.Perm (a :: Q) ∧ R.Pairwise (prec lt) := by
        intro Q
        induction Q with
        | nil => intro _ _; exact ⟨[a], .refl _, List.pairwise_singleton _ _⟩
        | cons b Q ihQ =>
          intro hn hp
          obtain ⟨p1, p2⟩ := List.pairwise_cons.mp hp
          simp only [List.mem_cons, not_or] at hn
          rcases prec_total O hn.1 with h | h
          · refine ⟨a :: b :: Q, .refl _, List.pairwise_cons.mpr ⟨fun c hc => ?_, hp⟩⟩
            rcases List.mem_cons.mp hc with rfl | hc
            · exact h
            · exact prec_trans O h (p1 c hc)
          · obtain ⟨R, r1, r2⟩ := ihQ hn.2 p2
            refine ⟨b :: R, ?_, List.pairwise_cons.mpr ⟨fun c hc => ?_, r2⟩⟩
            · exact (List.Perm.cons b r1).trans (List.Perm.swap a b Q)
            · rcases List.mem_cons.mp (r1.mem_iff.mp hc) with rfl | hc
              · exact h
              · exact p1 c hc
      obtain ⟨R, r1, r2⟩ := ins P (fun h => ha (h1.mem_iff.mp h)) h2
      exact ⟨R, r1.trans (List.Perm.cons a h1), r2⟩
  obtain ⟨P, h1, h2⟩ := key (List.range N) List.nodup_range
  exact ⟨P, h1, h2⟩
/-- a sort in reverse, read backwards -/
theorem stable_rev {ks : List (List UInt8)} {p : List Nat} (hp : Stable (bLt ks.reverse) ks.length p) : Stable (fun i j => bLt ks j i) ks.length (p.map fun i => ks.length - 1 - i).reverse := by
  have hget : ∀ i, i < ks.length → ks.reverse.getD i [] = ks.getD (ks.length - 1 - i) [] := fun i hi => by
    rw [List.getD_eq_getElem?_getD, List.getD_eq_getElem?_getD, List.getElem?_reverse hi]
  refine ⟨?_, ?_⟩
  · refine (List.reverse_perm _).trans ((hp.perm.map _).trans ?_)
    have e : (List.range ks.length).map (fun i => ks.length - 1 - i) = (List.range ks.length).reverse := by
      refine List.ext_getElem (by simp) (fun i h1 h2 => ?_)
      simp [List.getElem_reverse]
    rw [e]
    exact List.reverse_perm _
  · rw [List.pairwise_reverse, List.pairwise_map]
    refine (List.Pairwise.and_mem.mp hp.sorted).imp ?_
    rintro a b ⟨ha, hb, h⟩
    have ha' := stable_lt hp ha
    have hb' := stable_lt hp hb
    rcases h with h | ⟨h1, h2⟩
    · left
      unfold bLt at h ⊢
      rw [hget a ha', hget b hb'] at h
      exact h
    · right
      refine ⟨?_, by omega⟩
      unfold bLt at h1 ⊢
      rw [hget a ha', hget b hb'] at h1
      exact h1
end
section
section
variable {prog : Program} {w : World} {A : Around} {E : Value → Shared → Prop} {s : Shared} {K : Frag} {p : Program} {loose : List Str} {mg mb : Str → Option Value}

/-- a call of a def of the text with cells -/
theorem enterC {h₀ : Heap} {Q : Value → Shared → Prop} {name qual : Str} {params : Arguments} {body : List Stmt} {scope : Scope} {dV kV doc pm cdv ct oc : Value} {an od : Option Addr} {osl : Array (Option Value)} {f : Addr} {pos : List Value} {kw : List (Str × Value)} {binds : List (Str × Value)}
    (ds : List Addr) (G : Gd K p loose mg mb h₀) (st : Keep [] h₀ s.heap) (hds : ∀ d ∈ ds, h₀.get? d = none)
    (ho : K.lookup f = some ⟨oc, od, .func (fnOf name qual params body scope dV kV doc pm an cdv ct), osl⟩) (hcd : codeIn K cdv qual = true) (hroom : A.depth < recursionLimit)
    (hbind : BindsTo s (fnOf name qual params body scope dV kV doc pm an cdv ct) ⟨pos, kw⟩ binds)
    (hkind : (binds.all fun y => scope.names.lookup y.1 == some .local || scope.names.lookup y.1 == some .cell) = true)
    (hnd : ((cellsFrom 0 scope.names []).map (·.1)).Nodup)
    (h : ∀ g L h₁ tk cells, Fr g L h₁ (bindL (envOfC qual scope L f cdv).kindOf binds fun _ => none) → News g L h₁ cells →
      CellsAre (bindC (envOfC qual scope L f cdv).kindOf binds fun _ => none) (cellsFrom (L + 1) scope.names []) cells → Keep ds s.heap g → Gd K p loose mg mb g →
      (∀ b o, s.heap.get? b = some o → h₁.get? b = some o ∧ b < L) → (∀ d ∈ ds, g.get? d = none) → Keep [] h₀ g →
      wpAny (model prog w) (A.deeper (envOfC qual scope L f cdv)) (execs body (envOfC qual scope L f cdv))
        (fun fl s' => (∃ m', Fr g L s'.heap m') ∧ (KeepS ds s s' → Q (match fl with | .ret v => v | _ => .none) s')
           ∧ s'.gens = s.gens ∧ s'.os = s.os) NoE
        { s with heap := h₁, toks := tk })
    (hco : scope.isCoroutine = false := by rfl) (hgen : scope.isGenerator = false := by rfl) (hk : scope.kind = .function := by rfl) :
    wpAny (model prog w) A (call (.ref f) pos kw) Q E s := by
  have X := G.X.keeps (fun b o e => st.get b o (by simp) e)
  refine wpAny_call (codeAny_call_function hroom (X _ _ ho) rfl hco hgen rfl (codeRec_of X hcd) (hbind _ _ _ _ ?_))
  refine wpAny_newFunctionEnv_cells hk (kindsX hkind _) fun env' he s' x => ?_
  subst he
  refine ⟨(G.T.nolimit.keeps (fun b o e => st.get b o (by simp) e)).keeps x.toInCall.keep, codeAny_func ?_⟩
  obtain ⟨h₁, tk, rfl, _⟩ := x.done
  have hk₁ := x.toInCall.keep
  obtain ⟨cells, NC, Y⟩ := Cl.news (h₀ := s.heap) (Nat.le_refl _) fun n c hm => ⟨x.cell n c (lookup_of_mem_nodup (cellsFrom_names scope.names 0 (s.heap.objs.size + 1) [] [] rfl ▸ hnd) hm), x.above n c hm⟩
  have nm : ∀ b o, h₀.get? b = some o → b ∉ ds := fun b o e q => by rw [hds b q] at e; cases e
  have stg : ∀ b o, h₀.get? b = some o → (hideAll s.heap ds).get? b = some o := fun b o e => hideAll_get _ (st.get b o (by simp) e) (nm b o e)
  refine wpAny_mono (h (hideAll s.heap ds) s.heap.objs.size h₁ tk cells ⟨x.toInCall.ns, fun b o e => hk₁ b o (of_hideAll _ e), Nat.le_of_eq (hideAll_size _ _)⟩
    (fun q hq => ⟨(NC q hq).1, (NC q hq).2.1, ?_⟩) Y
    ⟨fun b o hb e => hideAll_get _ e hb, Nat.le_of_eq (hideAll_size _ _).symm⟩ (G.keeps stg) (fun b o e => ⟨hk₁ b o e, Heap.lt_size e⟩)
    (fun d hd => hideAll_none _ hd) ⟨fun b o _ e => stg b o e, by rw [hideAll_size]; exact st.size⟩) (fun fl s' hl => ?_) fun _ _ y => y.elim
  · cases q' : (hideAll s.heap ds).get? q.1 with
    | none => rfl
    | some o => have := of_hideAll _ q'; rw [(NC q hq).2.2] at this; cases this
  · obtain ⟨⟨m', F'⟩, hq, hg, hos⟩ := hl
    refine hq ⟨⟨fun b o hb e => F'.keep b o (hideAll_get _ e hb), ?_⟩, hg, hos⟩
    obtain ⟨oL, _, _, hL, _⟩ := F'.ns
    exact Nat.le_of_lt (Heap.lt_size hL)
end
end
section
section
variable {prog : Program} {w : World} {A : Around} {E : Value → Shared → Prop} {s : Shared} {K : Frag} {p : Program} {loose : List Str} {mg mb : Str → Option Value}

theorem noLen_listiter : typeLookup (.type "list_iterator") (Str.ofString "__len__") = pure none := by kernel_rfl
theorem shown_listiter : shownName "list_iterator" = "list_iterator" := by decide +kernel

theorem len_iter {it : Addr} {Q : Value → Shared → Prop} (hh : A.handled = none) (hT : s.TypeIs (.ref it) "list_iterator")
    (hE : ∀ h' tk e, Heap.NewExc s.heap h' e "TypeError" → E (.ref e) { s with heap := h', toks := tk }) :
    wpAny (model prog w) A (call (.builtin "len") [.ref it]) Q E s := by
  refine call_function_entry kind_len plain_len entry_len (args_len1 _) ?_
  unfold Builtin.«len»
  refine wpAny_bind (wpAny_of_eq (a := Value.ref it) rfl ?_)
  refine wpAny_bind (wpAny_callSpecial?_none hT noLen_listiter ?_)
  refine wpAny_bind (wpAny_rule ?_)
  refine wpAny_bind (wpAny_typeNameOf' hT (by decide) ?_)
  rw [shown_listiter]
  exact raiseError_exc excClass_TypeError hh hE (by decide +kernel)

/-- the body raised a TypeError: the frames' objects change in their slots alone -/
theorem try_te {env lenv : Env} {body orelse : List Stmt} {pos ppos hpos : Pos} {t : Expr} {g : Heap} {L Lw : Addr} {ow : Obj} {es : Array DictEntry} {ep : Nat} {m : Str → Option Value} {Q : Flow → Shared → Prop}
    (hfr : A.frames = some [env, lenv]) (hf : env.frame = some L) (hfw : lenv.frame = some Lw) (hk : env.scope.kind = .function) (hkw : lenv.scope.kind = .function)
    (F : Fr g L s.heap m) (hw : s.heap.get? Lw = some ow) (hd : ow.data = .dict es ep) (hgw : g.get? Lw = none)
    (hb : wpAny (model prog w) A (execs body env) (fun _ _ => False) (fun e s₁ => ∃ h' tk a, e = .ref a ∧ s₁ = { s with heap := h', toks := tk } ∧ Heap.NewExc s.heap h' a "TypeError") s)
    (ht : ∀ A' E' Q' s', Fr g L s'.heap m → Q' (.ref s'.heap.objs.size) { s' with heap := s'.heap.push { cls := .type "tuple", dict := none, data := .seq [Value.type "TypeError", .type "AttributeError"].toArray } } → wpAny (model prog w) A' (eval t env) Q' E' s')
    (hQ : ∀ h' tk sl, (∀ b o, b ≠ L → b ≠ Lw → s.heap.get? b = some o → h'.get? b = some o) → Fr g L h' m → h'.get? Lw = some { ow with slots := sl } → Q .next { s with heap := h', toks := tk }) :
    wpAny (model prog w) A (exec (.Try body [.ExceptHandler (some t) none [.Pass ppos] hpos] orelse [] pos) env) Q NoE s := by
  refine wpAny_Try_except (wpAny_mono hb (fun _ _ h => h.elim) (fun e s₁ he => ?_))
  obtain ⟨h₁, tk, a, rfl, rfl, hx⟩ := he
  obtain ⟨oL, esL, epL, hL, hLd, hLk, hLf⟩ := F.ns
  obtain ⟨ob, tt, hea, hcls, hdat⟩ := hx.there
  have hgL : g.get? L = none := Heap.get?_none_of_le F.above
  have hLb : (hideAll s.heap [L, Lw]).get? L = none := hideAll_none _ (.head _)
  have hwb : (hideAll s.heap [L, Lw]).get? Lw = none := hideAll_none _ (.tail _ (.head _))
  have stb : ∀ b o, (hideAll s.heap [L, Lw]).get? b = some o → h₁.get? b = some o := fun b o e => hx.keeps b o (of_hideAll _ e)
  have hab : (hideAll s.heap [L, Lw]).get? a = none := by
    cases q : (hideAll s.heap [L, Lw]).get? a with
    | none => rfl
    | some o => have := of_hideAll _ q; rw [hx.new] at this; cases this
  have hff : h₁.FunFrames (hideAll s.heap [L, Lw]) [env, lenv] :=
    ⟨by rw [hk]; decide, ⟨L, oL, hf, hLb, hx.keeps _ _ hL, fun vs q => by rw [hLd] at q; cases q⟩, by rw [hkw]; decide, ⟨Lw, ow, hfw, hwb, hx.keeps _ _ hw, fun vs q => by rw [hd] at q; cases q⟩, trivial⟩
  have up1 : s.heap.UpToSlots h₁ := Heap.UpToSlots.of_keeps hx.keeps
  have stay : ∀ {h' : Heap}, (hideAll s.heap [L, Lw]).StaysIn h' → s.heap.UpToSlots h' → (∀ b o, b ≠ L → b ≠ Lw → s.heap.get? b = some o → h'.get? b = some o) ∧ Fr g L h' m ∧ ∃ sl, h'.get? Lw = some { ow with slots := sl } := by
    intro h' st up
    have k1 : ∀ b o, b ≠ L → b ≠ Lw → s.heap.get? b = some o → h'.get? b = some o := fun b o n1 n2 e => st b o (hideAll_get _ e (by simp [n1, n2]))
    refine ⟨k1, ⟨up.ns F.ns, fun b o e => k1 b o (fun q => by rw [q, hgL] at e; cases e) (fun q => by rw [q, hgw] at e; cases e) (F.keep b o e), F.above⟩, up _ _ hw (fun vs q => by rw [hd] at q; cases q)⟩
  unfold noteFrame
  simp only [hf]
  refine wpAny_bind (wpAny_field hea hdat (x := .none) rfl ?_)
  rw [if_neg (by decide)]
  refine wpAny_entryW (base := hideAll s.heap [L, Lw]) (a0 := tt) hfr hff hf hea stb hab hdat (by show 1 < 6; decide) rfl fun h₂ hN => ?_
  obtain ⟨k1, k2, k3, k4⟩ := hN
  refine wpAny_landsW (L := L) ⟨k1, hab, k2, k3⟩ fun h₃ hfl up3 => ?_
  have up3' : s.heap.UpToSlots h₃ := (up1.trans k4).trans up3
  obtain ⟨_, F3, _⟩ := stay hfl.1 up3'
  obtain ⟨o3, ho3, hc3⟩ := hfl.there
  refine wpAny_handleBy_tup2 (T1 := "TypeError") (T2 := "AttributeError") (X := "TypeError") (b1 := true) (b2 := false) (isSubtype_of_subB (by decide +kernel)) (isSubtype_of_subB (by decide +kernel)) (isSubtype_of_subB (by decide +kernel)) (isSubtype_of_subB (by decide +kernel)) (isSubtype_of_subB (by decide +kernel)) (isSubtype_of_subB (by decide +kernel)) ?_
  refine ht _ _ _ { s with heap := h₃, toks := tk } F3 ?_
  refine ⟨_, rfl, IsTup.new _ _, ⟨o3, Heap.get?_push_of_some _ ho3, hc3.trans hcls⟩, ?_⟩
  rw [if_pos (show (true || false) = true from rfl)]
  have hfl4 : Heap.FlyingW (hideAll s.heap [L, Lw]) [env, lenv] a ob.cls tt (h₃.push { cls := .type "tuple", dict := none, data := .seq [Value.type "TypeError", .type "AttributeError"].toArray }) := by
    obtain ⟨f1, f2, f3, oe, vs, T, oT, ts, x1, x2, x3, x4, x5, x6, x7, x8⟩ := hfl
    exact ⟨fun b o e => Heap.get?_push_of_some _ (f1 b o e), f2, f3.of_keeps (fun b o e _ => ⟨o, Heap.get?_push_of_some _ e, rfl⟩), oe, vs, T, oT, ts, Heap.get?_push_of_some _ x1, x2, x3, x4, x5, x6, Heap.get?_push_of_some _ x7, x8⟩
  refine lands_againW hfl4 fun h₅ hfl5 up5 => ?_
  have up5' : s.heap.UpToSlots h₅ := (up3'.trans (Heap.UpToSlots.of_keeps fun b o e => Heap.get?_push_of_some _ e)).trans up5
  obtain ⟨j1, F5, sl, j3⟩ := stay hfl5.1 up5'
  exact wpAny_execs_cons (wpAny_Pass (wpAny_execs_nil (hQ h₅ tk sl j1 F5 j3)))
end
end
section
local macro_rules | `(tactic| walk_at "lv") => `(tactic| first | (with_reducible assumption) | exact (if_pos rfl) | (refine (if_neg (by decide)).trans ?_; walk_at "lv"))
local macro_rules | `(tactic| walk_at "exec Assign") => `(tactic| (k_dflt (first | refine wpAny_Assign_Name ?_ | refine wpAny_Assign_Subscript ?_)))
local macro_rules | `(tactic| walk_at "execs cons") => `(tactic| (refine wpAny_execs_cons ?_))
local macro_rules | `(tactic| walk_at "exec Expr") => `(tactic| (k_dflt (refine wpAny_Expr_any ?_)))
local macro_rules | `(tactic| walk_at "eval Call") => `(tactic| (k_dflt (refine Call_ ?_)))
local macro_rules | `(tactic| walk_at "eval BinOp") => `(tactic| (refine wpAny_BinOp ?_))
local macro_rules | `(tactic| walk_at "spliced") => `(tactic| (k_dflt (first | refine spliced_more ?_ | refine spliced_none ?_)))
local macro_rules | `(tactic| walk_at "KeptAnd") => `(tactic| (k_dflt (refine ⟨Fr.keep (by assumption), ?_⟩)))
local macro_rules | `(tactic| walk_at "call builtin:len") => `(tactic| (k_dflt (refine len_nat (isList1 (by assumption)) (by omega) ?_; try dsimp only)))
local macro_rules | `(tactic| walk_at "binaryOp Mult int int") => `(tactic| (with_reducible (refine mul2 ?_ ?_); (focus omega); try dsimp only))
local macro_rules | `(tactic| walk_at "binaryOp Add int int") => `(tactic| (with_reducible (first | refine add1 ?_ | refine add65 ?_); try dsimp only))
local macro_rules | `(tactic| walk_at "binaryOp RShift int int") => `(tactic| (k_dflt (refine shr1 (by omega) ?_; try dsimp only)))
local macro_rules | `(tactic| walk_at "subscriptTail") => `(tactic| (k_dflt (refine item_nat (isList1 (by assumption)) (by omega) (by omega) ?_)))
local macro_rules | `(tactic| walk_at "setItem ref int") => `(tactic| (k_dflt (refine setItem_1 (by assumption) (by assumption) (by omega) (by omega) ?_; intro h' F' N'; try dsimp only)))
local macro_rules | `(tactic| walk_at "binaryOp FloorDiv int int") => `(tactic| (with_reducible (first | refine div16 ?_ | refine div2 ?_ | refine div4 ?_); try dsimp only))
local macro_rules | `(tactic| walk_at "binaryOp Mod int int") => `(tactic| (with_reducible (first | refine mod16 ?_ | refine mod2 ?_ | refine mod20 ?_); try dsimp only))
local macro_rules | `(tactic| walk_at "newList") => `(tactic| (k_dflt (refine newList_ (by assumption) (by assumption) (by simp) ?_; intro r' h' F' N' n'; try dsimp only)))
local macro_rules | `(tactic| walk_at "stop") => `(tactic| with_reducible (first | refine st_while ?_ | refine st_for ?_ | refine st_ref ?_ | refine st_range ?_ | refine st_reversed ?_))
local macro_rules | `(tactic| walk_at "runf") => `(tactic| repeat ((with_reducible (first | show wpAny _ _ _ _ _ _ | show KeptAnd _ _ _)); (fail_if_success walk_at "stop"); walk1))
local macro_rules | `(tactic| walk_at "run") => `(tactic| repeat ((with_reducible (first | show wpAny _ _ _ _ _ _ | show KeptAnd _ _ _)); (fail_if_success walk_at "stop"); (fail_if_success (with_reducible (first | refine st_if ?_ | refine st_getD ?_))); walk1))
local macro_rules | `(tactic| walk_at "ite1") => `(tactic| first | (refine ite_pos ?hcond ?_; (case hcond => first | rfl | (simp <;> omega))) | (refine ite_neg ?hcond ?_; (case hcond => (simp <;> omega))))
local macro_rules | `(tactic| walk_at "auto") => `(tactic| ((try walk_at "runf"); repeat (walk_at "ite1"; (try walk_at "runf"))))
local macro_rules | `(tactic| walk_at "gb") => `(tactic| with_reducible (first | exact bl_AttributeError _ | exact bl_TypeError _ | exact bl_abs _ | exact bl_bytes _ | exact bl_divmod _ | exact bl_int _ | exact bl_iter _ | exact bl_len _ | exact bl_max _ | exact bl_min _ | exact bl_object _ | exact bl_range _ | exact bl_reversed _ | exact bl_sorted _ | exact bl_zip _))
local macro_rules | `(tactic| walk_at "gk") => `(tactic| with_reducible (first | exact gl103 _ | exact gl110 _ | exact gl117 _ | exact gl124 _ | exact gl129 _ | exact gl21 _ | exact gl28 _ | exact gl35 _ | exact gl42 _ | exact gl49 _ | exact gl56 _ | exact gl63 _ | exact gl70 _ | exact gl76 _ | exact gl82 _ | exact gl89 _ | exact gl96 _))
local macro_rules | `(tactic| walk_at "kp") => `(tactic| with_reducible (first | exact kp103 _ | exact kp110 _ | exact kp117 _ | exact kp124 _ | exact kp129 _ | exact kp21 _ | exact kp28 _ | exact kp35 _ | exact kp42 _ | exact kp49 _ | exact kp56 _ | exact kp63 _ | exact kp70 _ | exact kp76 _ | exact kp82 _ | exact kp89 _ | exact kp96 _))
local macro_rules | `(tactic| walk_at "mem") => `(tactic| first | (with_reducible exact List.mem_cons_self) | (with_reducible (refine List.mem_cons_of_mem _ ?_); walk_at "mem") | (with_reducible assumption))
local macro_rules | `(tactic| walk_at "sub") => `(tactic| first | exact allNil | (refine allC (by walk_at "mem") ?_; walk_at "sub"))
local macro_rules | `(tactic| simp) => `(tactic| first | walk_at "mem" | (with_reducible exact noneIn) | (with_reducible exact allNil) | simp (failIfUnchanged := true))
section
local macro_rules | `(tactic| walk_at "loadName") => `(tactic| (k_dflt (refine ldn (by assumption) (by walk_at "lv") ?_)))
local macro_rules | `(tactic| walk_at "storeName") => `(tactic| (k_dflt (refine stN (by assumption) (by assumption) ?_; intro h' F' N'; (try dsimp only at F' N'); (try dsimp only))))
local macro_rules | `(tactic| walk_at "callWith ref") => `(tactic| (k_dflt (refine callWith_G (by assumption) (by walk_at "kp") ?_)))
local macro_rules | `(tactic| walk_at "eval Name") => `(tactic| (k_dflt (first | refine name_B (by assumption) (Gd.X (by assumption)) (Gd.T (by assumption)) (by walk_at "gb") (by boot_by_name) (by decide) ?_ | refine name_K (by assumption) (Gd.X (by assumption)) (Gd.T (by assumption)) (by walk_at "gk") ?_)))
local macro_rules | `(tactic| walk_at "eval Name") => `(tactic| (k_dflt (refine ld (by assumption) (by walk_at "lv") ?_)))
section
section
variable {prog : Program} {w : World} {A : Around} {E : Value → Shared → Prop} {s : Shared} {p : Program} {loose : List Str} {mg mb : Str → Option Value}

theorem sdMax_call {h₀ : Heap} {lt : Value → Value → Bool} {xs : List Value} {d : Addr} {e sp pos : Nat} {t1 t2 : Tok} {Q : Value → Shared → Prop}
    (G : Gd (hd.heap_1 w.params) p loose mg mb h₀) (C : CmpOk prog w h₀ lt xs) (st : Keep [] h₀ s.heap) (hd0 : h₀.get? d = none) (hl : s.heap.get? d = some (listOf xs.toArray e))
    (hsz : xs.length < 900) (hsp : sp ≤ pos) (hpos : pos < xs.length) (hroom : A.depth < recursionLimit) (hu : A.units + 50 < cLine)
    (hq : ∀ s', KeepS [d] s s' → s'.heap.get? d = some (listOf (sd lt xs sp pos).toArray e) → Q .none s') :
    wpAny (model prog w) A (call (.ref 63) [.ref d, .int sp t1, .int pos t2]) Q E s := by
  refine enterD (binds := [(Str.ofString "heap", Value.ref d), (Str.ofString "startpos", Value.int sp t1), (Str.ofString "pos", Value.int pos t2)]) [d] G st (by simpa using hd0) rfl rfl hroom (BindsTo.of_eq rfl) (locs rfl) ?_
  intro g L h₁ F kg Gg kh ng kb
  refine absQ fun R hR => ?_
  have N : News g L h₁ [(d, listOf xs.toArray e)] := news1 (kh _ _ hl).1 (kh _ _ hl).2 (ng d (by simp))
  have m1 : (fun y => List.lookup y ([(Str.ofString "heap", Value.ref d), (Str.ofString "startpos", Value.int sp t1), (Str.ofString "pos", Value.int pos t2)] : List (Str × Value)).reverse) (Str.ofString "heap") = some (Value.ref d) := rfl
  have m2 : (fun y => List.lookup y ([(Str.ofString "heap", Value.ref d), (Str.ofString "startpos", Value.int sp t1), (Str.ofString "pos", Value.int pos t2)] : List (Str × Value)).reverse) (Str.ofString "startpos") = some (Value.int sp t1) := rfl
  have m3 : (fun y => List.lookup y ([(Str.ofString "heap", Value.ref d), (Str.ofString "startpos", Value.int sp t1), (Str.ofString "pos", Value.int pos t2)] : List (Str × Value)).reverse) (Str.ofString "pos") = some (Value.int pos t2) := rfl
  revert F m1 m2 m3
  generalize (fun y => List.lookup y ([(Str.ofString "heap", Value.ref d), (Str.ofString "startpos", Value.int sp t1), (Str.ofString "pos", Value.int pos t2)] : List (Str × Value)).reverse) = m
  intro F m1 m2 m3
  walk_at "run"
  have hnm : xs.getD pos Value.none ∈ xs := by simp [hpos]
  generalize hnv : xs.getD pos Value.none = nv at *
  generalize hres : sdLoop lt nv sp (pos + 1) xs pos = res
  refine wpAny_mono (Q := fun f s' => f = .next ∧ ∃ m ys q tq, Fr g L s'.heap m ∧ News g L s'.heap [(d, listOf ys.toArray e)] ∧ m (Str.ofString "heap") = some (.ref d) ∧ m (Str.ofString "pos") = some (.int (q : Nat) tq) ∧ m (Str.ofString "newitem") = some nv
    ∧ ys.length = xs.length ∧ q < xs.length ∧ (ys, q) = res ∧ s'.gens = s.gens ∧ s'.os = s.os)
    (whileB (I := fun n s' => ∃ m ys q tq, Fr g L s'.heap m ∧ News g L s'.heap [(d, listOf ys.toArray e)] ∧ m (Str.ofString "heap") = some (.ref d) ∧ m (Str.ofString "startpos") = some (.int sp t1) ∧ m (Str.ofString "pos") = some (.int (q : Nat) tq) ∧ m (Str.ofString "newitem") = some nv
    ∧ ys.length = xs.length ∧ q < xs.length ∧ (∀ y ∈ ys, y ∈ xs) ∧ sdLoop lt nv sp n ys q = res ∧ q < n ∧ s'.gens = s.gens ∧ s'.os = s.os) (n₀ := pos + 1)
    ⟨_, xs, pos, t2, ‹_›, ‹_›, by walk_at "lv", by walk_at "lv", by walk_at "lv", by walk_at "lv", rfl, hpos, fun _ h => h, hres, by omega, rfl, rfl⟩ ?_) ?_ (fun _ _ h => h)
  rotate_left
  · intro f s1 hI
    refine keepGoal fun P k => ?_
    rcases hI with ⟨rfl, m, ys, q, tq, F1, N1, a1, a3, a4, hyl, hqx, hr, hg, hos⟩
    refine k ?_
    clear k P
    dsimp only
    walk_at "run"
    refine hR _ _ ⟨⟨_, ‹_›⟩, fun k => hq _ k ?_, hg, hos⟩
    have e1 : sd lt xs sp pos = ys.set q nv := by
      unfold sd; rw [hnv, hres, ← hr]
    rw [e1]; exact get1 ‹_›
  clear N F m1 m2 m3
  clear hR R
  intro T Z n hT hZ s1 hI
  refine keepGoal fun P k => ?_
  rcases hI with ⟨m, ys, q, tq, F1, N1, a1, a2, a3, a4, hyl, hqx, hmem, hsd, hqn, hg, hos⟩
  refine k ?_
  clear k P
  walk_at "run"
  by_cases hlt : sp < q
  · rw [if_pos (decide_eq_true (by omega))]
    obtain ⟨n', rfl⟩ : ∃ n', n = n' + 1 := ⟨n - 1, by omega⟩
    unfold sdLoop at hsd
    rw [if_pos hlt] at hsd
    have hpp : (q - 1) / 2 < ys.length := by omega
    walk_at "run"
    have hpm : ys.getD ((q - 1) / 2) Value.none ∈ xs := hmem _ (by simp [hpp])
    generalize ys.getD ((q - 1) / 2) Value.none = pv at *
    iterate 4 walk1
    refine C _ hpm _ hnm _ _ _ _ (by simp only [units_deeper]; omega) (fun b o e => (‹Fr g L _ _› : Fr g L _ _).keep b o (kb.get b o (by simp) e)) ?_
    walk1
    by_cases hc : lt pv nv = true
    · rw [if_pos hc] at hsd ⊢
      walk_at "run"
      exact hT _ _ ⟨n', by omega, ⟨_, _, _, _, ‹_›, ‹_›, by walk_at "lv", by walk_at "lv", by walk_at "lv", by walk_at "lv", by simpa using hyl, by omega, fun y hy => (List.mem_or_eq_of_mem_set hy).elim (hmem y) (fun e => e ▸ hpm), hsd, by omega, hg, hos⟩⟩
    · rw [if_neg hc] at hsd ⊢
      walk_at "run"
      exact hT _ _ ⟨rfl, _, _, _, _, ‹_›, ‹_›, by walk_at "lv", by walk_at "lv", by walk_at "lv", hyl, hqx, hsd, hg, hos⟩
  · rw [if_neg (by rw [decide_eq_true_eq]; omega)]
    obtain ⟨n', rfl⟩ : ∃ n', n = n' + 1 := ⟨n - 1, by omega⟩
    unfold sdLoop at hsd
    rw [if_neg hlt] at hsd
    exact hZ _ ⟨rfl, _, _, _, _, ‹_›, ‹_›, by walk_at "lv", by walk_at "lv", by walk_at "lv", hyl, hqx, hsd, hg, hos⟩

theorem suMax_call {h₀ : Heap} {lt : Value → Value → Bool} {xs : List Value} {d : Addr} {e pos : Nat} {t2 : Tok} {Q : Value → Shared → Prop}
    (G : Gd (hd.heap_1 w.params) p loose mg mb h₀) (C : CmpOk prog w h₀ lt xs) (st : Keep [] h₀ s.heap) (hd0 : h₀.get? d = none) (hl : s.heap.get? d = some (listOf xs.toArray e))
    (hsz : xs.length < 900) (hpos : pos < xs.length) (hroom : A.depth + 1 < recursionLimit) (hu : A.units + 100 < cLine)
    (hq : ∀ s', KeepS [d] s s' → s'.heap.get? d = some (listOf (su lt xs pos).toArray e) → Q .none s') :
    wpAny (model prog w) A (call (.ref 70) [.ref d, .int pos t2]) Q E s := by
  refine enterD (binds := [(Str.ofString "heap", Value.ref d), (Str.ofString "pos", Value.int pos t2)]) [d] G st (by simpa using hd0) rfl rfl (by omega) (BindsTo.of_eq rfl) (locs rfl) ?_
  intro g L h₁ F kg Gg kh ng kb
  refine absQ fun R hR => ?_
  have N : News g L h₁ [(d, listOf xs.toArray e)] := news1 (kh _ _ hl).1 (kh _ _ hl).2 (ng d (by simp))
  have m1 : (fun y => List.lookup y ([(Str.ofString "heap", Value.ref d), (Str.ofString "pos", Value.int pos t2)] : List (Str × Value)).reverse) (Str.ofString "heap") = some (Value.ref d) := rfl
  have m2 : (fun y => List.lookup y ([(Str.ofString "heap", Value.ref d), (Str.ofString "pos", Value.int pos t2)] : List (Str × Value)).reverse) (Str.ofString "pos") = some (Value.int pos t2) := rfl
  revert F m1 m2
  generalize (fun y => List.lookup y ([(Str.ofString "heap", Value.ref d), (Str.ofString "pos", Value.int pos t2)] : List (Str × Value)).reverse) = m
  intro F m1 m2
  walk_at "run"
  have hnm : xs.getD pos Value.none ∈ xs := by simp [hpos]
  generalize hnv : xs.getD pos Value.none = nv at *
  generalize hres : suLoop lt xs.length xs.length xs pos = res
  generalize hte : s.toks + [(Str.ofString "heap", Value.ref d), (Str.ofString "pos", Value.int pos t2)].length + 1 = te at *
  refine wpAny_mono (Q := fun f s' => f = .next ∧ ∃ m ys q tq, Fr g L s'.heap m ∧ News g L s'.heap [(d, listOf ys.toArray e)] ∧ m (Str.ofString "heap") = some (.ref d) ∧ m (Str.ofString "pos") = some (.int (q : Nat) tq) ∧ m (Str.ofString "newitem") = some nv ∧ m (Str.ofString "startpos") = some (.int pos t2)
    ∧ ys.length = xs.length ∧ q < xs.length ∧ pos ≤ q ∧ (∀ y ∈ ys, y ∈ xs) ∧ (ys, q) = res ∧ s'.gens = s.gens ∧ s'.os = s.os)
    (whileB (I := fun n s' => ∃ m ys q tq tc, Fr g L s'.heap m ∧ News g L s'.heap [(d, listOf ys.toArray e)] ∧ m (Str.ofString "heap") = some (.ref d) ∧ m (Str.ofString "startpos") = some (.int pos t2) ∧ m (Str.ofString "pos") = some (.int (q : Nat) tq) ∧ m (Str.ofString "newitem") = some nv
    ∧ m (Str.ofString "childpos") = some (.int (2 * q + 1 : Nat) tc) ∧ m (Str.ofString "endpos") = some (.int xs.length te)
    ∧ ys.length = xs.length ∧ q < xs.length ∧ pos ≤ q ∧ (∀ y ∈ ys, y ∈ xs) ∧ suLoop lt xs.length n ys q = res ∧ xs.length ≤ q + n ∧ s'.gens = s.gens ∧ s'.os = s.os) (n₀ := xs.length)
    ⟨_, xs, pos, t2, _, ‹_›, ‹_›, by walk_at "lv", by walk_at "lv", by walk_at "lv", by walk_at "lv", by walk_at "lv", by walk_at "lv", rfl, hpos, Nat.le_refl _, fun _ h => h, hres, by omega, rfl, rfl⟩ ?_) ?_ (fun _ _ h => h)
  rotate_left
  · intro f s1 hI
    refine keepGoal fun P k => ?_
    rcases hI with ⟨rfl, m, ys, q, tq, F1, N1, a1, a3, a4, a5, hyl, hqx, hpq, hmem, hr, hg, hos⟩
    refine k ?_
    clear k P
    dsimp only
    walk_at "run"
    refine sdMax_call (lt := lt) (xs := ys.set q nv) Gg (C.mono (fun b o e => kb.get b o (by simp) e) (fun v hv => (List.mem_or_eq_of_mem_set hv).elim (hmem v) (fun e => e ▸ hnm))) (keepFr (by assumption)) (ng d (by simp)) (get1 (by assumption)) (by simpa [hyl] using hsz) hpq (by simpa [hyl] using hqx) (by simp only [depth_deeper]; omega) (by simp only [units_deeper]; omega) ?_
    intro s2 k2 e2
    dsimp only
    walk_at "run"
    refine hR _ _ ⟨⟨_, frKeep ‹Fr g L _ _› k2.keep (by simpa using fun e => (N1 _ (.head _)).2.1 e.symm) ng⟩, fun k => hq _ k ?_, k2.gens.trans hg, k2.os.trans hos⟩
    have e1 : su lt xs pos = sd lt (ys.set q nv) pos q := by
      unfold su; rw [hnv, hres, ← hr]
    rw [e1]; exact e2
  clear N F m1 m2
  clear hR R
  intro T Z n hT hZ s1 hI
  refine keepGoal fun P k => ?_
  rcases hI with ⟨m, ys, q, tq, tc, F1, N1, a1, a2, a3, a4, a5, a6, hyl, hqx, hpq, hmem, hsd, hqn, hg, hos⟩
  refine k ?_
  clear k P
  walk_at "run"
  by_cases hlt : 2 * q + 1 < xs.length
  · rw [if_pos (decide_eq_true (by omega))]
    obtain ⟨n', rfl⟩ : ∃ n', n = n' + 1 := ⟨n - 1, by omega⟩
    unfold suLoop at hsd
    rw [if_pos hlt] at hsd
    walk_at "run"
    refine wpAny_mono (Q := fun f s' => f = .next ∧ ∃ m c tc, Fr g L s'.heap m ∧ News g L s'.heap [(d, listOf ys.toArray e)] ∧ m (Str.ofString "heap") = some (.ref d) ∧ m (Str.ofString "startpos") = some (.int pos t2) ∧ m (Str.ofString "pos") = some (.int (q : Nat) tq) ∧ m (Str.ofString "newitem") = some nv
      ∧ m (Str.ofString "childpos") = some (.int (c : Nat) tc) ∧ m (Str.ofString "endpos") = some (.int xs.length te) ∧ c < xs.length ∧ q < c ∧ suLoop lt xs.length n' (ys.set q (ys.getD c .none)) c = res ∧ s'.gens = s.gens ∧ s'.os = s.os) ?_ ?_ (fun _ _ h => h)
    · refine absQ fun R hR => ?_
      iterate 7 walk1
      by_cases hr : 2 * q + 1 + 1 < xs.length
      · rw [if_pos (decide_eq_true (by omega))]
        walk_at "run"
        refine C _ (hmem _ (by simp [hyl, hr])) _ (hmem _ (by simp [hyl, hlt])) _ _ _ _ (by simp only [units_deeper]; omega) (fun b o e => (‹Fr g L _ _› : Fr g L _ _).keep b o (kb.get b o (by simp) e)) ?_
        walk1
        by_cases hc : lt (ys.getD (2 * q + 1 + 1) Value.none) (ys.getD (2 * q + 1) Value.none) = true
        · rw [if_neg (fun h => h.2 hc)] at hsd
          simp only [hc, Bool.not_true, Bool.false_eq_true, if_false]
          walk_at "run"
          exact hR _ _ ⟨rfl, _, 2 * q + 1, _, ‹_›, ‹_›, by walk_at "lv", by walk_at "lv", by walk_at "lv", by walk_at "lv", by walk_at "lv", by walk_at "lv", hlt, by omega, hsd, hg, hos⟩
        · rw [if_pos ⟨hr, hc⟩] at hsd
          have hc' : lt (ys.getD (2 * q + 1 + 1) Value.none) (ys.getD (2 * q + 1) Value.none) = false := by simpa using hc
          simp only [hc', Bool.not_false, if_true]
          walk1
          rw [if_pos rfl]
          walk_at "run"
          exact hR _ _ ⟨rfl, _, 2 * q + 1 + 1, _, ‹_›, ‹_›, by walk_at "lv", by walk_at "lv", by walk_at "lv", by walk_at "lv", by walk_at "lv", by walk_at "lv", hr, by omega, hsd, hg, hos⟩
      · rw [if_neg (by rw [decide_eq_true_eq]; omega)]
        rw [if_neg (fun h => hr h.1)] at hsd
        simp only [Bool.false_eq_true, if_false]
        walk_at "run"
        exact hR _ _ ⟨rfl, _, 2 * q + 1, _, ‹_›, ‹_›, by walk_at "lv", by walk_at "lv", by walk_at "lv", by walk_at "lv", by walk_at "lv", by walk_at "lv", hlt, by omega, hsd, hg, hos⟩
    · clear hsd
      intro f s2 hI
      refine keepGoal fun P k => ?_
      rcases hI with ⟨rfl, m, c, tc, F2, N2, b1, b2, b3, b4, b5, b6, hcx, hqc, hsd, hg, hos⟩
      refine k ?_
      clear k P
      dsimp only
      walk_at "run"
      refine hT _ _ ⟨n', by omega, ?_⟩
      exact ⟨_, _, c, _, _, ‹_›, ‹_›, by walk_at "lv", by walk_at "lv", by walk_at "lv", by walk_at "lv", by walk_at "lv", by walk_at "lv", by simpa using hyl, hcx, by omega, fun y hy => (List.mem_or_eq_of_mem_set hy).elim (hmem y) (fun e => e ▸ hmem _ (by simp [hyl, hcx])), hsd, by omega, hg, hos⟩
  · rw [if_neg (by rw [decide_eq_true_eq]; omega)]
    obtain ⟨n', rfl⟩ : ∃ n', n = n' + 1 := ⟨n - 1, by omega⟩
    unfold suLoop at hsd
    rw [if_neg hlt] at hsd
    exact hZ _ ⟨rfl, _, _, _, _, ‹_›, ‹_›, by walk_at "lv", by walk_at "lv", by walk_at "lv", by walk_at "lv", hyl, hqx, hpq, hmem, hsd, hg, hos⟩

theorem repMax_call {h₀ : Heap} {lt : Value → Value → Bool} {xs : List Value} {d : Addr} {e : Nat} {iv : Value} {Q : Value → Shared → Prop}
    (G : Gd (hd.heap_1 w.params) p loose mg mb h₀) (C : CmpOk prog w h₀ lt (iv :: xs)) (st : Keep [] h₀ s.heap) (hd0 : h₀.get? d = none) (hl : s.heap.get? d = some (listOf xs.toArray e))
    (hsz : xs.length < 900) (hpos : 0 < xs.length) (hroom : A.depth + 2 < recursionLimit) (hu : A.units + 150 < cLine)
    (hq : ∀ s', KeepS [d] s s' → s'.heap.get? d = some (listOf (su lt (xs.set 0 iv) 0).toArray e) → Q (xs.getD 0 .none) s') :
    wpAny (model prog w) A (call (.ref 35) [.ref d, iv]) Q E s := by
  refine enterD (binds := [(Str.ofString "heap", Value.ref d), (Str.ofString "item", iv)]) [d] G st (by simpa using hd0) rfl rfl (by omega) (BindsTo.of_eq rfl) (locs rfl) ?_
  intro g L h₁ F kg Gg kh ng kb
  refine absQ fun R hR => ?_
  have N : News g L h₁ [(d, listOf xs.toArray e)] := news1 (kh _ _ hl).1 (kh _ _ hl).2 (ng d (by simp))
  have m1 : (fun y => List.lookup y ([(Str.ofString "heap", Value.ref d), (Str.ofString "item", iv)] : List (Str × Value)).reverse) (Str.ofString "heap") = some (Value.ref d) := rfl
  have m2 : (fun y => List.lookup y ([(Str.ofString "heap", Value.ref d), (Str.ofString "item", iv)] : List (Str × Value)).reverse) (Str.ofString "item") = some (iv) := rfl
  revert F m1 m2
  generalize (fun y => List.lookup y ([(Str.ofString "heap", Value.ref d), (Str.ofString "item", iv)] : List (Str × Value)).reverse) = m
  intro F m1 m2
  walk_at "run"
  refine suMax_call (lt := lt) (xs := xs.set 0 iv) (pos := 0) Gg (C.mono (fun b o e => kb.get b o (by simp) e) (fun v hv => (List.mem_or_eq_of_mem_set hv).elim (fun h => List.mem_cons_of_mem _ h) (fun e => e ▸ List.mem_cons_self))) (keepFr (by assumption)) (ng d (by simp)) (get1 (by assumption)) (by simpa using hsz) (by simpa using hpos) (by simp only [depth_deeper]; omega) (by simp only [units_deeper]; omega) ?_
  intro s2 k2 e2
  have F2 := frKeep ‹Fr g L _ _› k2.keep (by simpa using fun e => (N _ (.head _)).2.1 e.symm) ng
  dsimp only
  walk_at "run"
  refine hR _ _ ⟨⟨_, F2⟩, fun k => hq _ k e2, k2.gens, k2.os⟩

theorem sdMin_call {h₀ : Heap} {lt : Value → Value → Bool} {xs : List Value} {d : Addr} {e sp pos : Nat} {t1 t2 : Tok} {Q : Value → Shared → Prop}
    (G : Gd (hd.heap_1 w.params) p loose mg mb h₀) (C : CmpOk prog w h₀ lt xs) (st : Keep [] h₀ s.heap) (hd0 : h₀.get? d = none) (hl : s.heap.get? d = some (listOf xs.toArray e))
    (hsz : xs.length < 900) (hsp : sp ≤ pos) (hpos : pos < xs.length) (hroom : A.depth < recursionLimit) (hu : A.units + 50 < cLine)
    (hq : ∀ s', KeepS [d] s s' → s'.heap.get? d = some (listOf (sd (fun a b => lt b a) xs sp pos).toArray e) → Q .none s') :
    wpAny (model prog w) A (call (.ref 49) [.ref d, .int sp t1, .int pos t2]) Q E s := by
  refine enterD (binds := [(Str.ofString "heap", Value.ref d), (Str.ofString "startpos", Value.int sp t1), (Str.ofString "pos", Value.int pos t2)]) [d] G st (by simpa using hd0) rfl rfl hroom (BindsTo.of_eq rfl) (locs rfl) ?_
  intro g L h₁ F kg Gg kh ng kb
  refine absQ fun R hR => ?_
  have N : News g L h₁ [(d, listOf xs.toArray e)] := news1 (kh _ _ hl).1 (kh _ _ hl).2 (ng d (by simp))
  have m1 : (fun y => List.lookup y ([(Str.ofString "heap", Value.ref d), (Str.ofString "startpos", Value.int sp t1), (Str.ofString "pos", Value.int pos t2)] : List (Str × Value)).reverse) (Str.ofString "heap") = some (Value.ref d) := rfl
  have m2 : (fun y => List.lookup y ([(Str.ofString "heap", Value.ref d), (Str.ofString "startpos", Value.int sp t1), (Str.ofString "pos", Value.int pos t2)] : List (Str × Value)).reverse) (Str.ofString "startpos") = some (Value.int sp t1) := rfl
  have m3 : (fun y => List.lookup y ([(Str.ofString "heap", Value.ref d), (Str.ofString "startpos", Value.int sp t1), (Str.ofString "pos", Value.int pos t2)] : List (Str × Value)).reverse) (Str.ofString "pos") = some (Value.int pos t2) := rfl
  revert F m1 m2 m3
  generalize (fun y => List.lookup y ([(Str.ofString "heap", Value.ref d), (Str.ofString "startpos", Value.int sp t1), (Str.ofString "pos", Value.int pos t2)] : List (Str × Value)).reverse) = m
  intro F m1 m2 m3
  walk_at "run"
  have hnm : xs.getD pos Value.none ∈ xs := by simp [hpos]
  generalize hnv : xs.getD pos Value.none = nv at *
  generalize hres : sdLoop (fun a b => lt b a) nv sp (pos + 1) xs pos = res
  refine wpAny_mono (Q := fun f s' => f = .next ∧ ∃ m ys q tq, Fr g L s'.heap m ∧ News g L s'.heap [(d, listOf ys.toArray e)] ∧ m (Str.ofString "heap") = some (.ref d) ∧ m (Str.ofString "pos") = some (.int (q : Nat) tq) ∧ m (Str.ofString "newitem") = some nv
    ∧ ys.length = xs.length ∧ q < xs.length ∧ (ys, q) = res ∧ s'.gens = s.gens ∧ s'.os = s.os)
    (whileB (I := fun n s' => ∃ m ys q tq, Fr g L s'.heap m ∧ News g L s'.heap [(d, listOf ys.toArray e)] ∧ m (Str.ofString "heap") = some (.ref d) ∧ m (Str.ofString "startpos") = some (.int sp t1) ∧ m (Str.ofString "pos") = some (.int (q : Nat) tq) ∧ m (Str.ofString "newitem") = some nv
    ∧ ys.length = xs.length ∧ q < xs.length ∧ (∀ y ∈ ys, y ∈ xs) ∧ sdLoop (fun a b => lt b a) nv sp n ys q = res ∧ q < n ∧ s'.gens = s.gens ∧ s'.os = s.os) (n₀ := pos + 1)
    ⟨_, xs, pos, t2, ‹_›, ‹_›, by walk_at "lv", by walk_at "lv", by walk_at "lv", by walk_at "lv", rfl, hpos, fun _ h => h, hres, by omega, rfl, rfl⟩ ?_) ?_ (fun _ _ h => h)
  rotate_left
  · intro f s1 hI
    refine keepGoal fun P k => ?_
    rcases hI with ⟨rfl, m, ys, q, tq, F1, N1, a1, a3, a4, hyl, hqx, hr, hg, hos⟩
    refine k ?_
    clear k P
    dsimp only
    walk_at "run"
    refine hR _ _ ⟨⟨_, ‹_›⟩, fun k => hq _ k ?_, hg, hos⟩
    have e1 : sd (fun a b => lt b a) xs sp pos = ys.set q nv := by
      unfold sd; rw [hnv, hres, ← hr]
    rw [e1]; exact get1 ‹_›
  clear N F m1 m2 m3
  clear hR R
  intro T Z n hT hZ s1 hI
  refine keepGoal fun P k => ?_
  rcases hI with ⟨m, ys, q, tq, F1, N1, a1, a2, a3, a4, hyl, hqx, hmem, hsd, hqn, hg, hos⟩
  refine k ?_
  clear k P
  walk_at "run"
  by_cases hlt : sp < q
  · rw [if_pos (decide_eq_true (by omega))]
    obtain ⟨n', rfl⟩ : ∃ n', n = n' + 1 := ⟨n - 1, by omega⟩
    unfold sdLoop at hsd
    rw [if_pos hlt] at hsd
    have hpp : (q - 1) / 2 < ys.length := by omega
    walk_at "run"
    have hpm : ys.getD ((q - 1) / 2) Value.none ∈ xs := hmem _ (by simp [hpp])
    generalize ys.getD ((q - 1) / 2) Value.none = pv at *
    iterate 4 walk1
    refine C _ hnm _ hpm _ _ _ _ (by simp only [units_deeper]; omega) (fun b o e => (‹Fr g L _ _› : Fr g L _ _).keep b o (kb.get b o (by simp) e)) ?_
    walk1
    by_cases hc : lt nv pv = true
    · rw [if_pos hc] at hsd ⊢
      walk_at "run"
      exact hT _ _ ⟨n', by omega, ⟨_, _, _, _, ‹_›, ‹_›, by walk_at "lv", by walk_at "lv", by walk_at "lv", by walk_at "lv", by simpa using hyl, by omega, fun y hy => (List.mem_or_eq_of_mem_set hy).elim (hmem y) (fun e => e ▸ hpm), hsd, by omega, hg, hos⟩⟩
    · rw [if_neg hc] at hsd ⊢
      walk_at "run"
      exact hT _ _ ⟨rfl, _, _, _, _, ‹_›, ‹_›, by walk_at "lv", by walk_at "lv", by walk_at "lv", hyl, hqx, hsd, hg, hos⟩
  · rw [if_neg (by rw [decide_eq_true_eq]; omega)]
    obtain ⟨n', rfl⟩ : ∃ n', n = n' + 1 := ⟨n - 1, by omega⟩
    unfold sdLoop at hsd
    rw [if_neg hlt] at hsd
    exact hZ _ ⟨rfl, _, _, _, _, ‹_›, ‹_›, by walk_at "lv", by walk_at "lv", by walk_at "lv", hyl, hqx, hsd, hg, hos⟩

theorem suMin_call {h₀ : Heap} {lt : Value → Value → Bool} {xs : List Value} {d : Addr} {e pos : Nat} {t2 : Tok} {Q : Value → Shared → Prop}
    (G : Gd (hd.heap_1 w.params) p loose mg mb h₀) (C : CmpOk prog w h₀ lt xs) (st : Keep [] h₀ s.heap) (hd0 : h₀.get? d = none) (hl : s.heap.get? d = some (listOf xs.toArray e))
    (hsz : xs.length < 900) (hpos : pos < xs.length) (hroom : A.depth + 1 < recursionLimit) (hu : A.units + 100 < cLine)
    (hq : ∀ s', KeepS [d] s s' → s'.heap.get? d = some (listOf (su (fun a b => lt b a) xs pos).toArray e) → Q .none s') :
    wpAny (model prog w) A (call (.ref 56) [.ref d, .int pos t2]) Q E s := by
  refine enterD (binds := [(Str.ofString "heap", Value.ref d), (Str.ofString "pos", Value.int pos t2)]) [d] G st (by simpa using hd0) rfl rfl (by omega) (BindsTo.of_eq rfl) (locs rfl) ?_
  intro g L h₁ F kg Gg kh ng kb
  refine absQ fun R hR => ?_
  have N : News g L h₁ [(d, listOf xs.toArray e)] := news1 (kh _ _ hl).1 (kh _ _ hl).2 (ng d (by simp))
  have m1 : (fun y => List.lookup y ([(Str.ofString "heap", Value.ref d), (Str.ofString "pos", Value.int pos t2)] : List (Str × Value)).reverse) (Str.ofString "heap") = some (Value.ref d) := rfl
  have m2 : (fun y => List.lookup y ([(Str.ofString "heap", Value.ref d), (Str.ofString "pos", Value.int pos t2)] : List (Str × Value)).reverse) (Str.ofString "pos") = some (Value.int pos t2) := rfl
  revert F m1 m2
  generalize (fun y => List.lookup y ([(Str.ofString "heap", Value.ref d), (Str.ofString "pos", Value.int pos t2)] : List (Str × Value)).reverse) = m
  intro F m1 m2
  walk_at "run"
  have hnm : xs.getD pos Value.none ∈ xs := by simp [hpos]
  generalize hnv : xs.getD pos Value.none = nv at *
  generalize hres : suLoop (fun a b => lt b a) xs.length xs.length xs pos = res
  generalize hte : s.toks + [(Str.ofString "heap", Value.ref d), (Str.ofString "pos", Value.int pos t2)].length + 1 = te at *
  refine wpAny_mono (Q := fun f s' => f = .next ∧ ∃ m ys q tq, Fr g L s'.heap m ∧ News g L s'.heap [(d, listOf ys.toArray e)] ∧ m (Str.ofString "heap") = some (.ref d) ∧ m (Str.ofString "pos") = some (.int (q : Nat) tq) ∧ m (Str.ofString "newitem") = some nv ∧ m (Str.ofString "startpos") = some (.int pos t2)
    ∧ ys.length = xs.length ∧ q < xs.length ∧ pos ≤ q ∧ (∀ y ∈ ys, y ∈ xs) ∧ (ys, q) = res ∧ s'.gens = s.gens ∧ s'.os = s.os)
    (whileB (I := fun n s' => ∃ m ys q tq tc, Fr g L s'.heap m ∧ News g L s'.heap [(d, listOf ys.toArray e)] ∧ m (Str.ofString "heap") = some (.ref d) ∧ m (Str.ofString "startpos") = some (.int pos t2) ∧ m (Str.ofString "pos") = some (.int (q : Nat) tq) ∧ m (Str.ofString "newitem") = some nv
    ∧ m (Str.ofString "childpos") = some (.int (2 * q + 1 : Nat) tc) ∧ m (Str.ofString "endpos") = some (.int xs.length te)
    ∧ ys.length = xs.length ∧ q < xs.length ∧ pos ≤ q ∧ (∀ y ∈ ys, y ∈ xs) ∧ suLoop (fun a b => lt b a) xs.length n ys q = res ∧ xs.length ≤ q + n ∧ s'.gens = s.gens ∧ s'.os = s.os) (n₀ := xs.length)
    ⟨_, xs, pos, t2, _, ‹_›, ‹_›, by walk_at "lv", by walk_at "lv", by walk_at "lv", by walk_at "lv", by walk_at "lv", by walk_at "lv", rfl, hpos, Nat.le_refl _, fun _ h => h, hres, by omega, rfl, rfl⟩ ?_) ?_ (fun _ _ h => h)
  rotate_left
  · intro f s1 hI
    refine keepGoal fun P k => ?_
    rcases hI with ⟨rfl, m, ys, q, tq, F1, N1, a1, a3, a4, a5, hyl, hqx, hpq, hmem, hr, hg, hos⟩
    refine k ?_
    clear k P
    dsimp only
    walk_at "run"
    refine sdMin_call (lt := lt) (xs := ys.set q nv) Gg (C.mono (fun b o e => kb.get b o (by simp) e) (fun v hv => (List.mem_or_eq_of_mem_set hv).elim (hmem v) (fun e => e ▸ hnm))) (keepFr (by assumption)) (ng d (by simp)) (get1 (by assumption)) (by simpa [hyl] using hsz) hpq (by simpa [hyl] using hqx) (by simp only [depth_deeper]; omega) (by simp only [units_deeper]; omega) ?_
    intro s2 k2 e2
    dsimp only
    walk_at "run"
    refine hR _ _ ⟨⟨_, frKeep ‹Fr g L _ _› k2.keep (by simpa using fun e => (N1 _ (.head _)).2.1 e.symm) ng⟩, fun k => hq _ k ?_, k2.gens.trans hg, k2.os.trans hos⟩
    have e1 : su (fun a b => lt b a) xs pos = sd (fun a b => lt b a) (ys.set q nv) pos q := by
      unfold su; rw [hnv, hres, ← hr]
    rw [e1]; exact e2
  clear N F m1 m2
  clear hR R
  intro T Z n hT hZ s1 hI
  refine keepGoal fun P k => ?_
  rcases hI with ⟨m, ys, q, tq, tc, F1, N1, a1, a2, a3, a4, a5, a6, hyl, hqx, hpq, hmem, hsd, hqn, hg, hos⟩
  refine k ?_
  clear k P
  walk_at "run"
  by_cases hlt : 2 * q + 1 < xs.length
  · rw [if_pos (decide_eq_true (by omega))]
    obtain ⟨n', rfl⟩ : ∃ n', n = n' + 1 := ⟨n - 1, by omega⟩
    unfold suLoop at hsd
    rw [if_pos hlt] at hsd
    walk_at "run"
    refine wpAny_mono (Q := fun f s' => f = .next ∧ ∃ m c tc, Fr g L s'.heap m ∧ News g L s'.heap [(d, listOf ys.toArray e)] ∧ m (Str.ofString "heap") = some (.ref d) ∧ m (Str.ofString "startpos") = some (.int pos t2) ∧ m (Str.ofString "pos") = some (.int (q : Nat) tq) ∧ m (Str.ofString "newitem") = some nv
      ∧ m (Str.ofString "childpos") = some (.int (c : Nat) tc) ∧ m (Str.ofString "endpos") = some (.int xs.length te) ∧ c < xs.length ∧ q < c ∧ suLoop (fun a b => lt b a) xs.length n' (ys.set q (ys.getD c .none)) c = res ∧ s'.gens = s.gens ∧ s'.os = s.os) ?_ ?_ (fun _ _ h => h)
    · refine absQ fun R hR => ?_
      iterate 7 walk1
      by_cases hr : 2 * q + 1 + 1 < xs.length
      · rw [if_pos (decide_eq_true (by omega))]
        walk_at "run"
        refine C _ (hmem _ (by simp [hyl, hlt])) _ (hmem _ (by simp [hyl, hr])) _ _ _ _ (by simp only [units_deeper]; omega) (fun b o e => (‹Fr g L _ _› : Fr g L _ _).keep b o (kb.get b o (by simp) e)) ?_
        walk1
        by_cases hc : lt (ys.getD (2 * q + 1) Value.none) (ys.getD (2 * q + 1 + 1) Value.none) = true
        · rw [if_neg (fun h => h.2 hc)] at hsd
          simp only [hc, Bool.not_true, Bool.false_eq_true, if_false]
          walk_at "run"
          exact hR _ _ ⟨rfl, _, 2 * q + 1, _, ‹_›, ‹_›, by walk_at "lv", by walk_at "lv", by walk_at "lv", by walk_at "lv", by walk_at "lv", by walk_at "lv", hlt, by omega, hsd, hg, hos⟩
        · rw [if_pos ⟨hr, hc⟩] at hsd
          have hc' : lt (ys.getD (2 * q + 1) Value.none) (ys.getD (2 * q + 1 + 1) Value.none) = false := by simpa using hc
          simp only [hc', Bool.not_false, if_true]
          walk1
          rw [if_pos rfl]
          walk_at "run"
          exact hR _ _ ⟨rfl, _, 2 * q + 1 + 1, _, ‹_›, ‹_›, by walk_at "lv", by walk_at "lv", by walk_at "lv", by walk_at "lv", by walk_at "lv", by walk_at "lv", hr, by omega, hsd, hg, hos⟩
      · rw [if_neg (by rw [decide_eq_true_eq]; omega)]
        rw [if_neg (fun h => hr h.1)] at hsd
        simp only [Bool.false_eq_true, if_false]
        walk_at "run"
        exact hR _ _ ⟨rfl, _, 2 * q + 1, _, ‹_›, ‹_›, by walk_at "lv", by walk_at "lv", by walk_at "lv", by walk_at "lv", by walk_at "lv", by walk_at "lv", hlt, by omega, hsd, hg, hos⟩
    · clear hsd
      intro f s2 hI
      refine keepGoal fun P k => ?_
      rcases hI with ⟨rfl, m, c, tc, F2, N2, b1, b2, b3, b4, b5, b6, hcx, hqc, hsd, hg, hos⟩
      refine k ?_
      clear k P
      dsimp only
      walk_at "run"
      refine hT _ _ ⟨n', by omega, ?_⟩
      exact ⟨_, _, c, _, _, ‹_›, ‹_›, by walk_at "lv", by walk_at "lv", by walk_at "lv", by walk_at "lv", by walk_at "lv", by walk_at "lv", by simpa using hyl, hcx, by omega, fun y hy => (List.mem_or_eq_of_mem_set hy).elim (hmem y) (fun e => e ▸ hmem _ (by simp [hyl, hcx])), hsd, by omega, hg, hos⟩
  · rw [if_neg (by rw [decide_eq_true_eq]; omega)]
    obtain ⟨n', rfl⟩ : ∃ n', n = n' + 1 := ⟨n - 1, by omega⟩
    unfold suLoop at hsd
    rw [if_neg hlt] at hsd
    exact hZ _ ⟨rfl, _, _, _, _, ‹_›, ‹_›, by walk_at "lv", by walk_at "lv", by walk_at "lv", by walk_at "lv", hyl, hqx, hpq, hmem, hsd, hg, hos⟩

theorem repMin_call {h₀ : Heap} {lt : Value → Value → Bool} {xs : List Value} {d : Addr} {e : Nat} {iv : Value} {Q : Value → Shared → Prop}
    (G : Gd (hd.heap_1 w.params) p loose mg mb h₀) (C : CmpOk prog w h₀ lt (iv :: xs)) (st : Keep [] h₀ s.heap) (hd0 : h₀.get? d = none) (hl : s.heap.get? d = some (listOf xs.toArray e))
    (hsz : xs.length < 900) (hpos : 0 < xs.length) (hroom : A.depth + 2 < recursionLimit) (hu : A.units + 150 < cLine)
    (hq : ∀ s', KeepS [d] s s' → s'.heap.get? d = some (listOf (su (fun a b => lt b a) (xs.set 0 iv) 0).toArray e) → Q (xs.getD 0 .none) s') :
    wpAny (model prog w) A (call (.ref 21) [.ref d, iv]) Q E s := by
  refine enterD (binds := [(Str.ofString "heap", Value.ref d), (Str.ofString "item", iv)]) [d] G st (by simpa using hd0) rfl rfl (by omega) (BindsTo.of_eq rfl) (locs rfl) ?_
  intro g L h₁ F kg Gg kh ng kb
  refine absQ fun R hR => ?_
  have N : News g L h₁ [(d, listOf xs.toArray e)] := news1 (kh _ _ hl).1 (kh _ _ hl).2 (ng d (by simp))
  have m1 : (fun y => List.lookup y ([(Str.ofString "heap", Value.ref d), (Str.ofString "item", iv)] : List (Str × Value)).reverse) (Str.ofString "heap") = some (Value.ref d) := rfl
  have m2 : (fun y => List.lookup y ([(Str.ofString "heap", Value.ref d), (Str.ofString "item", iv)] : List (Str × Value)).reverse) (Str.ofString "item") = some (iv) := rfl
  revert F m1 m2
  generalize (fun y => List.lookup y ([(Str.ofString "heap", Value.ref d), (Str.ofString "item", iv)] : List (Str × Value)).reverse) = m
  intro F m1 m2
  walk_at "run"
  refine suMin_call (lt := lt) (xs := xs.set 0 iv) (pos := 0) Gg (C.mono (fun b o e => kb.get b o (by simp) e) (fun v hv => (List.mem_or_eq_of_mem_set hv).elim (fun h => List.mem_cons_of_mem _ h) (fun e => e ▸ List.mem_cons_self))) (keepFr (by assumption)) (ng d (by simp)) (get1 (by assumption)) (by simpa using hsz) (by simpa using hpos) (by simp only [depth_deeper]; omega) (by simp only [units_deeper]; omega) ?_
  intro s2 k2 e2
  have F2 := frKeep ‹Fr g L _ _› k2.keep (by simpa using fun e => (N _ (.head _)).2.1 e.symm) ng
  dsimp only
  walk_at "run"
  refine hR _ _ ⟨⟨_, F2⟩, fun k => hq _ k e2, k2.gens, k2.os⟩
end
end
section
local macro_rules | `(tactic| walk_at "binaryOp FloorDiv int int") => `(tactic| (k_dflt (refine div_nat (b := 2) (by omega) (by omega) ?_; try dsimp only)))
section
variable {prog : Program} {w : World} {A : Around} {E : Value → Shared → Prop} {s : Shared} {p : Program} {loose : List Str} {mg mb : Str → Option Value}

theorem hpMax_call {h₀ : Heap} {lt : Value → Value → Bool} {xs : List Value} {d : Addr} {e : Nat} {Q : Value → Shared → Prop}
    (O : SWO lt) (G : Gd (hd.heap_1 w.params) p loose mg mb h₀) (C : CmpOk prog w h₀ lt xs) (st : Keep [] h₀ s.heap) (hd0 : h₀.get? d = none) (hl : s.heap.get? d = some (listOf xs.toArray e))
    (hsz : xs.length < 900) (hroom : A.depth + 2 < recursionLimit) (hu : A.units + 150 < cLine) (hh : A.handled = none)
    (hq : ∀ s', KeepS [d] s s' → s'.heap.get? d = some (listOf (heapify lt xs).toArray e) → Q .none s') :
    wpAny (model prog w) A (call (.ref 42) [.ref d]) Q E s := by
  refine enterD (binds := [(Str.ofString "x", Value.ref d)]) [d] G st (by simpa using hd0) rfl rfl (by omega) (BindsTo.of_eq rfl) (locs rfl) ?_
  intro g L h₁ F kg Gg kh ng kb
  refine absQ fun R hR => ?_
  have N : News g L h₁ [(d, listOf xs.toArray e)] := news1 (kh _ _ hl).1 (kh _ _ hl).2 (ng d (by simp))
  have m1 : (fun y => List.lookup y ([(Str.ofString "x", Value.ref d)] : List (Str × Value)).reverse) (Str.ofString "x") = some (Value.ref d) := rfl
  revert F m1
  generalize (fun y => List.lookup y ([(Str.ofString "x", Value.ref d)] : List (Str × Value)).reverse) = m
  intro F m1
  walk_at "run"
  refine for_ ?_
  walk_at "run"
  refine range1_ ‹_› ‹_› ?_
  intro r h2 tk ta tb F2 N2 hr
  walk1
  refine reversed_ F2 N2 (by omega) ?_
  intro it h3 F3 N3 hi
  dsimp only
  have hid : it ≠ d := fun q => hi _ (.head _) q.symm
  have hiL : it ≠ L := (N3 _ (.head _)).2.1
  have hig : g.get? it = none := (N3 _ (.head _)).2.2
  refine wpAny_pyIter_rangeiter (N3 _ (.head _)).1 ?_
  refine forB (I := fun n s' => ∃ m ys j, n = j + 1 ∧ Fr g L s'.heap m ∧ News g L s'.heap [(it, rangeIt ((j : Nat) - 1 : Int) j (-1)), (d, listOf ys.toArray e)] ∧ m (Str.ofString "x") = some (.ref d)
    ∧ ys.length = xs.length ∧ (∀ y ∈ ys, y ∈ xs) ∧ j ≤ xs.length / 2 ∧ hpf lt j ys = heapify lt xs ∧ s'.gens = s.gens ∧ s'.os = s.os) (n₀ := xs.length / 2 + 1)
    ⟨_, xs, xs.length / 2, rfl, F3, N3, by walk_at "lv", rfl, fun _ h => h, Nat.le_refl _, rfl, rfl, rfl⟩ ?_
  intro T Z n hT hZ s1 kgI
  (refine keepGoal fun kgP kgk => ?_; rcases kgI with ⟨m, ys, j, rfl, F1, N1, a1, hyl, hmem, hj, hpe, hg, hos⟩; refine kgk ?_; clear kgk kgP)
  have NI : IsRangeIter s1.heap it _ _ _ := (N1 _ (.head _)).1
  cases j with
  | zero =>
    refine wpAny_pyNext_range_end hh NI (by omega) (fun h' he => ?_)
    dsimp only
    refine hZ _ ?_
    dsimp only
    walk_at "run"
    refine hR _ _ ⟨⟨_, frExt F1 he hiL hig⟩, fun k => hq _ k ?_, hg, hos⟩
    rw [← hpe]
    exact he _ _ (Ne.symm hid) (N1 _ (.tail _ (.head _))).1
  | succ j =>
    refine wpAny_pyNext_range_item NI (by omega) (fun h' hit hs => ?_)
    dsimp only
    have F4 := F1.change hs hiL hig
    have N4 : News g L h' [(d, listOf ys.toArray e)] := newsSet (newsSub N1 (fun q hq => .tail _ hq)) hs (by simpa using Ne.symm hid)
    have N5 : News g L h' [(it, rangeIt ((j : Nat) - 1 : Int) j (-1)), (d, listOf ys.toArray e)] := by
      refine newsCons ?_ hiL hig N4
      have e1 : ((j + 1 : Nat) : Int) - 1 + -1 = (j : Nat) - 1 := by omega
      have e2 : ((j + 1 : Nat) : Int) - 1 = (j : Nat) := by omega
      rw [e1, e2] at hit
      exact hit
    have e2 : ((j + 1 : Nat) : Int) - 1 = (j : Nat) := by omega
    rw [e2]
    clear NI N1 F1 N4
    refine wpAny_assign_Name ?_
    walk_at "run"
    rename_i h6 F6 N6
    refine suMax_call (lt := lt) (xs := ys) (pos := j) Gg (C.mono (fun b o e => kb.get b o (by simp) e) hmem) (keepFr (by assumption)) (ng d (by simp)) (N6 _ (.tail _ (.head _))).1 (by omega) (by omega) (by simp only [depth_deeper]; omega) (by simp only [units_deeper]; omega) ?_
    intro s2 k2 e2
    have F7 := frKeep F6 k2.keep (by simpa using fun q => (N6 _ (.tail _ (.head _))).2.1 q.symm) ng
    have N7 : News g L s2.heap [(it, rangeIt ((j : Nat) - 1 : Int) j (-1)), (d, listOf (su lt ys j).toArray e)] :=
      newsCons (k2.keep.get _ _ (by simpa using hid) (N6 _ (.head _)).1) hiL hig (news1 e2 (N6 _ (.tail _ (.head _))).2.1 (ng d (by simp)))
    dsimp only
    walk_at "run"
    exact hT _ _ ⟨j + 1, by omega, _, su lt ys j, j, rfl, F7, N7, by walk_at "lv", (su_length O (by omega)).trans hyl, fun y hy => hmem y ((su_mem O (by omega) y).mp hy), by omega, hpe, k2.gens.trans hg, k2.os.trans hos⟩

theorem hpMin_call {h₀ : Heap} {lt : Value → Value → Bool} {xs : List Value} {d : Addr} {e : Nat} {Q : Value → Shared → Prop}
    (O : SWO lt) (G : Gd (hd.heap_1 w.params) p loose mg mb h₀) (C : CmpOk prog w h₀ lt xs) (st : Keep [] h₀ s.heap) (hd0 : h₀.get? d = none) (hl : s.heap.get? d = some (listOf xs.toArray e))
    (hsz : xs.length < 900) (hroom : A.depth + 2 < recursionLimit) (hu : A.units + 150 < cLine) (hh : A.handled = none)
    (hq : ∀ s', KeepS [d] s s' → s'.heap.get? d = some (listOf (heapify (fun a b => lt b a) xs).toArray e) → Q .none s') :
    wpAny (model prog w) A (call (.ref 28) [.ref d]) Q E s := by
  refine enterD (binds := [(Str.ofString "x", Value.ref d)]) [d] G st (by simpa using hd0) rfl rfl (by omega) (BindsTo.of_eq rfl) (locs rfl) ?_
  intro g L h₁ F kg Gg kh ng kb
  refine absQ fun R hR => ?_
  have N : News g L h₁ [(d, listOf xs.toArray e)] := news1 (kh _ _ hl).1 (kh _ _ hl).2 (ng d (by simp))
  have m1 : (fun y => List.lookup y ([(Str.ofString "x", Value.ref d)] : List (Str × Value)).reverse) (Str.ofString "x") = some (Value.ref d) := rfl
  revert F m1
  generalize (fun y => List.lookup y ([(Str.ofString "x", Value.ref d)] : List (Str × Value)).reverse) = m
  intro F m1
  walk_at "run"
  refine for_ ?_
  walk_at "run"
  refine range1_ ‹_› ‹_› ?_
  intro r h2 tk ta tb F2 N2 hr
  walk1
  refine reversed_ F2 N2 (by omega) ?_
  intro it h3 F3 N3 hi
  dsimp only
  have hid : it ≠ d := fun q => hi _ (.head _) q.symm
  have hiL : it ≠ L := (N3 _ (.head _)).2.1
  have hig : g.get? it = none := (N3 _ (.head _)).2.2
  refine wpAny_pyIter_rangeiter (N3 _ (.head _)).1 ?_
  refine forB (I := fun n s' => ∃ m ys j, n = j + 1 ∧ Fr g L s'.heap m ∧ News g L s'.heap [(it, rangeIt ((j : Nat) - 1 : Int) j (-1)), (d, listOf ys.toArray e)] ∧ m (Str.ofString "x") = some (.ref d)
    ∧ ys.length = xs.length ∧ (∀ y ∈ ys, y ∈ xs) ∧ j ≤ xs.length / 2 ∧ hpf (fun a b => lt b a) j ys = heapify (fun a b => lt b a) xs ∧ s'.gens = s.gens ∧ s'.os = s.os) (n₀ := xs.length / 2 + 1)
    ⟨_, xs, xs.length / 2, rfl, F3, N3, by walk_at "lv", rfl, fun _ h => h, Nat.le_refl _, rfl, rfl, rfl⟩ ?_
  intro T Z n hT hZ s1 kgI
  (refine keepGoal fun kgP kgk => ?_; rcases kgI with ⟨m, ys, j, rfl, F1, N1, a1, hyl, hmem, hj, hpe, hg, hos⟩; refine kgk ?_; clear kgk kgP)
  have NI : IsRangeIter s1.heap it _ _ _ := (N1 _ (.head _)).1
  cases j with
  | zero =>
    refine wpAny_pyNext_range_end hh NI (by omega) (fun h' he => ?_)
    dsimp only
    refine hZ _ ?_
    dsimp only
    walk_at "run"
    refine hR _ _ ⟨⟨_, frExt F1 he hiL hig⟩, fun k => hq _ k ?_, hg, hos⟩
    rw [← hpe]
    exact he _ _ (Ne.symm hid) (N1 _ (.tail _ (.head _))).1
  | succ j =>
    refine wpAny_pyNext_range_item NI (by omega) (fun h' hit hs => ?_)
    dsimp only
    have F4 := F1.change hs hiL hig
    have N4 : News g L h' [(d, listOf ys.toArray e)] := newsSet (newsSub N1 (fun q hq => .tail _ hq)) hs (by simpa using Ne.symm hid)
    have N5 : News g L h' [(it, rangeIt ((j : Nat) - 1 : Int) j (-1)), (d, listOf ys.toArray e)] := by
      refine newsCons ?_ hiL hig N4
      have e1 : ((j + 1 : Nat) : Int) - 1 + -1 = (j : Nat) - 1 := by omega
      have e2 : ((j + 1 : Nat) : Int) - 1 = (j : Nat) := by omega
      rw [e1, e2] at hit
      exact hit
    have e2 : ((j + 1 : Nat) : Int) - 1 = (j : Nat) := by omega
    rw [e2]
    clear NI N1 F1 N4
    refine wpAny_assign_Name ?_
    walk_at "run"
    rename_i h6 F6 N6
    refine suMin_call (lt := lt) (xs := ys) (pos := j) Gg (C.mono (fun b o e => kb.get b o (by simp) e) hmem) (keepFr (by assumption)) (ng d (by simp)) (N6 _ (.tail _ (.head _))).1 (by omega) (by omega) (by simp only [depth_deeper]; omega) (by simp only [units_deeper]; omega) ?_
    intro s2 k2 e2
    have F7 := frKeep F6 k2.keep (by simpa using fun q => (N6 _ (.tail _ (.head _))).2.1 q.symm) ng
    have N7 : News g L s2.heap [(it, rangeIt ((j : Nat) - 1 : Int) j (-1)), (d, listOf (su (fun a b => lt b a) ys j).toArray e)] :=
      newsCons (k2.keep.get _ _ (by simpa using hid) (N6 _ (.head _)).1) hiL hig (news1 e2 (N6 _ (.tail _ (.head _))).2.1 (ng d (by simp)))
    dsimp only
    walk_at "run"
    exact hT _ _ ⟨j + 1, by omega, _, su (fun a b => lt b a) ys j, j, rfl, F7, N7, by walk_at "lv", (su_length O.flip (by omega)).trans hyl, fun y hy => hmem y ((su_mem O.flip (by omega) y).mp hy), by omega, hpe, k2.gens.trans hg, k2.os.trans hos⟩
end
end
section
section
variable {prog : Program} {w : World} {A : Around} {E : Value → Shared → Prop} {s : Shared} {p : Program} {loose : List Str} {mg mb : Str → Option Value}

/-- the word of a number -/
noncomputable def word (n : Nat) : List UInt8 := if h : n = 0 then [] else word (n / 16) ++ [UInt8.ofNat (65 + n % 16)]
noncomputable abbrev apBytes : Array UInt8 := #[65, 66, 67, 68, 69, 70, 71, 72, 73, 74, 75, 76, 77, 78, 79, 80]
theorem ap_pick : ∀ r : Fin 16, KBy.picked apBytes (some ((r.val : Nat) : Int)) (some ((r.val + 1 : Nat) : Int)) = #[UInt8.ofNat (65 + r.val)] ∧ KBy.whole apBytes (some ((r.val : Nat) : Int)) (some ((r.val + 1 : Nat) : Int)) = false := by decide +kernel
theorem word_len : ∀ (j n : Nat), n < 16 ^ j → (word n).length ≤ j
  | 0, n, h => by have : n = 0 := by simpa using h
                  subst this; unfold word; simp
  | j + 1, n, h => by
    unfold word
    split
    · simp
    · have := word_len j (n / 16) (by rw [Nat.pow_succ] at h; omega)
      simp; omega
theorem Int2AP_call {h₀ : Heap} {n : Int} {t : Tok} {Q : Value → Shared → Prop}
    (G : Gd (hd.heap_1 w.params) p loose mg mb h₀) (st : Keep [] h₀ s.heap) (hn : n.natAbs < 1000000) (hroom : A.depth + 2 < recursionLimit) (hu : A.units + 150 < cLine) (hh : A.handled = none)
    (hq : ∀ s' tk, KeepS [] s s' → Q (.bytes (word n.natAbs).toArray tk) s') :
    wpAny (model prog w) A (call (.ref 89) [.int n t]) Q E s := by
  refine enterD (binds := [(Str.ofString "num", Value.int n t)]) [] G st (by simp) rfl rfl (by omega) (BindsTo.of_eq rfl) (locs rfl) ?_
  intro g L h₁ F kg Gg kh ng kb
  refine absQ fun R hR => ?_
  have N : News g L h₁ [] := News.nil
  have m1 : (fun y => List.lookup y ([(Str.ofString "num", Value.int n t)] : List (Str × Value)).reverse) (Str.ofString "num") = some (Value.int n t) := rfl
  revert F m1
  generalize (fun y => List.lookup y ([(Str.ofString "num", Value.int n t)] : List (Str × Value)).reverse) = m
  intro F m1
  walk_at "run"
  have hab : (if n < 0 then -n else n) = ((n.natAbs : Nat) : Int) := by split <;> omega
  simp only [hab] at *
  refine wpAny_mono (Q := fun f s' => f = .next ∧ ∃ m tk, Fr g L s'.heap m ∧ m (Str.ofString "val") = some (.bytes (word n.natAbs).toArray tk) ∧ s'.gens = s.gens ∧ s'.os = s.os)
    (whileB (I := fun k s' => ∃ m t1 t2 t3 ds, Fr g L s'.heap m ∧ m (Str.ofString "num") = some (.int (k : Nat) t1) ∧ m (Str.ofString "val") = some (.bytes (ds : List UInt8).toArray t2) ∧ m (Str.ofString "AP") = some (.bytes #[65, 66, 67, 68, 69, 70, 71, 72, 73, 74, 75, 76, 77, 78, 79, 80] t3) ∧ word k ++ ds = word n.natAbs ∧ s'.gens = s.gens ∧ s'.os = s.os) (n₀ := n.natAbs)
    ⟨_, _, _, _, [], ‹_›, by walk_at "lv", by walk_at "lv", by walk_at "lv", by simp, rfl, rfl⟩ ?_) ?_ (fun _ _ h => h)
  rotate_left
  · intro f s1 kgI
    (refine keepGoal fun kgP kgk => ?_; rcases kgI with ⟨rfl, m, tk, F1, a1, hg, hos⟩; refine kgk ?_; clear kgk kgP)
    dsimp only
    walk_at "run"
    exact hR _ _ ⟨⟨_, F1⟩, fun k => hq _ _ k, hg, hos⟩
  clear N F m1 hR R
  intro T Z k hT hZ s1 kgI
  (refine keepGoal fun kgP kgk => ?_; rcases kgI with ⟨m, t1, t2, t3, ds, F1, a1, a2, a3, hw, hg, hos⟩; refine kgk ?_; clear kgk kgP)
  have N1 : News g L s1.heap [] := News.nil
  walk_at "run"
  by_cases hk : k = 0
  · subst hk
    rw [if_neg (by simp)]
    have e1 : word 0 = [] := by unfold word; simp
    rw [e1, List.nil_append] at hw
    exact hZ _ ⟨rfl, _, _, F1, by rw [← hw]; exact a2, hg, hos⟩
  · rw [if_pos (by simpa using hk)]
    have e1 : word k = word (k / 16) ++ [UInt8.ofNat (65 + k % 16)] := by rw [word]; simp [hk]
    have d1 : (k : Int).fdiv 16 = ((k / 16 : Nat) : Int) := by rw [Int.fdiv_eq_ediv_of_nonneg _ (by decide)]; omega
    have d2 : (k : Int).fmod 16 = ((k % 16 : Nat) : Int) := by rw [Int.fmod_eq_emod_of_nonneg _ (by decide)]; omega
    iterate 11 walk1
    rename_i h2 F2 N2
    dsimp only at F2 N2 ⊢
    simp only [d1, d2] at N2
    refine unpackN_ F2 N2 (News.isTup N2 (.head _)) hh rfl rfl ?_
    intro h3 F3 N3
    clear N2 F2 N3
    have N3 : News g L h3 [] := News.nil
    dsimp only
    walk_at "run"
    obtain ⟨p1, p2⟩ := ap_pick ⟨k % 16, by omega⟩
    dsimp only at p1 p2
    have hds : ds.length ≤ 20 := by
      have := word_len 5 n.natAbs (by omega)
      have := congrArg List.length hw
      simp at this; omega
    refine KBy.slice_N (l := .int (k % 16 : Nat) _) (u := .int (k % 16 + 1 : Nat) _) ‹_› ‹_› (.int _ _) (.int _ _) p2 (by rw [p1]; simp) ?_
    intro h6 t6 k6 F6 N6
    rw [p1]
    walk1
    refine KBy.add_bytes (by simp; omega) ?_
    intro t7 k7
    walk_at "run"
    have ev : #[UInt8.ofNat (65 + k % 16)] ++ ds.toArray = (UInt8.ofNat (65 + k % 16) :: ds).toArray := by simp
    simp only [ev] at *
    exact hT _ _ ⟨k / 16, by omega, _, _, _, _, _, ‹_›, by walk_at "lv", by walk_at "lv", by walk_at "lv", by rw [← hw, e1]; simp, hg, hos⟩
end
end
section
section
variable {prog : Program} {w : World} {A : Around} {E : Value → Shared → Prop} {s : Shared} {p : Program} {loose : List Str} {mg mb : Str → Option Value}

noncomputable def hexLen (n : Nat) : Nat := if h : n = 0 then 0 else hexLen (n / 16) + 1
theorem iadd1 {q : Nat} {t u : Tok} {Q : Value → Shared → Prop} (h : Q (.int (q + 1 : Nat) s.toks) { s with toks := s.toks + 1 }) : wpAny (model prog w) A (inplaceOp .Add (.int (q : Int) t) (.int 1 u)) Q E s :=
  PyProof.Rows.iadd_int (by simpa using h)
local macro_rules | `(tactic| walk_at "call builtin:list.append") => `(tactic| (k_dflt (refine append_1 (by assumption) (by assumption) (by simp) ?_ ?_; (focus (first | omega | assumption)); intro h' F' N'; try dsimp only)))
local macro_rules | `(tactic| walk_at "inplaceOp Add int int") => `(tactic| (with_reducible (refine iadd1 ?_); try dsimp only))
theorem law_size_call {h₀ : Heap} {n : Nat} {t : Tok} {Q : Value → Shared → Prop}
    (G : Gd (hd.heap_1 w.params) p loose mg mb h₀) (st : Keep [] h₀ s.heap) (hn : n < 1000000) (hroom : A.depth + 2 < recursionLimit) (hh : A.handled = none)
    (hq : ∀ s' tk, KeepS [] s s' → Q (.int (hexLen n : Nat) tk) s') :
    wpAny (model prog w) A (call (.ref 110) [.int (n : Int) t]) Q E s := by
  refine enterD (binds := [(Str.ofString "number", Value.int n t)]) [] G st (by simp) rfl rfl (by omega) (BindsTo.of_eq rfl) (locs rfl) ?_
  intro g L h₁ F kg Gg kh ng kb
  refine absQ fun R hR => ?_
  have N : News g L h₁ [] := News.nil
  have m1 : (fun y => List.lookup y ([(Str.ofString "number", Value.int n t)] : List (Str × Value)).reverse) (Str.ofString "number") = some (Value.int n t) := rfl
  revert F m1
  generalize (fun y => List.lookup y ([(Str.ofString "number", Value.int n t)] : List (Str × Value)).reverse) = m
  intro F m1
  walk_at "run"
  refine wpAny_mono (Q := fun f s' => f = .next ∧ ∃ m tk, Fr g L s'.heap m ∧ m (Str.ofString "size") = some (.int (hexLen n : Nat) tk) ∧ s'.gens = s.gens ∧ s'.os = s.os)
    (whileB (I := fun k s' => ∃ m t1 t2, ∃ c : Nat, Fr g L s'.heap m ∧ m (Str.ofString "number") = some (.int (k : Nat) t1) ∧ m (Str.ofString "size") = some (.int (c : Nat) t2) ∧ c + hexLen k = hexLen n ∧ s'.gens = s.gens ∧ s'.os = s.os) (n₀ := n)
    ⟨_, _, _, 0, ‹_›, by walk_at "lv", by walk_at "lv", by simp, rfl, rfl⟩ ?_) ?_ (fun _ _ h => h)
  rotate_left
  · intro f s1 kgI
    (refine keepGoal fun kgP kgk => ?_; rcases kgI with ⟨rfl, m, tk, F1, a1, hg, hos⟩; refine kgk ?_; clear kgk kgP)
    dsimp only
    walk_at "run"
    exact hR _ _ ⟨⟨_, F1⟩, fun k => hq _ _ k, hg, hos⟩
  clear N F m1 hR R
  intro T Z k hT hZ s1 kgI
  (refine keepGoal fun kgP kgk => ?_; rcases kgI with ⟨m, t1, t2, c, F1, a1, a2, hw, hg, hos⟩; refine kgk ?_; clear kgk kgP)
  have N1 : News g L s1.heap [] := News.nil
  walk_at "run"
  by_cases hk : k = 0
  · subst hk
    rw [if_neg (by simp)]
    have e1 : hexLen 0 = 0 := by unfold hexLen; simp
    exact hZ _ ⟨rfl, _, _, F1, by rw [← hw, e1]; exact a2, hg, hos⟩
  · rw [if_pos (decide_eq_true (by omega))]
    have e1 : hexLen k = hexLen (k / 16) + 1 := by rw [hexLen]; simp [hk]
    walk_at "run"
    exact hT _ _ ⟨k / 16, by omega, _, _, _, c + 1, ‹_›, by walk_at "lv", by walk_at "lv", by omega, hg, hos⟩

/-- the codes of a number's figures, from the last -/
noncomputable def digs (n : Nat) : List Int := if h : n = 0 then [] else ((65 + n % 16 : Nat) : Int) :: digs (n / 16)
theorem digs_len : ∀ (j n : Nat), n < 16 ^ j → (digs n).length ≤ j
  | 0, n, h => by have : n = 0 := by simpa using h
                  subst this; unfold digs; simp
  | j + 1, n, h => by
    unfold digs
    split
    · simp
    · have := digs_len j (n / 16) (by rw [Nat.pow_succ] at h; omega)
      simp; omega
theorem ints_snoc {vs : List Value} {ns : List Int} {i : Int} {t : Tok} (h : IntsAre vs ns) : IntsAre (vs ++ [.int i t]) (ns ++ [i]) := IntsAre.append h (.cons _ _ .nil)
theorem digs_byte (n : Nat) : ∀ x ∈ digs n, 0 ≤ x ∧ x < 256 := by
  induction n using Nat.strongRecOn with
  | ind n ih =>
    unfold digs
    split
    · simp
    · intro x hx
      rcases List.mem_cons.mp hx with rfl | hx
      · omega
      · exact ih (n / 16) (by omega) x hx
theorem word_digs (n : Nat) : word n = (digs n).reverse.map fun x => x.toNat.toUInt8 := by
  induction n using Nat.strongRecOn with
  | ind n ih =>
    unfold word digs
    by_cases h : n = 0
    · simp [h]
    · simp only [h, dite_false]
      rw [ih (n / 16) (by omega), List.reverse_cons, List.map_append]
      rfl
theorem law_word_call {h₀ : Heap} {n : Int} {t : Tok} {Q : Value → Shared → Prop}
    (G : Gd (hd.heap_1 w.params) p loose mg mb h₀) (st : Keep [] h₀ s.heap) (hn : n.natAbs < 1000000) (hroom : A.depth + 2 < recursionLimit) (hh : A.handled = none)
    (hq : ∀ s' tk, KeepS [] s s' → Q (.bytes (word n.natAbs).toArray tk) s') :
    wpAny (model prog w) A (call (.ref 117) [.int n t]) Q E s := by
  refine enterD (binds := [(Str.ofString "number", Value.int n t)]) [] G st (by simp) rfl rfl (by omega) (BindsTo.of_eq rfl) (locs rfl) ?_
  intro g L h₁ F kg Gg kh ng kb
  refine absQ fun R hR => ?_
  have N : News g L h₁ [] := News.nil
  have m1 : (fun y => List.lookup y ([(Str.ofString "number", Value.int n t)] : List (Str × Value)).reverse) (Str.ofString "number") = some (Value.int n t) := rfl
  revert F m1
  generalize (fun y => List.lookup y ([(Str.ofString "number", Value.int n t)] : List (Str × Value)).reverse) = m
  intro F m1
  walk_at "run"
  have hab : (if n < 0 then -n else n) = ((n.natAbs : Nat) : Int) := by split <;> omega
  simp only [hab] at *
  rename_i r h2 F2 N2 n2 h3 F3 N3 tu tk h4 N4 F4
  have hrL : r ≠ L := (N4 _ (.head _)).2.1
  have hrg : g.get? r = none := (N4 _ (.head _)).2.2
  refine wpAny_mono (Q := fun f s' => f = .next ∧ ∃ m vs e, Fr g L s'.heap m ∧ News g L s'.heap [(r, listOf (vs : List Value).toArray e)] ∧ m (Str.ofString "word") = some (.ref r) ∧ IntsAre vs (digs n.natAbs) ∧ s'.gens = s.gens ∧ s'.os = s.os)
    (whileB (I := fun k s' => ∃ m vs e t1 ds, Fr g L s'.heap m ∧ News g L s'.heap [(r, listOf (vs : List Value).toArray e)] ∧ m (Str.ofString "word") = some (.ref r) ∧ m (Str.ofString "rest") = some (.int (k : Nat) t1) ∧ IntsAre vs ds ∧ ds ++ digs k = digs n.natAbs ∧ s'.gens = s.gens ∧ s'.os = s.os) (n₀ := n.natAbs)
    ⟨_, [], 0, _, [], F4, N4, by walk_at "lv", by walk_at "lv", .nil, rfl, rfl, rfl⟩ ?_) ?_ (fun _ _ h => h)
  rotate_left
  · intro f s1 kgI
    (refine keepGoal fun kgP kgk => ?_; rcases kgI with ⟨rfl, m, vs, e, F1, N1, a1, hi, hg, hos⟩; refine kgk ?_; clear kgk kgP)
    dsimp only
    walk_at "run"
    have hvl : vs.length < 1000 := by
      have h1 := hi.length
      have h3 := digs_len 5 n.natAbs (by omega)
      omega
    dsimp only
    refine kl_reverse F1 N1 (l := vs.reverse) (by simp) (.head (by simp)) (by rw [sizeLine_eq]; simp; omega) ?_
    intro h5 F5 N5
    try dsimp only
    walk_at "run"
    refine bytes_K F5 N5 (isList1 N5) hi.reverse ?_ (by rw [sizeLine_eq]; simp; omega) hh ?_
    · intro x hx
      exact digs_byte _ x (List.mem_reverse.mp hx)
    intro h6 t6 k6 F6 N6 _
    rw [← word_digs]
    exact hR _ _ ⟨⟨_, F6⟩, fun k => hq _ _ k, hg, hos⟩
  clear N F m1 F2 N2 F3 N3 F4 N4 hR R
  intro T Z k hT hZ s1 kgI
  (refine keepGoal fun kgP kgk => ?_; rcases kgI with ⟨m, vs, e, t1, ds, F1, N1, a1, a2, hi, hw, hg, hos⟩; refine kgk ?_; clear kgk kgP)
  walk_at "run"
  by_cases hk : k = 0
  · subst hk
    rw [if_neg (by simp)]
    have e1 : digs 0 = [] := by unfold digs; simp
    exact hZ _ ⟨rfl, _, _, _, F1, N1, a1, by rw [← hw, e1, List.append_nil]; exact hi, hg, hos⟩
  · rw [if_pos (decide_eq_true (by omega))]
    have hvl : vs.length < 1000 := by
      have h1 := hi.length
      have h2 := congrArg List.length hw
      have h3 := digs_len 5 n.natAbs (by omega)
      simp at h2; omega
    have e1 : digs k = ((65 + k % 16 : Nat) : Int) :: digs (k / 16) := by rw [digs]; simp [hk]
    walk_at "run"
    exact hT _ _ ⟨k / 16, by omega, _, _, _, _, ds ++ [((65 + k % 16 : Nat) : Int)], ‹_›, ‹_›, by walk_at "lv", by walk_at "lv", ints_snoc hi, by rw [← hw, e1]; simp, hg, hos⟩

noncomputable def sideM (a b : Nat) : Int := if h : 0 < a ∧ 0 < b ∧ a % 16 = b % 16 then sideM (a / 16) (b / 16) else if a = 0 ∨ b = 0 then (if 0 < a then 1 else 0) - (if 0 < b then 1 else 0) else if a % 16 < b % 16 then -1 else 1
termination_by a
theorem law_sideM_call {h₀ : Heap} {a b : Nat} {t1 t2 : Tok} {Q : Value → Shared → Prop}
    (G : Gd (hd.heap_1 w.params) p loose mg mb h₀) (st : Keep [] h₀ s.heap) (hroom : A.depth + 2 < recursionLimit) (hh : A.handled = none)
    (hq : ∀ s' tk, KeepS [] s s' → Q (.int (sideM a b) tk) s') :
    wpAny (model prog w) A (call (.ref 124) [.int (a : Int) t1, .int (b : Int) t2, .bool true]) Q E s := by
  refine enterD (binds := [(Str.ofString "one", Value.int a t1), (Str.ofString "two", Value.int b t2), (Str.ofString "mirrored", Value.bool true)]) [] G st (by simp) rfl rfl (by omega) (BindsTo.of_eq rfl) (locs rfl) ?_
  intro g L h₁ F kg Gg kh ng kb
  refine absQ fun R hR => ?_
  have N : News g L h₁ [] := News.nil
  have m1 : (fun y => List.lookup y ([(Str.ofString "one", Value.int a t1), (Str.ofString "two", Value.int b t2), (Str.ofString "mirrored", Value.bool true)] : List (Str × Value)).reverse) (Str.ofString "one") = some (Value.int a t1) := rfl
  have m2 : (fun y => List.lookup y ([(Str.ofString "one", Value.int a t1), (Str.ofString "two", Value.int b t2), (Str.ofString "mirrored", Value.bool true)] : List (Str × Value)).reverse) (Str.ofString "two") = some (Value.int b t2) := rfl
  have m3 : (fun y => List.lookup y ([(Str.ofString "one", Value.int a t1), (Str.ofString "two", Value.int b t2), (Str.ofString "mirrored", Value.bool true)] : List (Str × Value)).reverse) (Str.ofString "mirrored") = some (Value.bool true) := rfl
  revert F m1 m2 m3
  generalize (fun y => List.lookup y ([(Str.ofString "one", Value.int a t1), (Str.ofString "two", Value.int b t2), (Str.ofString "mirrored", Value.bool true)] : List (Str × Value)).reverse) = m
  intro F m1 m2 m3
  walk_at "run"
  walk1
  walk_at "run"
  rw [if_pos rfl]
  walk_at "run"
  refine wpAny_mono (Q := fun f s' => f = .next ∧ ∃ m t1 t2, ∃ x y : Nat, Fr g L s'.heap m ∧ m (Str.ofString "one") = some (.int x t1) ∧ m (Str.ofString "two") = some (.int y t2) ∧ ¬ (0 < x ∧ 0 < y ∧ x % 16 = y % 16) ∧ sideM x y = sideM a b ∧ s'.gens = s.gens ∧ s'.os = s.os)
    (whileB (I := fun k s' => ∃ m t1 t2, ∃ x y : Nat, k = x ∧ Fr g L s'.heap m ∧ m (Str.ofString "one") = some (.int x t1) ∧ m (Str.ofString "two") = some (.int y t2) ∧ sideM x y = sideM a b ∧ s'.gens = s.gens ∧ s'.os = s.os) (n₀ := a)
    ⟨_, _, _, a, b, rfl, F, by walk_at "lv", by walk_at "lv", rfl, rfl, rfl⟩ ?_) ?_ (fun _ _ h => h)
  · clear N F m1 m2 m3 hR R
    intro T Z k hT hZ s1 kgI
    (refine keepGoal fun kgP kgk => ?_; rcases kgI with ⟨m, t1, t2, x, y, rfl, F1, a1, a2, hw, hg, hos⟩; refine kgk ?_; clear kgk kgP)
    have N1 : News g L s1.heap [] := News.nil
    walk_at "run"
    by_cases hx : 0 < k
    · rw [if_pos (decide_eq_true (by omega))]
      walk_at "run"
      by_cases hy : 0 < y
      · rw [if_pos (decide_eq_true (by omega))]
        walk_at "run"
        by_cases he : k % 16 = y % 16
        · have e1 : sideM k y = sideM (k / 16) (y / 16) := by rw [sideM]; simp [hx, hy, he]
          walk_at "auto"
          exact hT _ _ ⟨k / 16, by omega, _, _, _, k / 16, y / 16, rfl, ‹_›, by walk_at "lv", by walk_at "lv", by rw [← hw, e1], hg, hos⟩
        · walk_at "auto"
          exact hZ _ ⟨rfl, _, _, _, k, y, F1, a1, a2, fun h => he h.2.2, hw, hg, hos⟩
      · rw [if_neg (by rw [decide_eq_true_eq]; omega), if_neg (by simp)]
        exact hZ _ ⟨rfl, _, _, _, k, y, F1, a1, a2, fun h => hy h.2.1, hw, hg, hos⟩
    · rw [if_neg (by rw [decide_eq_true_eq]; omega), if_neg (by simp)]
      exact hZ _ ⟨rfl, _, _, _, k, y, F1, a1, a2, fun h => hx h.1, hw, hg, hos⟩
  · clear N F m1 m2 m3
    intro f s1 kgI
    (refine keepGoal fun kgP kgk => ?_; rcases kgI with ⟨rfl, m, t1, t2, x, y, F1, a1, a2, hn, hw, hg, hos⟩; refine kgk ?_; clear kgk kgP)
    have N1 : News g L s1.heap [] := News.nil
    dsimp only
    have e0 : sideM x y = if x = 0 ∨ y = 0 then (if 0 < x then 1 else 0) - (if 0 < y then 1 else 0) else if x % 16 < y % 16 then -1 else 1 := by rw [sideM]; simp [hn]
    have fin : ∀ (v : Int) (s2 : Shared) (tk : Tok), v = sideM a b → s2.heap = s1.heap → s2.gens = s1.gens → s2.os = s1.os → ((∃ m', Fr g L s2.heap m') ∧ (KeepS [] s s2 → Q (.int v tk) s2) ∧ s2.gens = s.gens ∧ s2.os = s.os) := by
      intro v s2 tk hv h1 h2 h3
      subst hv
      exact ⟨⟨_, by rw [h1]; exact F1⟩, fun k => hq _ _ k, h2.trans hg, h3.trans hos⟩
    rw [← hw, e0] at fin
    by_cases hx : x = 0
    · have hx' : ¬ (0 < x) := by omega
      by_cases hy : y = 0
      · walk_at "auto"
        exact hR _ _ (fin _ _ _ (by simp [hx, hy]) rfl rfl rfl)
      · walk_at "auto"
        exact hR _ _ (fin _ _ _ (by simp [hx]; omega) rfl rfl rfl)
    · by_cases hy : y = 0
      · walk_at "auto"
        exact hR _ _ (fin _ _ _ (by simp [hy]; omega) rfl rfl rfl)
      · by_cases hl : x % 16 < y % 16
        · walk_at "auto"
          exact hR _ _ (fin _ _ _ (by simp [hx, hy, hl]) rfl rfl rfl)
        · walk_at "auto"
          exact hR _ _ (fin _ _ _ (by simp [hx, hy, hl]) rfl rfl rfl)
end
end
section
section
variable {prog : Program} {w : World} {A : Around} {E : Value → Shared → Prop} {s : Shared} {p : Program} {loose : List Str} {mg mb : Str → Option Value}

noncomputable def sideD (a b : Nat) : Int :=
  if a * 16 ^ (hexLen b - hexLen a) ≠ b * 16 ^ (hexLen a - hexLen b) then (if a * 16 ^ (hexLen b - hexLen a) < b * 16 ^ (hexLen a - hexLen b) then -1 else 1) else (hexLen a : Int) - (hexLen b : Int)
theorem hexLen_le : ∀ (j n : Nat), n < 16 ^ j → hexLen n ≤ j
  | 0, n, h => by have : n = 0 := by simpa using h
                  subst this; unfold hexLen; simp
  | j + 1, n, h => by
    unfold hexLen
    split
    · simp
    · have := hexLen_le j (n / 16) (by rw [Nat.pow_succ] at h; omega)
      omega
theorem law_sideD_call {h₀ : Heap} {a b : Nat} {t1 t2 : Tok} {Q : Value → Shared → Prop}
    (G : Gd (hd.heap_1 w.params) p loose mg mb h₀) (st : Keep [] h₀ s.heap) (hroom : A.depth + 3 < recursionLimit) (hh : A.handled = none) (hu : A.units + 100 < cLine) (ha : a < 1000000) (hb : b < 1000000)
    (hq : ∀ s' tk, KeepS [] s s' → Q (.int (sideD a b) tk) s') :
    wpAny (model prog w) A (call (.ref 124) [.int (a : Int) t1, .int (b : Int) t2, .bool false]) Q E s := by
  refine enterD (binds := [(Str.ofString "one", Value.int a t1), (Str.ofString "two", Value.int b t2), (Str.ofString "mirrored", Value.bool false)]) [] G st (by simp) rfl rfl (by omega) (BindsTo.of_eq rfl) (locs rfl) ?_
  intro g L h₁ F kg Gg kh ng kb
  refine absQ fun R hR => ?_
  have N : News g L h₁ [] := News.nil
  have m1 : (fun y => List.lookup y ([(Str.ofString "one", Value.int a t1), (Str.ofString "two", Value.int b t2), (Str.ofString "mirrored", Value.bool false)] : List (Str × Value)).reverse) (Str.ofString "one") = some (Value.int a t1) := rfl
  have m2 : (fun y => List.lookup y ([(Str.ofString "one", Value.int a t1), (Str.ofString "two", Value.int b t2), (Str.ofString "mirrored", Value.bool false)] : List (Str × Value)).reverse) (Str.ofString "two") = some (Value.int b t2) := rfl
  have m3 : (fun y => List.lookup y ([(Str.ofString "one", Value.int a t1), (Str.ofString "two", Value.int b t2), (Str.ofString "mirrored", Value.bool false)] : List (Str × Value)).reverse) (Str.ofString "mirrored") = some (Value.bool false) := rfl
  revert F m1 m2 m3
  generalize (fun y => List.lookup y ([(Str.ofString "one", Value.int a t1), (Str.ofString "two", Value.int b t2), (Str.ofString "mirrored", Value.bool false)] : List (Str × Value)).reverse) = m
  intro F m1 m2 m3
  walk_at "auto"
  refine law_size_call Gg (keepFr (by assumption)) ha (by simp only [depth_deeper]; omega) hh ?_
  intro s2 tk2 k2
  have F2 := frKeep F k2.keep (by simp) (by simp)
  have N2 : News g L s2.heap [] := News.nil
  walk_at "auto"
  refine law_size_call Gg (keepFr (by assumption)) hb (by simp only [depth_deeper]; omega) hh ?_
  intro s3 tk3 k3
  have F3 := frKeep F2 k3.keep (by simp) (by simp)
  have N3 : News g L s3.heap [] := News.nil
  have hla := hexLen_le 5 a (by omega)
  have hlb := hexLen_le 5 b (by omega)
  clear N F N2 F2
  walk_at "auto"
  refine max0_ hh ‹_› ‹_› ?_
  intro h4 tk4 tv4 F4 N4
  refine pow16_ (by omega) ?_
  refine mulNat_ ha ?_
  walk_at "auto"
  refine max0_ hh ‹_› ‹_› ?_
  intro h5 tk5 tv5 F5 N5
  refine pow16_ (by omega) ?_
  refine mulNat_ hb ?_
  have e1 : (-((hexLen a : Int) - (hexLen b : Int))).toNat = hexLen b - hexLen a := by omega
  have e2 : ((hexLen a : Int) - (hexLen b : Int)).toNat = hexLen a - hexLen b := by omega
  simp only [e1, e2] at *
  generalize hA : a * 16 ^ (hexLen b - hexLen a) = X at *
  generalize hB : b * 16 ^ (hexLen a - hexLen b) = Y at *
  have e0 : sideD a b = if X ≠ Y then (if X < Y then -1 else 1) else (hexLen a : Int) - (hexLen b : Int) := by unfold sideD; rw [hA, hB]
  have hg : s3.gens = s.gens := k3.gens.trans k2.gens
  have hos : s3.os = s.os := k3.os.trans k2.os
  by_cases hne : X = Y
  · walk_at "auto"
    have e3 : (hexLen a : Int) - (hexLen b : Int) = sideD a b := by rw [e0]; simp [hne]
    rw [e3]
    exact hR _ _ ⟨⟨_, ‹_›⟩, fun k => hq _ _ k, hg, hos⟩
  · by_cases hlt : X < Y
    · walk_at "auto"
      have e3 : (-1 : Int) = sideD a b := by rw [e0]; simp [hne, hlt]
      rw [e3]
      exact hR _ _ ⟨⟨_, ‹_›⟩, fun k => hq _ _ k, hg, hos⟩
    · walk_at "auto"
      have e3 : (1 : Int) = sideD a b := by rw [e0]; simp [hne, hlt]
      rw [e3]
      exact hR _ _ ⟨⟨_, ‹_›⟩, fun k => hq _ _ k, hg, hos⟩
end
end
section
/-- the items' order upon their addresses -/
noncomputable def lookI (tbl : List Itm) (x : Value) : Itm := match x with
  | .ref a => (tbl.find? fun i => decide (i.adr = a)).getD itm0
  | _ => itm0
theorem lookI_mem : ∀ {tbl : List Itm} {it : Itm}, (tbl.map Itm.adr).Nodup → it ∈ tbl → lookI tbl it.val = it
  | [], _, _, h => by simp at h
  | x :: tbl, it, hn, h => by
    rw [List.map_cons, List.nodup_cons] at hn
    show ((x :: tbl).find? fun i => decide (i.adr = it.adr)).getD itm0 = it
    rw [List.find?_cons]
    rcases List.mem_cons.mp h with rfl | h
    · simp
    · have hne : x.adr ≠ it.adr := fun e => hn.1 (e ▸ List.mem_map.mpr ⟨it, h, rfl⟩)
      simp only [hne, decide_false]
      exact lookI_mem hn.2 h
noncomputable def ilt (σ : Bool) (a b : Itm) : Bool := if σ = true then ltI a b else ltI b a
noncomputable def vLt (tbl : List Itm) (x y : Value) : Bool := ltI (lookI tbl x) (lookI tbl y)
theorem vLt_swo (tbl : List Itm) : SWO (vLt tbl) := ⟨fun _ _ => ltI_swo.1 _ _, fun _ _ _ => ltI_swo.2 _ _ _⟩
noncomputable def HsI (σ : Bool) (its : List Itm) : Prop := ∀ i, 0 < i → i < its.length → ilt σ (its.getD ((i - 1) / 2) itm0) (its.getD i itm0) = false

theorem ltI_self (a : Itm) : ltI a a = false := by
  unfold ltI; rw [bo.irrefl]; simp
section
variable {prog : Program} {w : World} {A : Around} {E : Value → Shared → Prop} {s : Shared} {p : Program} {loose : List Str} {mg mb : Str → Option Value}
open Builtin in
theorem lt_tuple_self {a : Itm} {Q : Value → Shared → Prop} (hm : a.more = [] ∨ ∃ v, a.more = [v]) (hx : s.heap.get? a.adr = some a.obj) (hu : A.units + 10 < cLine)
    (h : Q (.bool false) s) : wpAny (model prog w) A (compareOp .Lt a.val a.val) Q E s := by
  have hTx : s.TypeIs a.val "tuple" := ⟨_, hx, rfl⟩
  show wpAny _ _ (richCompare .Lt a.val a.val) _ _ _
  refine wpAny_richCompare_same_room hTx hTx PySem.F.slot_tuple_lt (wpAny_call_entry PySem.F.slot_tuple_lt hTx PySem.F.entry_tuple_lt ?_ (PySem.F.args_tuple_lt_2 _ _)) (by lia)
  show wpAny _ _ (isInstance a.val (.type "tuple") >>= fun r => _) _ _ s
  refine wpAny_bind (wpAny_isInstance hTx sub_tuple_tuple' ?_)
  show wpAny _ _ (Builtin.Tuple.tupleItemsOf a.val >>= fun r => _) _ _ s
  refine wpAny_bind ?_
  unfold Builtin.Tuple.tupleItemsOf
  refine wpAny_bind (wpAny_seqItems hx rfl (wpAny_pure ?_))
  refine wpAny_bind ?_
  refine wpAny_bind (wpAny_seqItems hx rfl (wpAny_pure ?_))
  refine wpAny_bind ?_
  simp only [List.zip_cons_cons, List.forIn_cons]
  refine wpAny_bind (wpAny_bind (eqBool_bytes ?_))
  have e0 : (a.key.toArray.toList == a.key.toArray.toList) = true := by simp
  rw [e0]
  simp only [Bool.not_true, Bool.false_eq_true, if_false]
  refine wpAny_pure ?_
  refine wpAny_bind (wpAny_bind (wpAny_eqBool_int ?_))
  have e1 : (a.ord == a.ord) = true := by simp
  rw [e1]
  simp only [Bool.not_true, Bool.false_eq_true, if_false]
  refine wpAny_pure ?_
  have fin : wpAny (model prog w) A.in1 (ret (Tuple.tupleCompareSizes CmpOp.Lt (Value.bytes a.key.toArray a.t :: Value.int a.ord a.u :: a.more).toArray.size (Value.bytes a.key.toArray a.t :: Value.int a.ord a.u :: a.more).toArray.size))
      (fun fin s' => ∃ v, fin = PySem.Fin.done (Flow.ret v) ∧ v ≠ Value.notImplemented ∧ Q v s') E s := by
    have e2 : ∀ n, Tuple.tupleCompareSizes CmpOp.Lt n n = .bool false := fun n => by simp [Tuple.tupleCompareSizes]
    rw [e2]
    exact wpAny_pure ⟨_, rfl, (by intro e; cases e), h⟩
  rcases hm with hm | ⟨v, hm⟩
  · rw [hm] at fin ⊢
    simp only [List.zip_nil_left, List.forIn_nil]
    exact wpAny_pure fin
  · rw [hm] at fin ⊢
    simp only [List.zip_cons_cons, List.zip_nil_left, List.forIn_cons, List.forIn_nil]
    have hv : (v == v) = true := by simp
    have he : ∀ {Q' : Bool → Shared → Prop}, Q' true s → wpAny (model prog w) A.in1 (eqBool v v) Q' E s := fun hq => by
      unfold eqBool
      refine wpAny_holding ?_
      simp only [hv, if_true]
      exact wpAny_bind (wpAny_rule (wpAny_pure hq))
    refine wpAny_bind (wpAny_bind (he ?_))
    simp only [Bool.not_true, Bool.false_eq_true, if_false]
    exact wpAny_pure (wpAny_pure fin)
end
/-- an arrangement of a mapped list is the map of an arrangement -/
theorem perm_map {α β : Type} {f : α → β} : ∀ {ys : List β} {l : List α}, ys.Perm (l.map f) → ∃ l' : List α, l'.Perm l ∧ ys = l'.map f
  | [], l, h => by
    have : l = [] := by simpa using h.length_eq.symm
    subst this; exact ⟨[], .refl _, rfl⟩
  | y :: ys, l, h => by
    obtain ⟨a, ha, e⟩ := List.mem_map.mp (h.mem_iff.mp (List.mem_cons_self))
    obtain ⟨s, t, rfl⟩ := List.append_of_mem ha
    have p1 : (s ++ a :: t).Perm (a :: (s ++ t)) := List.perm_middle
    have h2 : (y :: ys).Perm (f a :: (s ++ t).map f) := h.trans (by simpa using p1.map f)
    rw [← e] at h2
    obtain ⟨l', h3, h4⟩ := perm_map h2.cons_inv
    exact ⟨a :: l', (h3.cons a).trans p1.symm, by rw [List.map_cons, ← h4, e]⟩
section
variable {prog : Program} {w : World} {A : Around} {E : Value → Shared → Prop} {s : Shared} {p : Program} {loose : List Str} {mg mb : Str → Option Value}
theorem cmpOk_its {t : Heap} {tbl : List Itm} (hi : ∀ i ∈ tbl, t.get? i.adr = some i.obj) (hm : ∀ i ∈ tbl, i.more = [] ∨ ∃ v, i.more = [v]) (hn : (tbl.map Itm.adr).Nodup) (ho : (tbl.map Itm.ord).Nodup) : CmpOk prog w t (vLt tbl) (tbl.map Itm.val) := by
  intro x hx y hy A E Q s hu hk h
  obtain ⟨a, ha, rfl⟩ := List.mem_map.mp hx
  obtain ⟨b, hb, rfl⟩ := List.mem_map.mp hy
  unfold vLt at h
  rw [lookI_mem hn ha, lookI_mem hn hb] at h
  by_cases e : a = b
  · subst e
    rw [ltI_self] at h
    exact lt_tuple_self (hm a ha) (hk _ _ (hi a ha)) hu h
  · have hne : a.ord ≠ b.ord := fun q => by
      obtain ⟨i, hi', rfl⟩ := List.getElem_of_mem ha
      obtain ⟨j, hj, rfl⟩ := List.getElem_of_mem hb
      have : i = j := by
        have := (List.getElem_inj (xs := tbl.map Itm.ord) (i := i) (j := j) (h₀ := by simpa using hi') (h₁ := by simpa using hj) ho).mp (by simpa using q)
        exact this
      subst this
      exact e rfl
    exact lt_tuple (hk _ _ (hi a ha)) (hk _ _ (hi b hb)) hne hu h
theorem hs_of {σ : Bool} {tbl its : List Itm} {k : Nat} (hn : (tbl.map Itm.adr).Nodup) (hs : ∀ i ∈ its, i ∈ tbl) (H : ∀ i, 0 < i → i < its.length → k ≤ (i - 1) / 2 → ilt σ (its.getD ((i - 1) / 2) itm0) (its.getD i itm0) = false) :
    Hs (if σ = true then vLt tbl else fun a b => vLt tbl b a) k (its.map Itm.val) := by
  intro i h0 h1 h2
  simp only [List.length_map] at h1
  have hm : ∀ j, j < its.length → lookI tbl ((its.map Itm.val).getD j .none) = its.getD j itm0 := fun j hj => by
    rw [val_getD hj]
    exact lookI_mem hn (hs _ (by simp [hj]))
  have := H i h0 h1 h2
  unfold ilt at this
  split
  · rename_i hσ
    rw [if_pos hσ] at this
    unfold vLt
    rw [hm _ (by lia), hm _ h1]; exact this
  · rename_i hσ
    rw [if_neg hσ] at this
    show vLt tbl _ _ = false
    unfold vLt
    rw [hm _ h1, hm _ (by lia)]; exact this
theorem of_hs {σ : Bool} {tbl its : List Itm} (hn : (tbl.map Itm.adr).Nodup) (hs : ∀ i ∈ its, i ∈ tbl) (H : Hs (if σ = true then vLt tbl else fun a b => vLt tbl b a) 0 (its.map Itm.val)) : HsI σ its := by
  intro i h0 h1
  have hm : ∀ j, j < its.length → lookI tbl ((its.map Itm.val).getD j .none) = its.getD j itm0 := fun j hj => by
    rw [val_getD hj]
    exact lookI_mem hn (hs _ (by simp [hj]))
  have := H i h0 (by simpa using h1) (by lia)
  unfold ilt
  split
  · rename_i hσ
    rw [if_pos hσ] at this
    unfold vLt at this
    rw [hm _ (by lia), hm _ h1] at this; exact this
  · rename_i hσ
    rw [if_neg hσ] at this
    replace this : vLt tbl _ _ = false := this
    unfold vLt at this
    rw [hm _ h1, hm _ (by lia)] at this; exact this

structure ItsG (s : Shared) (its : List Itm) : Prop where
  ob : ∀ i ∈ its, s.heap.get? i.adr = some i.obj
  mr : ∀ i ∈ its, i.more = [] ∨ ∃ v, i.more = [v]
  adr : (its.map Itm.adr).Nodup
  ord : (its.map Itm.ord).Nodup
theorem listNeItm {i : Itm} {xs : Array Value} {e : Nat} : listOf xs e ≠ i.obj := fun q => by
  have := congrArg Obj.cls q
  injection this with this
  exact absurd this (by decide)
theorem perm_of_val {its : List Itm} {ys : List Value} (h : ys.Perm (its.map Itm.val)) : ∃ its' : List Itm, its'.Perm its ∧ ys = its'.map Itm.val := perm_map h

theorem hideG {g h : Heap} {L D : Addr} {m : Str → Option Value} (F : Fr g L h m) (hgD : g.get? D = none) : (∀ b o, g.get? b = some o → (hideAll h [D]).get? b = some o) :=
  fun b o e => hideAll_get _ (F.keep b o e) (by simp; intro q; rw [q, hgD] at e; cases e)
theorem hpMaxI {g : Heap} {L D : Addr} {m : Str → Option Value} {its : List Itm} {e : Nat} {Q : Value → Shared → Prop}
    (G : Gd (hd.heap_1 w.params) p loose mg mb g) (F : Fr g L s.heap m) (hD : s.heap.get? D = some (listOf (its.map Itm.val).toArray e)) (hgD : g.get? D = none) (I : ItsG s its)
    (hsz : its.length < 900) (hroom : A.depth + 2 < recursionLimit) (hu : A.units + 150 < cLine) (hh : A.handled = none)
    (hq : ∀ s' its', KeepS [D] s s' → s'.heap.get? D = some (listOf (its'.map Itm.val).toArray e) → its'.Perm its → HsI true its' → Q .none s') :
    wpAny (model prog w) A (call (.ref 42) [.ref D]) Q E s := by
  have hnD : ∀ i ∈ its, i.adr ≠ D := fun i hi q => by have := I.ob i hi; rw [q, hD] at this; exact listNeItm (Option.some.inj this)
  refine hpMax_call (h₀ := hideAll s.heap [D]) (lt := vLt its) (vLt_swo its) (G.keeps (hideG F hgD)) (cmpOk_its (fun i hi => hideAll_get _ (I.ob i hi) (by simpa using hnD i hi)) I.mr I.adr I.ord)
    ⟨fun b o _ q => of_hideAll _ q, by rw [hideAll_size]; exact Nat.le_refl _⟩ (hideAll_none _ (by simp)) hD (by simpa using hsz) hroom hu hh fun s' k' hl' => ?_
  obtain ⟨h1, h2, h3⟩ := heapify_spec (vLt_swo its) (its.map Itm.val)
  obtain ⟨its', p', e'⟩ := perm_of_val h2
  rw [e'] at hl' h3
  exact hq s' its' k' hl' p' (of_hs (σ := true) I.adr (fun i hi => p'.mem_iff.mp hi) (by simpa using h3))
theorem hpMinI {g : Heap} {L D : Addr} {m : Str → Option Value} {its : List Itm} {e : Nat} {Q : Value → Shared → Prop}
    (G : Gd (hd.heap_1 w.params) p loose mg mb g) (F : Fr g L s.heap m) (hD : s.heap.get? D = some (listOf (its.map Itm.val).toArray e)) (hgD : g.get? D = none) (I : ItsG s its)
    (hsz : its.length < 900) (hroom : A.depth + 2 < recursionLimit) (hu : A.units + 150 < cLine) (hh : A.handled = none)
    (hq : ∀ s' its', KeepS [D] s s' → s'.heap.get? D = some (listOf (its'.map Itm.val).toArray e) → its'.Perm its → HsI false its' → Q .none s') :
    wpAny (model prog w) A (call (.ref 28) [.ref D]) Q E s := by
  have hnD : ∀ i ∈ its, i.adr ≠ D := fun i hi q => by have := I.ob i hi; rw [q, hD] at this; exact listNeItm (Option.some.inj this)
  refine hpMin_call (h₀ := hideAll s.heap [D]) (lt := vLt its) (vLt_swo its) (G.keeps (hideG F hgD)) (cmpOk_its (fun i hi => hideAll_get _ (I.ob i hi) (by simpa using hnD i hi)) I.mr I.adr I.ord)
    ⟨fun b o _ q => of_hideAll _ q, by rw [hideAll_size]; exact Nat.le_refl _⟩ (hideAll_none _ (by simp)) hD (by simpa using hsz) hroom hu hh fun s' k' hl' => ?_
  obtain ⟨h1, h2, h3⟩ := heapify_spec (vLt_swo its).flip (its.map Itm.val)
  obtain ⟨its', p', e'⟩ := perm_of_val h2
  rw [e'] at hl' h3
  exact hq s' its' k' hl' p' (of_hs (σ := false) I.adr (fun i hi => p'.mem_iff.mp hi) (by simpa using h3))
theorem hs_set {σ : Bool} {nw r : Itm} {rest : List Itm} (H : HsI σ (r :: rest)) : ∀ i, 0 < i → i < (nw :: rest).length → 1 ≤ (i - 1) / 2 → ilt σ ((nw :: rest).getD ((i - 1) / 2) itm0) ((nw :: rest).getD i itm0) = false := by
  intro i h0 h1 h2
  have := H i h0 (by simpa using h1)
  obtain ⟨j, hj⟩ : ∃ j, i = j + 1 := ⟨i - 1, by lia⟩
  obtain ⟨k, hk⟩ : ∃ k, (i - 1) / 2 = k + 1 := ⟨(i - 1) / 2 - 1, by lia⟩
  rw [hk, hj] at this ⊢
  simpa using this
theorem repMaxI {g : Heap} {L D : Addr} {m : Str → Option Value} {r nw : Itm} {rest : List Itm} {e : Nat} {Q : Value → Shared → Prop}
    (G : Gd (hd.heap_1 w.params) p loose mg mb g) (F : Fr g L s.heap m) (hD : s.heap.get? D = some (listOf ((r :: rest).map Itm.val).toArray e)) (hgD : g.get? D = none) (I : ItsG s (nw :: r :: rest)) (H : HsI true (r :: rest))
    (hsz : rest.length < 800) (hroom : A.depth + 2 < recursionLimit) (hu : A.units + 150 < cLine)
    (hq : ∀ s' its', KeepS [D] s s' → s'.heap.get? D = some (listOf (its'.map Itm.val).toArray e) → its'.Perm (nw :: rest) → HsI true its' → Q r.val s') :
    wpAny (model prog w) A (call (.ref 35) [.ref D, nw.val]) Q E s := by
  have hnD : ∀ i ∈ nw :: r :: rest, i.adr ≠ D := fun i hi q => by have := I.ob i hi; rw [q, hD] at this; exact listNeItm (Option.some.inj this)
  refine repMax_call (h₀ := hideAll s.heap [D]) (lt := vLt (nw :: r :: rest)) (G.keeps (hideG F hgD)) (cmpOk_its (tbl := nw :: r :: rest) (fun i hi => hideAll_get _ (I.ob i hi) (by simpa using hnD i hi)) I.mr I.adr I.ord)
    ⟨fun b o _ q => of_hideAll _ q, by rw [hideAll_size]; exact Nat.le_refl _⟩ (hideAll_none _ (by simp)) hD (by simp; lia) (by simp) hroom hu fun s' k' hl' => ?_
  have es : (((r :: rest).map Itm.val).set 0 nw.val) = (nw :: rest).map Itm.val := by simp
  rw [es] at hl'
  obtain ⟨h1, h2, h3⟩ := su_spec (vLt_swo (nw :: r :: rest)) (xs := (nw :: rest).map Itm.val) (pos := 0) (by simp)
  have sub : ∀ i ∈ nw :: rest, i ∈ nw :: r :: rest := fun i hi => by
    rcases List.mem_cons.mp hi with rfl | hi
    · exact .head _
    · exact .tail _ (.tail _ hi)
  have h4 := h3 (by have := hs_of (σ := true) (k := 1) I.adr sub (hs_set (nw := nw) H); simpa using this)
  obtain ⟨its', p', e'⟩ := perm_of_val h2
  rw [e'] at hl' h4
  exact hq s' its' k' hl' p' (of_hs (σ := true) I.adr (fun i hi => sub i (p'.mem_iff.mp hi)) (by simpa using h4))
theorem repMinI {g : Heap} {L D : Addr} {m : Str → Option Value} {r nw : Itm} {rest : List Itm} {e : Nat} {Q : Value → Shared → Prop}
    (G : Gd (hd.heap_1 w.params) p loose mg mb g) (F : Fr g L s.heap m) (hD : s.heap.get? D = some (listOf ((r :: rest).map Itm.val).toArray e)) (hgD : g.get? D = none) (I : ItsG s (nw :: r :: rest)) (H : HsI false (r :: rest))
    (hsz : rest.length < 800) (hroom : A.depth + 2 < recursionLimit) (hu : A.units + 150 < cLine)
    (hq : ∀ s' its', KeepS [D] s s' → s'.heap.get? D = some (listOf (its'.map Itm.val).toArray e) → its'.Perm (nw :: rest) → HsI false its' → Q r.val s') :
    wpAny (model prog w) A (call (.ref 21) [.ref D, nw.val]) Q E s := by
  have hnD : ∀ i ∈ nw :: r :: rest, i.adr ≠ D := fun i hi q => by have := I.ob i hi; rw [q, hD] at this; exact listNeItm (Option.some.inj this)
  refine repMin_call (h₀ := hideAll s.heap [D]) (lt := vLt (nw :: r :: rest)) (G.keeps (hideG F hgD)) (cmpOk_its (tbl := nw :: r :: rest) (fun i hi => hideAll_get _ (I.ob i hi) (by simpa using hnD i hi)) I.mr I.adr I.ord)
    ⟨fun b o _ q => of_hideAll _ q, by rw [hideAll_size]; exact Nat.le_refl _⟩ (hideAll_none _ (by simp)) hD (by simp; lia) (by simp) hroom hu fun s' k' hl' => ?_
  have es : (((r :: rest).map Itm.val).set 0 nw.val) = (nw :: rest).map Itm.val := by simp
  rw [es] at hl'
  obtain ⟨h1, h2, h3⟩ := su_spec (vLt_swo (nw :: r :: rest)).flip (xs := (nw :: rest).map Itm.val) (pos := 0) (by simp)
  have sub : ∀ i ∈ nw :: rest, i ∈ nw :: r :: rest := fun i hi => by
    rcases List.mem_cons.mp hi with rfl | hi
    · exact .head _
    · exact .tail _ (.tail _ hi)
  have h4 := h3 (by have := hs_of (σ := false) (k := 1) I.adr sub (hs_set (nw := nw) H); simpa using this)
  obtain ⟨its', p', e'⟩ := perm_of_val h2
  rw [e'] at hl' h4
  exact hq s' its' k' hl' p' (of_hs (σ := false) I.adr (fun i hi => sub i (p'.mem_iff.mp hi)) (by simpa using h4))
end
/-- the root of the items' heap -/
theorem hsI_root {σ : Bool} {its : List Itm} (H : HsI σ its) : ∀ i, i < its.length → ilt σ (its.getD 0 itm0) (its.getD i itm0) = false := by
  have nt : ∀ a b c, ilt σ a b = false → ilt σ b c = false → ilt σ a c = false := fun a b c h1 h2 => by
    unfold ilt at *
    split
    · rename_i hσ; rw [if_pos hσ] at h1 h2; exact ltI_swo.2 _ _ _ h1 h2
    · rename_i hσ; rw [if_neg hσ] at h1 h2; exact ltI_swo.2 _ _ _ h2 h1
  intro i
  induction i using Nat.strongRecOn with
  | ind i ih =>
    intro hi
    rcases Nat.lt_or_ge 0 i with h | h
    · exact nt _ _ _ (ih ((i - 1) / 2) (by lia) (by lia)) (H i h hi)
    · have : i = 0 := by lia
      subst this
      unfold ilt; split <;> exact ltI_self _
end
section
noncomputable def flt (σ : Bool) (bs : List (List UInt8)) (i j : Nat) : Bool := if σ = true then bLt bs i j else bLt bs j i
theorem flt_swn (σ : Bool) (bs : List (List UInt8)) : SWN (flt σ bs) := by
  unfold flt
  cases σ
  · exact ⟨fun a b => (b_swn bs).asymm _ _, fun a b c h1 h2 => (b_swn bs).ntrans _ _ _ h2 h1⟩
  · exact ⟨fun a b => (b_swn bs).asymm _ _, fun a b c h1 h2 => (b_swn bs).ntrans _ _ _ h1 h2⟩
noncomputable def ov (σ : Bool) (x : Int) : Int := if σ = true then x else -x
noncomputable abbrev Tg := Nat × Itm
/-- the best of the first j -/
structure Sel (f : Nat → Nat → Bool) (j : Nat) (q : List Nat) : Prop where
  lt : ∀ a ∈ q, a < j
  top : ∀ a ∈ q, ∀ b, b < j → b ∉ q → prec f a b
structure Hst (σ : Bool) (bs : List (List UInt8)) (R : Nat → Itm → Prop) (j : Nat) (order : Int) (tg : List Tg) : Prop where
  tag : ∀ x ∈ tg, R x.1 x.2
  ord : ∀ x ∈ tg, ∀ y ∈ tg, x.1 < y.1 → ov σ x.2.ord < ov σ y.2.ord
  bnd : ∀ x ∈ tg, ov σ x.2.ord < ov σ order
  nod : (tg.map Prod.fst).Nodup
  sel : Sel (flt σ bs) j (tg.map Prod.fst)
  hs : HsI σ (tg.map Prod.snd)
  adr : (tg.map fun x => x.2.adr).Nodup
theorem key_getD {bs : List (List UInt8)} {R : Nat → Itm → Prop} (hR : ∀ i it, R i it → it.key = bs.getD i []) {x : Tg} (h : R x.1 x.2) : x.2.key = bs.getD x.1 [] := hR _ _ h
theorem ilt_prec {σ : Bool} {bs : List (List UInt8)} {x y : Tg} (hx : x.2.key = bs.getD x.1 []) (hy : y.2.key = bs.getD y.1 []) (h1 : x.1 < y.1 → ov σ x.2.ord < ov σ y.2.ord) (h2 : y.1 < x.1 → ov σ y.2.ord < ov σ x.2.ord) (hne : x.1 ≠ y.1) :
    ilt σ x.2 y.2 = true ↔ prec (flt σ bs) x.1 y.1 := by
  have hlt : x.1 < y.1 ↔ ov σ x.2.ord < ov σ y.2.ord := ⟨h1, fun h => by
    rcases Nat.lt_or_ge x.1 y.1 with h' | h'
    · exact h'
    · have := h2 (by lia); lia⟩
  have hgt : y.1 < x.1 ↔ ov σ y.2.ord < ov σ x.2.ord := ⟨h2, fun h => by
    rcases Nat.lt_or_ge y.1 x.1 with h' | h'
    · exact h'
    · have := h1 (by lia); lia⟩
  unfold ilt prec flt bLt ltI
  rw [← hx, ← hy]
  cases σ
  · simp only [Bool.false_eq_true, if_false, Bool.or_eq_true, Bool.and_eq_true, beq_iff_eq, decide_eq_true_eq]
    unfold ov at hlt
    simp only [Bool.false_eq_true, if_false] at hlt
    constructor
    · rintro (h | ⟨e, h⟩)
      · exact .inl h
      · refine .inr ⟨by rw [e]; exact bo.irrefl _, by lia⟩
    · rintro (h | ⟨e, h⟩)
      · exact .inl h
      · cases q : blt y.2.key x.2.key with
        | true => exact .inl rfl
        | false => exact .inr ⟨bo.total _ _ q e, by lia⟩
  · simp only [if_true, Bool.or_eq_true, Bool.and_eq_true, beq_iff_eq, decide_eq_true_eq]
    unfold ov at hlt
    simp only [if_true] at hlt
    constructor
    · rintro (h | ⟨e, h⟩)
      · exact .inl h
      · refine .inr ⟨by rw [e]; exact bo.irrefl _, by lia⟩
    · rintro (h | ⟨e, h⟩)
      · exact .inl h
      · cases q : blt x.2.key y.2.key with
        | true => exact .inl rfl
        | false => exact .inr ⟨bo.total _ _ q e, by lia⟩
section
variable {σ : Bool} {bs : List (List UInt8)} {R : Nat → Itm → Prop} {j : Nat} {order : Int} {tg : List Tg}
theorem Hst.prec_iff (hR : ∀ i it, R i it → it.key = bs.getD i []) (H : Hst σ bs R j order tg) {x y : Tg} (hx : x ∈ tg) (hy : y ∈ tg) (hne : x.1 ≠ y.1) : ilt σ x.2 y.2 = true ↔ prec (flt σ bs) x.1 y.1 :=
  ilt_prec (hR _ _ (H.tag x hx)) (hR _ _ (H.tag y hy)) (H.ord x hx y hy) (H.ord y hy x hx) hne
theorem Hst.root {r : Tg} {rest : List Tg} (hR : ∀ i it, R i it → it.key = bs.getD i []) (H : Hst σ bs R j order (r :: rest)) : ∀ x ∈ rest, prec (flt σ bs) x.1 r.1 := by
  intro x hx
  have hn := H.nod
  rw [List.map_cons, List.nodup_cons] at hn
  have hne : x.1 ≠ r.1 := fun e => hn.1 (e ▸ List.mem_map.mpr ⟨x, hx, rfl⟩)
  obtain ⟨i, hi, rfl⟩ := List.getElem_of_mem hx
  have hr := hsI_root H.hs (i + 1) (by simpa using hi)
  simp only [List.map_cons, List.getD_cons_zero, List.getD_cons_succ] at hr
  have e1 : (List.map Prod.snd rest).getD i itm0 = rest[i].2 := by simp [hi]
  rw [e1] at hr
  rcases prec_total (flt_swn σ bs) hne with h | h
  · exact h
  · rw [(H.prec_iff hR (.head _) (.tail _ hx) (Ne.symm hne)).mpr h] at hr
    cases hr
theorem Hst.skip {r : Tg} {rest : List Tg} (hR : ∀ i it, R i it → it.key = bs.getD i []) (H : Hst σ bs R j order (r :: rest)) (h : flt σ bs j r.1 = false) : Hst σ bs R (j + 1) order (r :: rest) := by
  refine ⟨H.tag, H.ord, H.bnd, H.nod, ⟨fun a ha => Nat.lt_succ_of_lt (H.sel.lt a ha), fun a ha b hb hbq => ?_⟩, H.hs, H.adr⟩
  rcases Nat.lt_or_ge b j with hj | hj
  · exact H.sel.top a ha b hj hbq
  · have e : b = j := by lia
    subst e
    have hr : prec (flt σ bs) r.1 b := .inr ⟨h, H.sel.lt _ (List.mem_cons_self)⟩
    obtain ⟨x, hx, rfl⟩ := List.mem_map.mp ha
    rcases List.mem_cons.mp hx with rfl | hx
    · exact hr
    · exact prec_trans (flt_swn σ bs) (H.root hR x hx) hr
theorem Hst.swap {r : Tg} {rest tg' : List Tg} {nw : Itm} {order' : Int} (hR : ∀ i it, R i it → it.key = bs.getD i []) (H : Hst σ bs R j order (r :: rest)) (h : flt σ bs j r.1 = true) (hnw : R j nw) (ho : nw.ord = order) (ho' : ov σ order < ov σ order')
    (had : ∀ x ∈ r :: rest, x.2.adr ≠ nw.adr) (hp : tg'.Perm ((j, nw) :: rest)) (hs : HsI σ (tg'.map Prod.snd)) : Hst σ bs R (j + 1) order' tg' := by
  have hm : ∀ x, x ∈ tg' ↔ x = (j, nw) ∨ x ∈ rest := fun x => by rw [hp.mem_iff]; simp
  have hlt : ∀ x ∈ rest, x.1 < j := fun x hx => H.sel.lt _ (List.mem_map.mpr ⟨x, .tail _ hx, rfl⟩)
  have hn := H.nod
  rw [List.map_cons, List.nodup_cons] at hn
  have ha := H.adr
  rw [List.map_cons, List.nodup_cons] at ha
  refine ⟨fun x hx => ?_, fun x hx y hy hxy => ?_, fun x hx => ?_, ?_, ⟨fun a ha => ?_, fun a ha b hb hbq => ?_⟩, hs, ?_⟩
  · rcases (hm x).mp hx with rfl | hx
    · exact hnw
    · exact H.tag x (.tail _ hx)
  · rcases (hm x).mp hx with rfl | hx
    · rcases (hm y).mp hy with rfl | hy
      · exact absurd hxy (Nat.lt_irrefl _)
      · exact absurd hxy (Nat.not_lt.mpr (Nat.le_of_lt (hlt y hy)))
    · rcases (hm y).mp hy with rfl | hy
      · show ov σ x.2.ord < ov σ nw.ord
        rw [ho]; exact H.bnd x (.tail _ hx)
      · exact H.ord x (.tail _ hx) y (.tail _ hy) hxy
  · rcases (hm x).mp hx with rfl | hx
    · show ov σ nw.ord < _
      rw [ho]; exact ho'
    · have := H.bnd x (.tail _ hx); lia
  · have := (hp.map Prod.fst).nodup_iff.mpr
    refine this ?_
    rw [List.map_cons, List.nodup_cons]
    refine ⟨fun q => ?_, hn.2⟩
    obtain ⟨x, hx, e⟩ := List.mem_map.mp q
    have := hlt x hx
    have e : x.1 = j := e
    lia
  · obtain ⟨x, hx, rfl⟩ := List.mem_map.mp ha
    rcases (hm x).mp hx with rfl | hx
    · exact Nat.lt_succ_self _
    · exact Nat.lt_succ_of_lt (hlt x hx)
  · have hbr : b ∉ rest.map Prod.fst := fun q => by
      obtain ⟨x, hx, rfl⟩ := List.mem_map.mp q
      exact hbq (List.mem_map.mpr ⟨x, (hm x).mpr (.inr hx), rfl⟩)
    have hbj : b ≠ j := fun e => hbq (List.mem_map.mpr ⟨(j, nw), (hm _).mpr (.inl rfl), e.symm⟩)
    have hbj' : b < j := by lia
    have har : prec (flt σ bs) a r.1 := by
      obtain ⟨x, hx, rfl⟩ := List.mem_map.mp ha
      rcases (hm x).mp hx with rfl | hx
      · exact .inl h
      · exact H.root hR x hx
    by_cases e : b = r.1
    · subst e; exact har
    · exact prec_trans (flt_swn σ bs) har (H.sel.top r.1 (List.mem_cons_self) b hbj' (by simp only [List.map_cons, List.mem_cons, not_or]; exact ⟨e, hbr⟩))
  · refine (hp.map _).nodup_iff.mpr ?_
    rw [List.map_cons, List.nodup_cons]
    refine ⟨fun q => ?_, ha.2⟩
    obtain ⟨x, hx, e⟩ := List.mem_map.mp q
    exact had x (.tail _ hx) e
theorem Hst.ords (H : Hst σ bs R j order tg) : ((tg.map Prod.snd).map Itm.ord).Nodup := by
  rw [List.map_map]
  have h := H.nod
  rw [List.Nodup, List.pairwise_map] at h ⊢
  refine List.Pairwise.imp_of_mem (fun {a b} ha hb hne e => ?_) h
  have e : a.2.ord = b.2.ord := e
  rcases Nat.lt_or_gt_of_ne hne with q | q
  · have := H.ord a ha b hb q; rw [e] at this; lia
  · have := H.ord b hb a ha q; rw [e] at this; lia
/-- the start: the first items, in some order -/
theorem Hst.start {its its' : List Itm} {n : Int} (hok : ∀ k it, its[k]? = some it → R k it ∧ ov σ it.ord = k) (hn : (its.length : Int) ≤ ov σ n) (hadr : (its.map Itm.adr).Nodup) (hp : its'.Perm its) (hs : HsI σ its') :
    ∃ tg, tg.map Prod.snd = its' ∧ Hst σ bs R its.length n tg := by
  have e0 : ((List.range its.length).zip its).map Prod.snd = its := by rw [List.map_snd_zip]; simp
  have e1 : ((List.range its.length).zip its).map Prod.fst = List.range its.length := by rw [List.map_fst_zip]; simp
  obtain ⟨tg, h1, h2⟩ := perm_map (f := Prod.snd) (l := (List.range its.length).zip its) (ys := its') (by rw [e0]; exact hp)
  have hmem : ∀ x ∈ tg, its[x.1]? = some x.2 := fun x hx => by
    obtain ⟨i, hi, e⟩ := List.getElem_of_mem (h1.mem_iff.mp hx)
    rw [← e]
    simp at hi ⊢
  have hf : (tg.map Prod.fst).Perm (List.range its.length) := e1 ▸ h1.map Prod.fst
  refine ⟨tg, h2.symm, fun x hx => (hok _ _ (hmem x hx)).1, fun x hx y hy h => ?_, fun x hx => ?_, hf.nodup_iff.mpr List.nodup_range, ⟨fun a ha => by simpa using hf.mem_iff.mp ha, fun a ha b hb hbq => absurd (hf.mem_iff.mpr (by simpa using hb)) hbq⟩, h2 ▸ hs, ?_⟩
  · rw [(hok _ _ (hmem x hx)).2, (hok _ _ (hmem y hy)).2]; lia
  · rw [(hok _ _ (hmem x hx)).2]
    have := (List.getElem?_eq_some_iff.mp (hmem x hx)).1
    lia
  · have : (tg.map fun x => x.2.adr) = its'.map Itm.adr := by rw [h2, List.map_map]; rfl
    rw [this]
    exact (hp.map _).nodup_iff.mpr hadr
noncomputable def tg0 : Tg := (0, itm0)
/-- the end: sorted, they are the first of the stable arrangement -/
theorem Hst.fin {N : Nat} {P q : List Nat} (hR : ∀ i it, R i it → it.key = bs.getD i []) (H : Hst σ bs R N order tg) (hP : Stable (flt σ bs) N P) (hq : q.Perm (List.range tg.length))
    (hs : q.Pairwise fun a b => ilt σ (tg.getD a tg0).2 (tg.getD b tg0).2 = true) : q.map (fun i => (tg.getD i tg0).1) = P.take tg.length := by
  have hlt : ∀ a ∈ q, a < tg.length := fun a ha => by simpa using hq.mem_iff.mp ha
  have hget : ∀ a, a < tg.length → tg.getD a tg0 ∈ tg := fun a ha => by simp [ha]
  have hperm : (q.map fun i => (tg.getD i tg0).1).Perm (tg.map Prod.fst) := by
    refine (hq.map _).trans ?_
    have : (List.range tg.length).map (fun i => (tg.getD i tg0).1) = tg.map Prod.fst := by
      refine List.ext_getElem (by simp) (fun i h1 h2 => ?_)
      simp at h1
      simp [h1]
    rw [this]
  have hnd : q.Nodup := hq.nodup_iff.mpr List.nodup_range
  have hp : (q.map fun i => (tg.getD i tg0).1).Pairwise (prec (flt σ bs)) := by
    rw [List.pairwise_map]
    refine List.Pairwise.imp_of_mem (fun {a b} ha hb h => ?_) (hs.and hnd)
    refine (H.prec_iff hR (hget a (hlt a ha)) (hget b (hlt b hb)) (fun e => h.2 ?_)).mp h.1
    have ha' := hlt a ha
    have hb' := hlt b hb
    have := (List.getElem_inj (xs := tg.map Prod.fst) (i := a) (j := b) (h₀ := by simpa using ha') (h₁ := by simpa using hb') H.nod).mp (by simpa [ha', hb'] using e)
    exact this
  have := take_unique (flt_swn σ bs) hP hp (fun a ha => H.sel.lt a (hperm.mem_iff.mp ha)) (fun a ha b hb hbq => H.sel.top a (hperm.mem_iff.mp ha) b hb (fun h => hbq (hperm.mem_iff.mpr h)))
  rw [this]
  congr 1
  simpa using hq.length_eq
end
end
section
section
variable {prog : Program} {w : World} {A : Around} {E : Value → Shared → Prop} {s : Shared}
theorem newTup {M : Model} {vs : List Value} {Q : Value → Shared → Prop} (h : Q (.ref s.heap.objs.size) { s with heap := s.heap.push (tupO vs) }) (hz : vs.length ≤ 1000) : wpAny M A (newTuple vs) Q E s :=
  wpAny_newObj_type h (by show vs.toArray.size ≤ sizeLine; rw [List.size_toArray, sizeLine_eq]; omega)
/-- (key(elem), i, elem) in a comprehension's block -/
theorem eltK {env : Env} {t gc : Heap} {C c q : Addr} {oc : Obj} {m : Str → Option Value} {i : Int} {tt : Tok} {v : Value} {vs : List Value} {kf : Value → List UInt8} {p1 p2 p3 p4 p5 p6 : Pos} {kk : Nat} {Q : Value → Shared → Prop}
    (hk : env.scope.kind = .function) (hC : env.locals = C) (hi : env.kindOf (Str.ofString "i") = some .local) (he : env.kindOf (Str.ofString "elem") = some .local) (hky : env.kindOf (Str.ofString "key") = some .cell) (hcl : env.cells.lookup (Str.ofString "key") = some c)
    (F : Fr gc C s.heap m) (hg : Keep [] t gc) (K : KeyOk prog w t (.ref q) vs kf) (hfn : FnAt q t) (hoc : gc.get? c = some oc) (hocd : oc.data = .cell (some (.ref q)))
    (mi : m (Str.ofString "i") = some (.int i tt)) (me : m (Str.ofString "elem") = some v) (hv : v ∈ vs) (hu : A.units + 300 < cLine) (hd : A.depth + 10 < recursionLimit) (hh : A.handled = none)
    (hQ : ∀ (it : Itm) s'', it.key = kf v → it.ord = i → it.more = [v] → s''.heap.get? it.adr = some it.obj → s.heap.get? it.adr = none → (∀ b o, s.heap.get? b = some o → s''.heap.get? b = some o) → s''.gens = s.gens → s''.os = s.os → Q it.val s'') :
    wpAny (model prog w) A (eval (.Tuple [.Call (.Name (Str.ofString "key") p1) [.Name (Str.ofString "elem") p2] [] p3, .Name (Str.ofString "i") p4, .Name (Str.ofString "elem") p5] kk p6) env) Q E s := by
  subst hC
  have hg' : Keep [] t s.heap := hg.trans (keepFr F)
  have hfn' : ∀ {h : Heap}, Keep [] t h → FnAt q h := fun k => by
    obtain ⟨a, b, c, d, e⟩ := hfn
    exact ⟨a, b, c, d, k.get _ _ (by simp) e⟩
  refine Tuple_ (spliced_more (Call_ (wpAny_Name (wpAny_loadName_cell hk hky hcl ⟨oc, F.keep _ _ hoc, hocd⟩ ?_))))
  refine callWith_F (hfn' hg') (spliced_more (wpAny_Name (wpAny_loadName_local hk he F.ns me (spliced_none ⟨hfn' hg', ?_⟩))))
  refine K v hv A E _ s hu hd hh hg' fun s' tk k' => ?_
  have F' := frKeep F k'.keep (by simp) (by simp)
  refine spliced_more (wpAny_Name (wpAny_loadName_local hk hi F'.ns mi ?_))
  refine spliced_more (wpAny_Name (wpAny_loadName_local hk he F'.ns me ?_))
  refine spliced_none ?_
  refine newTup ?_ (by simp)
  exact hQ ⟨s'.heap.objs.size, kf v, i, tk, tt, [v]⟩ _ rfl rfl rfl (Heap.get?_push_size _ rfl) (Heap.get?_none_of_le k'.keep.size) (fun b o e => Heap.get?_push_of_some _ (k'.keep.get b o (by simp) e)) k'.gens k'.os
/-- (elem, i) in a comprehension's block -/
theorem eltW {env : Env} {gc : Heap} {C : Addr} {m : Str → Option Value} {i : Int} {tt tv : Tok} {b : List UInt8} {p4 p5 p6 : Pos} {kk : Nat} {Q : Value → Shared → Prop}
    (hk : env.scope.kind = .function) (hC : env.locals = C) (hi : env.kindOf (Str.ofString "i") = some .local) (he : env.kindOf (Str.ofString "elem") = some .local)
    (F : Fr gc C s.heap m)
    (mi : m (Str.ofString "i") = some (.int i tt)) (me : m (Str.ofString "elem") = some (.bytes b.toArray tv))
    (hQ : ∀ (it : Itm) s'', it.key = b → it.ord = i → it.more = [] → it.t = tv → s''.heap.get? it.adr = some it.obj → s.heap.get? it.adr = none → (∀ b o, s.heap.get? b = some o → s''.heap.get? b = some o) → s''.gens = s.gens → s''.os = s.os → Q it.val s'') :
    wpAny (model prog w) A (eval (.Tuple [.Name (Str.ofString "elem") p5, .Name (Str.ofString "i") p4] kk p6) env) Q E s := by
  subst hC
  refine Tuple_ (spliced_more (wpAny_Name (wpAny_loadName_local hk he F.ns me ?_)))
  refine spliced_more (wpAny_Name (wpAny_loadName_local hk hi F.ns mi ?_))
  refine spliced_none ?_
  refine newTup ?_ (by simp)
  exact hQ ⟨s.heap.objs.size, b, i, tv, tt, []⟩ _ rfl rfl rfl rfl (Heap.get?_push_size _ rfl) (Heap.get?_none_of_le (Nat.le_refl _)) (fun b o e => Heap.get?_push_of_some _ e) rfl rfl
theorem rsize_ (n : Int) : Builtin.Range.rangeSize 0 n 1 = max n 0 := by
  unfold Builtin.Range.rangeSize; split <;> (try split) <;> omega
theorem hsmall_ {n : Int} (h : -1000 ≤ n ∧ n ≤ 1000) : Builtin.Range.small 0 n 1 = true := by
  exact small_one (by decide) (by decide) (by omega) (by omega)
/-- zip(range, iterator), with what is unlike -/
theorem zipCall {r J l : Addr} {a b c : Int} {t u v : Tok} {vs : Array Value} {Q : Value → Shared → Prop} (hr : IsRange s.heap r a b c t u v) (hi : s.heap.IsListIter J l 0) (hl : s.heap.IsList l vs) (hsmall : Builtin.Range.small a b c = true)
    (h : ∀ z TI TO i1 h', ZA z TI TO i1 J l → l ≠ J → l ≠ TI → IsZip h' z TI TO .none → IsPair h' TI (.ref i1) (.ref J) → IsPair h' TO .none .none → IsRangeIter h' i1 a (Builtin.Range.rangeSize a b c) c →
      (∀ x o, s.heap.get? x = some o → h'.get? x = some o ∧ x ≠ z ∧ x ≠ TI ∧ x ≠ TO ∧ x ≠ i1) → Q (.ref z) { s with heap := h' }) : wpAny (model prog w) A (call (.type "zip") [.ref r, .ref J]) Q E s := by
  obtain ⟨oJ, hJ, hcJ, hdJ⟩ := id hi
  obtain ⟨ol, hol, hcl, nl, hdl⟩ := id hl
  have ltJ : J < s.heap.objs.size := Heap.lt_size hJ
  have ltl : l < s.heap.objs.size := Heap.lt_size hol
  have hlJ : l ≠ J := neData hol hJ (by rw [hdl, hdJ]; intro e; cases e)
  refine call_zipR hr hi hsmall fun h' h1 h2 h3 h4 _ k => ?_
  have go : ∀ S : Nat, (∀ x o, s.heap.get? x = some o → x < S) → S = s.heap.objs.size → Q (.ref (s.heap.objs.size + 3)) { s with heap := h' } := fun S hS e => by
    subst e
    have ne : ∀ x : Nat, x < s.heap.objs.size → x ≠ s.heap.objs.size ∧ x ≠ s.heap.objs.size + 1 ∧ x ≠ s.heap.objs.size + 2 ∧ x ≠ s.heap.objs.size + 3 := fun x hx => by omega
    have q : ∀ S : Nat, S + 1 ≠ S + 3 ∧ S + 2 ≠ S + 3 ∧ S ≠ S + 3 ∧ S + 1 ≠ S + 2 ∧ S + 1 ≠ S ∧ S + 2 ≠ S := fun S => by omega
    have qq := q s.heap.objs.size
    have nJ := ne J ltJ
    have nl := ne l ltl
    refine h _ _ _ _ h' ⟨qq.1, qq.2.1, qq.2.2.1, nJ.2.2.2, qq.2.2.2.1, qq.2.2.2.2.1, Ne.symm nJ.2.1, qq.2.2.2.2.2, Ne.symm nJ.2.2.1, Ne.symm nJ.1, nl.2.2.2, nl.2.2.1, nl.1, hlJ⟩ hlJ nl.2.1 h1 h2 h3 h4 fun x o e => ⟨k x o e, ?_⟩
    have := ne x (hS x o e)
    exact ⟨this.2.2.2, this.2.1, this.2.2.1, this.1⟩
  exact go _ (fun x o e => Heap.lt_size e) rfl
theorem pyIter_li {it : Addr} {o : Obj} {Q : Value → Shared → Prop} (ho : s.heap.get? it = some o) (hc : o.cls = .type "list_iterator") (h : Q (.ref it) s) : wpAny (model prog w) A (pyIter (.ref it)) Q E s := by
  have hT : s.TypeIs (.ref it) "list_iterator" := ⟨o, ho, hc⟩
  refine wpAny_pyIter_slot hT slot_listiter_iter (wpAny_call_entry slot_listiter_iter hT entry_listiter_iter ?_ (args_listiter_iter _))
  show wpAny _ _ (ret (.ref it)) _ _ s
  exact wpAny_pure ⟨_, rfl, "list_iterator", _, hT, slot_listiter_next.lookup, h⟩
/-- the word of an item -/
theorem itm_first {value slice : Expr} {i : Itm} {u : Tok} {Q : Value → Shared → Prop} (hi : s.heap.get? i.adr = some i.obj) (h : Q (.bytes i.key.toArray i.t) s)
    (hs : subscripted slice false (.ref i.adr) (.int 0 u) = operate [.ref i.adr, .int 0 u] (getItem (.ref i.adr) (.int 0 u)) := by with_unfolding_all rfl) :
    wpAny (model prog w) A (subscriptTail value slice (.ref i.adr) (.int 0 u)) Q E s :=
  kba_turn (value' := .Name (Str.ofString "_") ⟨0, 0, 0, 0⟩) (fun _ => rfl)
    (item_tupleL (l := .bytes i.key.toArray i.t :: .int i.ord i.u :: i.more) (j := 0) (x := .bytes i.key.toArray i.t) ⟨_, hi, rfl, _, rfl⟩ (by decide) (by decide) (by simp [seqIndex?]; omega) rfl h hs (fun _ => rfl))
theorem callWith_Fg {env : Env} {pos : Pos} {q : Addr} {Q : Value → Shared → Prop} {g : Heap} {L : Addr} {m : Str → Option Value} {e : Expr} {rest : List Expr} (hfn : FnAt q g) (F : Fr g L s.heap m)
    (h : wpAny (model prog w) A (spliced (backTo pos (starEach (e :: rest) env))) (fun vs s₁ => KeptAnd g s₁ (wpAny (model prog w) A (call (.ref q) vs) Q E s₁)) E s)
    (he : starEach (e :: rest) env = (false, eval e env) :: starEach rest env := by rfl) (hplain : (backTo pos (starEach rest env)).any (·.1) = false := by rfl) :
    wpAny (model prog w) A (callWith pos (.ref q) [] (backTo pos (starEach (e :: rest) env)) []) Q E s := by
  obtain ⟨a, b, c, d, e'⟩ := hfn
  exact callWith_F ⟨a, b, c, d, F.keep _ _ e'⟩ (wpAny_mono h (fun _ _ x => ⟨⟨a, b, c, d, x.1 _ _ e'⟩, x.2⟩) fun _ _ x => x) he hplain
theorem iaddOne {x : Int} {t u : Tok} {Q : Value → Shared → Prop} (h : Q (.int (x + 1) s.toks) { s with toks := s.toks + 1 }) : wpAny (model prog w) A (inplaceOp .Add (.int x t) (.int 1 u)) Q E s := PyProof.Rows.iadd_int h
end
theorem ord_nodup {σ : Bool} {its : List Itm} (h : ∀ (k : Nat) it, its[k]? = some it → ov σ it.ord = (k : Int)) : (its.map Itm.ord).Nodup := by
  rw [List.Nodup, List.pairwise_map, List.pairwise_iff_getElem]
  intro i j hi hj hij e
  have h1 := h i _ (List.getElem?_eq_getElem hi)
  have h2 := h j _ (List.getElem?_eq_getElem hj)
  rw [e, h2] at h1
  omega
/-- the loop of the heap path -/
structure LpSt (g : Heap) (L Lw D J l : Addr) (oc ow : Obj) (σ : Bool) (bs : List (List UInt8)) (R : Nat → Itm → Prop) (N cnt : Nat) (gone : Prop) (hr : Addr) (s0 : Shared) (j : Nat) (tg : List Tg) (order : Int) (m : Str → Option Value) (s : Shared) : Prop where
  fr : Fr g L s.heap m
  cell : s.heap.get? (L + 1) = some oc
  low : s.heap.get? Lw = some ow
  lst : ∃ e, s.heap.get? D = some (listOf ((tg.map Prod.snd).map Itm.val).toArray e)
  its : ∀ x ∈ tg, s.heap.get? x.2.adr = some x.2.obj ∧ x.2.adr ≠ L ∧ g.get? x.2.adr = none
  isGone : gone → Gone s.heap J ∧ j = N
  notGone : ¬ gone → s.heap.IsListIter J l j
  hst : Hst σ bs R j order tg
  len : tg.length = cnt
  mres : m (Str.ofString "result") = some (.ref D)
  mtop : ∃ t, m (Str.ofString "top") = some (.bytes (tg.getD 0 tg0).2.key.toArray t)
  mord : ∃ t, m (Str.ofString "order") = some (.int order t)
  mhr : m (Str.ofString "_heapreplace") = some (.ref hr)
  jle : j ≤ N
  gens : s.gens = s0.gens
  os : s.os = s0.os
section
variable {prog : Program} {w : World} {A : Around} {E : Value → Shared → Prop} {s : Shared}
variable {g : Heap} {L Lw D J l : Addr} {oc ow : Obj} {σ : Bool} {bs : List (List UInt8)} {R : Nat → Itm → Prop} {cnt : Nat} {gone : Prop} {hr : Addr} {s0 : Shared} {j : Nat} {tg : List Tg} {order : Int} {m : Str → Option Value} {vs : List Value}
theorem LpSt.objJ (Z : LpSt g L Lw D J l oc ow σ bs R vs.length cnt gone hr s0 j tg order m s) : ∃ oJ fs, s.heap.get? J = some oJ ∧ oJ.data = .fields fs := by
  by_cases h : gone
  · obtain ⟨o, vs', h1, h2, h3, h4⟩ := (Z.isGone h).1
    exact ⟨o, vs', h1, h3⟩
  · obtain ⟨o, h1, h2, h3⟩ := Z.notGone h
    exact ⟨o, _, h1, h3⟩
theorem LpSt.neJ (Z : LpSt g L Lw D J l oc ow σ bs R vs.length cnt gone hr s0 j tg order m s) {b : Addr} {o : Obj} (h : s.heap.get? b = some o) (hd : ∀ fs, o.data ≠ .fields fs) : b ≠ J := by
  obtain ⟨oJ, fs, h1, h2⟩ := Z.objJ
  exact neData h h1 (by rw [h2]; exact hd fs)
theorem LpSt.next {Q : Option Value → Shared → Prop} (Z : LpSt g L Lw D J l oc ow σ bs R vs.length cnt gone hr s0 j tg order m s) (hh : A.handled = none) (hgl : g.IsList l vs.toArray)
    (hend : j = vs.length → ∀ h', (∀ b o, b ≠ J → s.heap.get? b = some o → h'.get? b = some o) → Q none { s with heap := h' })
    (hitem : ∀ v h', ¬ gone → vs[j]? = some v → h'.IsListIter J l (j + 1) → Heap.SameBut J s.heap h' → Q (some v) { s with heap := h' }) :
    wpAny (model prog w) A (pyNext (.ref J)) Q NoE s := by
  have hl : s.heap.IsList l vs.toArray := by
    obtain ⟨ol, h1, h2⟩ := hgl
    exact ⟨ol, Z.fr.keep _ _ h1, h2⟩
  by_cases h : gone
  · exact pyNext_gone hh (Z.isGone h).1 fun h' k => hend (Z.isGone h).2 h' fun b o _ e => k b o e
  · by_cases hj : j < vs.length
    · obtain ⟨v, hv⟩ : ∃ v, vs[j]? = some v := ⟨_, List.getElem?_eq_getElem hj⟩
      exact wpAny_pyNext_list_item (Z.notGone h) hl (x := v) (by simpa using hv) fun h' h1 h2 => hitem v h' h hv h1 h2
    · have ej : j = vs.length := by have := Z.jle; omega
      exact wpAny_pyNext_list_end hh (Z.notGone h) hl (by simp; omega) fun h' h1 => hend ej h' fun b o hb e => h1 b o hb e
theorem Hst.itsG {tg : List Tg} {nw : Itm} (H : Hst σ bs R j order tg) (hmr : ∀ i it, R i it → it.more = [] ∨ ∃ v, it.more = [v]) (ob : ∀ x ∈ tg, s.heap.get? x.2.adr = some x.2.obj) (hnw : s.heap.get? nw.adr = some nw.obj)
    (hm : nw.more = [] ∨ ∃ v, nw.more = [v]) (ho : nw.ord = order) (had : ∀ x ∈ tg, x.2.adr ≠ nw.adr) : ItsG s (nw :: tg.map Prod.snd) := by
  refine ⟨fun i hi => ?_, fun i hi => ?_, ?_, ?_⟩
  · rcases List.mem_cons.mp hi with rfl | hi
    · exact hnw
    · obtain ⟨x, hx, rfl⟩ := List.mem_map.mp hi; exact ob x hx
  · rcases List.mem_cons.mp hi with rfl | hi
    · exact hm
    · obtain ⟨x, hx, rfl⟩ := List.mem_map.mp hi; exact hmr _ _ (H.tag x hx)
  · rw [List.map_cons, List.nodup_cons, List.map_map]
    refine ⟨fun q => ?_, H.adr⟩
    obtain ⟨x, hx, e⟩ := List.mem_map.mp q
    exact had x hx e
  · rw [List.map_cons, List.nodup_cons]
    refine ⟨fun q => ?_, H.ords⟩
    rw [List.map_map] at q
    obtain ⟨x, hx, e⟩ := List.mem_map.mp q
    have e : x.2.ord = nw.ord := e
    have := H.bnd x hx
    rw [e, ho] at this
    omega
theorem Hst.total {tg : List Tg} (hR : ∀ i it, R i it → it.key = bs.getD i []) (H : Hst σ bs R j order tg) {a b : Nat} (ha : a < tg.length) (hb : b < tg.length) (hne : a ≠ b) : ilt σ (tg.getD a tg0).2 (tg.getD b tg0).2 = true ∨ ilt σ (tg.getD b tg0).2 (tg.getD a tg0).2 = true := by
  have hget : ∀ a, a < tg.length → tg.getD a tg0 ∈ tg := fun a ha => by simp [ha]
  have hne' : (tg.getD a tg0).1 ≠ (tg.getD b tg0).1 := fun e => hne ((List.getElem_inj (xs := tg.map Prod.fst) (i := a) (j := b) (h₀ := by simpa using ha) (h₁ := by simpa using hb) H.nod).mp (by simpa [ha, hb] using e))
  rcases prec_total (flt_swn σ bs) hne' with h | h
  · exact .inl ((H.prec_iff hR (hget a ha) (hget b hb) hne').mpr h)
  · exact .inr ((H.prec_iff hR (hget b hb) (hget a ha) (Ne.symm hne')).mpr h)
structure LastOk (tg : List Tg) (P : List Nat) (q : List Nat) : Prop where
  perm : q.Perm (List.range tg.length)
  tak : q.map (fun i => (tg.getD i tg0).1) = P.take tg.length
theorem LastOk.mem {tg : List Tg} {P q : List Nat} (h : LastOk tg P q) : ∀ it ∈ q.map (fun i => (tg.getD i tg0).2), ∃ x ∈ tg, it = x.2 := fun it hit => by
  obtain ⟨i, hi, rfl⟩ := List.mem_map.mp hit
  have : i < tg.length := by simpa using h.perm.mem_iff.mp hi
  exact ⟨tg.getD i tg0, by simp [this], rfl⟩
theorem LastOk.vals {tg : List Tg} {P q : List Nat} (h : LastOk tg P q) : q.map (fun i => ((tg.map Prod.snd).map Itm.val).getD i Value.none) = (q.map (fun i => (tg.getD i tg0).2)).map Itm.val := by
  have e : (q.map (fun i => (tg.getD i tg0).2)).map Itm.val = q.map (fun i => (tg.getD i tg0).2.val) := by rw [List.map_map]; rfl
  rw [e]
  refine List.map_congr_left fun i hi => ?_
  have : i < tg.length := by simpa using h.perm.mem_iff.mp hi
  simp [this]
theorem LastOk.len {tg : List Tg} {P q : List Nat} (h : LastOk tg P q) : (q.map (fun i => (tg.getD i tg0).2)).length = tg.length := by
  have := h.perm.length_eq; simpa using this
theorem LastOk.out {tg : List Tg} {P q : List Nat} {out : Itm → Value} (h : LastOk tg P q) (ho : ∀ x ∈ tg, out x.2 = vs.getD x.1 Value.none) : (q.map (fun i => (tg.getD i tg0).2)).map out = (P.take tg.length).map fun i => vs.getD i Value.none := by
  rw [← h.tak, List.map_map, List.map_map]
  refine List.map_congr_left fun i hi => ?_
  have : i < tg.length := by simpa using h.perm.mem_iff.mp hi
  exact ho _ (by simp [this])
theorem ixLt_tg {tg : List Tg} {a b : Nat} (ha : a < tg.length) (hb : b < tg.length) : ixLt (tg.map Prod.snd) a b = ltI (tg.getD a tg0).2 (tg.getD b tg0).2 := by
  unfold ixLt
  simp [ha, hb]
theorem Hst.lastMax {N : Nat} {tg : List Tg} {P p : List Nat} (hR : ∀ i it, R i it → it.key = bs.getD i []) (H : Hst true bs R N order tg) (hP : Stable (flt true bs) N P) (hp : Stable (ixLt (tg.map Prod.snd)) tg.length p) : LastOk tg P p := by
  refine ⟨hp.perm, H.fin hR hP hp.perm ?_⟩
  have hnd : p.Nodup := hp.perm.nodup_iff.mpr List.nodup_range
  refine List.Pairwise.imp_of_mem (fun {a b} ha hb h => ?_) (hp.sorted.and hnd)
  have ha' : a < tg.length := by simpa using hp.perm.mem_iff.mp ha
  have hb' : b < tg.length := by simpa using hp.perm.mem_iff.mp hb
  rcases H.total hR ha' hb' h.2 with q | q
  · exact q
  · have := prec_nlt (ix_swn _) h.1
    rw [ixLt_tg hb' ha'] at this
    have q : ltI (tg.getD b tg0).2 (tg.getD a tg0).2 = true := q
    rw [q] at this; cases this
theorem rev_getD' {α : Type} {l : List α} {i : Nat} {d : α} (h : i < l.length) : l.reverse.getD i d = l.getD (l.length - 1 - i) d := by
  rw [List.getD_eq_getElem?_getD, List.getD_eq_getElem?_getD, List.getElem?_reverse h]
theorem Hst.lastMin {N : Nat} {tg : List Tg} {P p : List Nat} (hR : ∀ i it, R i it → it.key = bs.getD i []) (H : Hst false bs R N order tg) (hP : Stable (flt false bs) N P) (hp : Stable (ixLt (tg.map Prod.snd).reverse) tg.length p) :
    LastOk tg P (p.map fun i => tg.length - 1 - i).reverse ∧ (p.map fun i => ((tg.map Prod.snd).reverse.map Itm.val).getD i Value.none).reverse = (p.map fun i => tg.length - 1 - i).reverse.map (fun i => ((tg.map Prod.snd).map Itm.val).getD i Value.none) := by
  have hlt : ∀ i ∈ p, i < tg.length := fun i hi => by simpa using hp.perm.mem_iff.mp hi
  have hq : (p.map fun i => tg.length - 1 - i).reverse.Perm (List.range tg.length) := by
    refine (List.reverse_perm _).trans ((hp.perm.map _).trans ?_)
    have e : (List.range tg.length).map (fun i => tg.length - 1 - i) = (List.range tg.length).reverse := by
      refine List.ext_getElem (by simp) (fun i h1 h2 => ?_)
      simp [List.getElem_reverse]
    rw [e]
    exact List.reverse_perm _
  refine ⟨⟨hq, H.fin hR hP hq ?_⟩, ?_⟩
  · rw [List.pairwise_reverse, List.pairwise_map]
    have hnd : p.Nodup := hp.perm.nodup_iff.mpr List.nodup_range
    refine List.Pairwise.imp_of_mem (fun {a b} ha hb h => ?_) (hp.sorted.and hnd)
    have ha' := hlt a ha
    have hb' := hlt b hb
    rcases H.total hR (a := tg.length - 1 - a) (b := tg.length - 1 - b) (by omega) (by omega) (by have := h.2; omega) with q | q
    · have := prec_nlt (ix_swn _) h.1
      have e : ixLt (tg.map Prod.snd).reverse b a = ltI (tg.getD (tg.length - 1 - b) tg0).2 (tg.getD (tg.length - 1 - a) tg0).2 := by
        unfold ixLt
        rw [rev_getD' (by simpa using hb'), rev_getD' (by simpa using ha')]
        have h1 : tg.length - 1 - b < tg.length := by omega
        have h2 : tg.length - 1 - a < tg.length := by omega
        simp [h1, h2]
      rw [e] at this
      have q : ltI (tg.getD (tg.length - 1 - b) tg0).2 (tg.getD (tg.length - 1 - a) tg0).2 = true := q
      rw [q] at this; cases this
    · exact q
  · have e : (p.map fun i => tg.length - 1 - i).reverse.map (fun i => ((tg.map Prod.snd).map Itm.val).getD i Value.none) = (p.map fun i => ((tg.map Prod.snd).map Itm.val).getD (tg.length - 1 - i) Value.none).reverse := by
      rw [List.map_reverse, List.map_map]; rfl
    rw [e]
    congr 1
    refine List.map_congr_left fun i hi => ?_
    have hi' := hlt i hi
    rw [List.map_reverse, rev_getD' (by simpa using hi')]
    simp
end
end
section
section
variable {prog : Program} {w : World} {A : Around} {E : Value → Shared → Prop} {s : Shared}
/-- range(0, -n, -1) -/
theorem range3_ {g : Heap} {L : Addr} {m : Str → Option Value} {news : List (Addr × Obj)} {n : Int} {t0 t t1 : Tok} {Q : Value → Shared → Prop} (_ : -1000 ≤ n ∧ n ≤ 1000) (F : Fr g L s.heap m) (N : News g L s.heap news)
    (h : ∀ r h' tk t1 t2, Fr g L h' m → News g L h' ((r, { cls := .type "range", data := .fields #[.int 0 t1, .int n t, .int (-1) t2] }) :: news) → (∀ q ∈ news, q.1 ≠ r) → Q (.ref r) { s with heap := h', toks := tk }) :
    wpAny (model prog w) A (call (.type "range") [.int 0 t0, .int n t, .int (-1) t1]) Q E s :=
  call_range_3 (by decide) (h _ _ _ _ _ (F.push _) (N.push F _) (newsNe N)) (Or.inl (PyProof.noPylong_small (by omega)))
theorem rsize3_ (n : Int) : Builtin.Range.rangeSize 0 (-n) (-1) = max n 0 := by
  unfold Builtin.Range.rangeSize
  have e : (- -1 : Int) = 1 := by decide
  rw [e, Int.ediv_one]
  split <;> (try split) <;> omega
theorem hsmall3_ {n : Int} (h : -1000 ≤ n ∧ n ≤ 1000) : Builtin.Range.small 0 (-n) (-1) = true := by
  unfold Builtin.Range.small
  rw [rsize3_]
  simp only [Builtin.Range.rangeFitsLong, Bool.and_eq_true, Bool.or_eq_true, decide_eq_true_eq, beq_iff_eq]
  rw [if_neg (by decide)]
  simp only [Bool.and_eq_true, decide_eq_true_eq]
  omega
theorem isubOne {x : Int} {t u : Tok} {Q : Value → Shared → Prop} (h : Q (.int (x - 1) s.toks) { s with toks := s.toks + 1 }) : wpAny (model prog w) A (inplaceOp .Sub (.int x t) (.int 1 u)) Q E s := PyProof.Rows.isub_int h
end
theorem ba_of {kf : Value → List UInt8} : ∀ {vs : List Value}, (∀ v ∈ vs, ∃ t, v = Value.bytes (kf v).toArray t) → BA vs (vs.map kf)
  | [], _ => trivial
  | v :: vs, h => ⟨h v (.head _), ba_of fun x hx => h x (.tail _ hx)⟩
theorem rev_vals {vs : List Value} {p : List Nat} (h : ∀ {i : Nat}, i ∈ p → i < vs.length) : (p.map fun i => vs.reverse.getD i Value.none).reverse = (p.map fun i => vs.length - 1 - i).reverse.map fun i => vs.getD i Value.none := by
  have e : (p.map fun i => vs.length - 1 - i).reverse.map (fun i => vs.getD i Value.none) = (p.map fun i => vs.getD (vs.length - 1 - i) Value.none).reverse := by
    rw [List.map_reverse, List.map_map]; rfl
  rw [e]
  congr 1
  exact List.map_congr_left fun i hi => rev_getD' (h hi)
section
variable {M : Model} {A : Around} {E : Value → Shared → Prop} {s : Shared} {env : Env}
/-- x.sort(reverse=True): the keyword -/
theorem callWith_sortR {pos p1 p2 : Pos} {D : Addr} {Q : Value → Shared → Prop} (h : wpAny M A (call (.builtin "list.sort") [.ref D] [(Str.ofString "reverse", .bool true)]) Q E s) :
    wpAny M A (callWith pos (.builtin "list.sort") [.ref D] (backTo pos (starEach [] env)) (backToKw pos (keywordEach [⟨some (Str.ofString "reverse"), .Constant (.bool true) 0 p1, p2⟩] env))) Q E s := by
  refine callWith_builtin_kwB rfl rfl (evalArgs_kw_nil rfl ?_)
  refine evalAll_cons ?_
  show wpAny M A (do let v ← eval (.Constant (.bool true) 0 p1) env; standAt pos; pure v) _ _ _
  refine wpAny_bind ?_
  rw [eval_Constant]
  refine wpAny_pure ?_
  exact wpAny_bind (wpAny_standAt (wpAny_pure (evalAll_nil h)))
end
end
section
open Builtin in
theorem meets_rev (b : Array UInt8) (t : Tok) (a : Addr) (u : Tok) :
    Meets («bytes.__getitem__» ⟨[.bytes b t, .ref a], []⟩) (fun _ R s => s.heap.IsSliceOf a .none .none (.int (-1) u) ∧ b.size ≤ sizeLine ∧ ∀ t' k, R (.ok (.ret (.bytes b.toList.reverse.toArray t'))) { s with toks := k }) := by
  refine .of_wp fun prog w A R s hS => ?_
  obtain ⟨⟨o, ho, hc, hd⟩, hsz, h⟩ := hS
  have hT : s.TypeIs (.ref a) "slice" := ⟨o, ho, hc⟩
  show wpAny _ _ (Bytes.payload (.bytes b t) >>= fun r => _) _ _ s
  refine wpAny_bind (wpAny_of_eq (a := b) rfl ?_)
  show wpAny _ _ (Bytes.subscript? (.ref a) >>= fun r => _) _ _ s
  refine wpAny_bind ?_
  unfold Bytes.subscript?
  refine wpAny_bind (wpAny_specialOf hT slice_no_index (wpAny_pure ?_))
  refine wpAny_bind (wpAny_typeOf hT ?_)
  show wpAny _ _ (Bytes.sliceParts (.ref a) >>= fun r => _) _ _ s
  refine wpAny_bind ?_
  unfold Bytes.sliceParts
  refine wpAny_bind (wpAny_field (x := .int (-1) u) ho hd rfl ?_)
  kby_int
  refine wpAny_ite (KBy.ite_no (show ¬ ((rawInt (-1) == rawInt 0) = true) by decide) ?_)
  refine wpAny_bind (wpAny_field (x := .none) ho hd rfl ?_)
  kby_none
  refine wpAny_bind (wpAny_field (x := .none) ho hd rfl ?_)
  kby_none
  refine wpAny_pure ?_
  have go : wpAny (model prog w) A.in1 (sliceIndices .none .none (rawInt (-1)) b.size) (fun r s' => r = ((b.size : Int) - 1, -1, -1) ∧ s' = s) (fun _ _ => False) s :=
    wpAny_of_eq (sliceIndices_raw none none (some (-1)) b.size (by decide)) ⟨rfl, rfl⟩
  refine wpAny_bind (wpAny_mono go (fun r s' hr => ?_) fun _ _ e => e.elim)
  obtain ⟨rfl, rfl⟩ := hr
  refine wpAny_ite (KBy.ite_no (by simp) ?_)
  have e : Bytes.sliced b ((b.size : Int) - 1) (-1) (-1) = b.toList.reverse.toArray := by
    unfold Bytes.sliced
    congr 1
    have e1 : sliceRange ((b.size : Int) - 1) (-1) (-1) = (List.range b.size).map fun k => b.size - 1 - k := by
      unfold sliceRange
      rw [if_neg (by decide)]
      have e2 : (if (b.size : Int) - 1 > -1 then ((b.size : Int) - 1 - -1 - -1 - 1) / (- -1) else 0).toNat = b.size := by
        have e3 : (- -1 : Int) = 1 := by decide
        rw [e3, Int.ediv_one]
        split <;> omega
      dsimp only
      rw [e2]
      refine List.map_congr_left fun k hk => ?_
      have := List.mem_range.mp hk
      omega
    rw [e1, List.filterMap_map]
    refine List.ext_getElem? fun i => ?_
    have e4 : (List.range b.size).filterMap ((fun x => b[x]?) ∘ fun k => b.size - 1 - k) = (List.range b.size).map (fun k => b.getD (b.size - 1 - k) 0) := by
      have key : ∀ l : List Nat, (∀ k ∈ l, k < b.size) → l.filterMap ((fun x => b[x]?) ∘ fun k => b.size - 1 - k) = l.map (fun k => b.getD (b.size - 1 - k) 0) := by
        intro l
        induction l with
        | nil => intro _; rfl
        | cons x l ih =>
          intro hl
          have hx := hl x (.head _)
          have hlt : b.size - 1 - x < b.size := by omega
          rw [List.filterMap_cons, List.map_cons, ih fun k hk => hl k (.tail _ hk)]
          simp [hlt]
      exact key _ fun k hk => List.mem_range.mp hk
    rw [e4]
    by_cases hi : i < b.size
    · rw [List.getElem?_map, List.getElem?_range hi, List.getElem?_reverse (by simpa using hi)]
      have hlt : b.size - 1 - i < b.size := by omega
      simp [hlt]
    · rw [List.getElem?_eq_none (by simpa using Nat.not_lt.mp hi), List.getElem?_eq_none (by simpa using Nat.not_lt.mp hi)]
  rw [e]
  exact wpAny_bind (wpAny_mkBytes (wpAny_pure ⟨_, rfl, h _ _⟩) (by simpa using hsz))
section
variable {prog : Program} {w : World} {A : Around} {E : Value → Shared → Prop} {s : Shared} {p : Program} {loose : List Str} {mg mb : Str → Option Value} {K : Frag}
theorem slice_rev {value slice : Expr} {b : Array UInt8} {t u : Tok} {Q : Value → Shared → Prop} (hz : b.size ≤ 100000)
    (h : ∀ t' k, Q (.bytes b.toList.reverse.toArray t') { s with heap := s.heap.push { cls := .type "slice", data := .fields #[.none, .none, .int (-1) u] }, toks := k })
    (hs : subscripted slice false (.bytes b t) (.ref s.heap.objs.size) = operate [.ref s.heap.objs.size, .bytes b t] (getItem (.bytes b t) (.ref s.heap.objs.size)) := by with_unfolding_all rfl) :
    wpAny (model prog w) A (subscriptTail value slice (.bytes b t) (.ref s.heap.objs.size)) Q E { s with heap := s.heap.push { cls := .type "slice", data := .fields #[.none, .none, .int (-1) u] } } :=
  kba_turn (value' := .Name (Str.ofString "_") ⟨0, 0, 0, 0⟩) (fun _ => rfl)
   (tail_of_ItemOn ⟨"bytes", _, FB.slot_bytes_getitem.lookup, typeIs_bytes _ _ _, getItem_meets (typeIs_bytes _ _ _) (by decide) FB.slot_bytes_getitem FB.entry_bytes_getitem (FB.args_bytes_getitem_2 _ _) (meets_rev b t _ u)
    ⟨Heap.IsSliceOf.new _ _ _ _, by rw [sizeLine_eq]; omega, fun t' k => h t' k⟩⟩ hs (fun _ => rfl))
/-- a call of a lambda without cells -/
theorem enterL {h₀ : Heap} {Q : Value → Shared → Prop} {name qual : Str} {params : Arguments} {body : Expr} {scope : Scope} {pm cdv ct oc : Value} {od : Option Addr} {osl : Array (Option Value)} {f : Addr} {pos : List Value} {kw : List (Str × Value)} {binds : List (Str × Value)}
    (G : Gd K p loose mg mb h₀) (st : Keep [] h₀ s.heap)
    (ho : s.heap.get? f = some ⟨oc, od, .func (kla_fn name qual params body scope [] pm cdv ct), osl⟩) (hcd : s.heap.CodeRec cdv qual) (hroom : A.depth < recursionLimit)
    (hbind : BindsTo s (kla_fn name qual params body scope [] pm cdv ct) ⟨pos, kw⟩ binds) (hloc : ∀ y ∈ binds, scope.names.lookup y.1 = some .local)
    (h : ∀ g L h₁, Fr g L h₁ (fun y => binds.reverse.lookup y) → Keep [] s.heap g → Gd K p loose mg mb g → Keep [] h₀ g →
      wpAny (model prog w) (A.deeper (envOf qual scope L f cdv)) (eval body (envOf qual scope L f cdv))
        (fun v s' => (∃ m', Fr g L s'.heap m') ∧ (KeepS [] s s' → Q v s') ∧ s'.gens = s.gens ∧ s'.os = s.os) NoE
        { s with heap := h₁, toks := s.toks + binds.length })
    (hcell : ∀ x ∈ scope.names, x.2 ≠ .cell := by decide)
    (hco : scope.isCoroutine = false := by rfl) (hgen : scope.isGenerator = false := by rfl) (hk : scope.kind = .function := by rfl) :
    wpAny (model prog w) A (call (.ref f) pos kw) Q E s := by
  have T := G.T.nolimit.keeps (fun b o e => st.get b o (by simp) e)
  refine wpAny_call (kla_callFunE hroom ho rfl hco hgen rfl hcd (hbind _ _ _ _ ?_))
  refine wpAny_newFunctionEnv hcell hloc (fun h₁ hns hsb => ⟨T.fresh _ hsb, ?_⟩) hk
  have hk₁ : ∀ b o, s.heap.get? b = some o → h₁.get? b = some o := fun b o e => hsb.extBut b o (Nat.ne_of_lt (Heap.lt_size e)) (Heap.get?_push_of_some _ e)
  show codeAny _ _ (.expr body (envOf qual scope s.heap.objs.size f cdv)) _ _
  have st' : ∀ b o, h₀.get? b = some o → s.heap.get? b = some o := fun b o e => st.get b o (by simp) e
  refine kla_codeExpr (wpAny_mono (h s.heap s.heap.objs.size h₁ ⟨hns, hk₁, Nat.le_refl _⟩ Keep.refl (G.keeps st') st) (fun v s' hl => ?_) fun _ _ y => y.elim)
  obtain ⟨⟨m', F'⟩, hq, hg, hos⟩ := hl
  exact hq ⟨⟨fun b o _ e => F'.keep b o e, Nat.le_of_lt F'.ns.lt⟩, hg, hos⟩
end
end
section
noncomputable def pb (lt : Nat → Nat → Bool) (j i : Nat) : Bool := lt j i || (!lt i j && decide (j < i))
theorem pb_iff {lt : Nat → Nat → Bool} {j i : Nat} : pb lt j i = true ↔ prec lt j i := by
  unfold pb prec
  simp
noncomputable def rk (lt : Nat → Nat → Bool) (N i : Nat) : Nat := (List.range N).countP (fun j => pb lt j i)
theorem rank_at {lt : Nat → Nat → Bool} (O : SWN lt) {N : Nat} {P : List Nat} (hP : Stable lt N P) {r : Nat} (hr : r < N) : rk lt N (P.getD r 0) = r := by
  have hl := stable_len hP
  unfold rk
  rw [← hP.perm.countP_eq]
  have hr' : r < P.length := by omega
  have e : P = P.take r ++ P[r] :: P.drop (r + 1) := by rw [← List.drop_eq_getElem_cons hr', List.take_append_drop]
  have eg : P.getD r 0 = P[r] := by simp [hr']
  rw [eg]
  have hs := hP.sorted
  have hs' := hs
  rw [e] at hs'
  obtain ⟨_, h2, h3⟩ := List.pairwise_append.mp hs'
  obtain ⟨h4, _⟩ := List.pairwise_cons.mp h2
  have c1 : (P.take r).countP (fun j => pb lt j P[r]) = r := by
    rw [List.countP_eq_length.mpr fun a ha => pb_iff.mpr (h3 a ha _ (.head _))]
    simp; omega
  have c2 : (P.drop (r + 1)).countP (fun j => pb lt j P[r]) = 0 := by
    rw [List.countP_eq_zero]
    intro a ha h
    exact prec_asymm O (h4 a ha) (pb_iff.mp h)
  have c3 : pb lt P[r] P[r] = false := by
    cases q : pb lt P[r] P[r] with
    | false => rfl
    | true => exact absurd (pb_iff.mp q) (prec_irrefl O _)
  calc P.countP (fun j => pb lt j P[r]) = (P.take r ++ P[r] :: P.drop (r + 1)).countP (fun j => pb lt j P[r]) := by rw [← e]
    _ = r := by rw [List.countP_append, List.countP_cons, c1, c2, c3]; simp
theorem rank_lt {lt : Nat → Nat → Bool} (O : SWN lt) {N : Nat} {P : List Nat} (hP : Stable lt N P) {r i : Nat} (hr : r < N) (hi : i < N) (h : rk lt N i = r) : i = P.getD r 0 := by
  have hl := stable_len hP
  obtain ⟨r', h1, h2⟩ := List.getElem_of_mem (stable_mem hP hi)
  have h3 := rank_at O hP (r := r') (by omega)
  have eg : P.getD r' 0 = i := by simp [h1, h2]
  rw [eg, h] at h3
  subst h3
  exact eg.symm
theorem rk_succ (lt : Nat → Nat → Bool) (j i : Nat) : rk lt (j + 1) i = rk lt j i + (if pb lt j i = true then 1 else 0) := by
  unfold rk
  rw [List.range_succ, List.countP_append]
  simp [List.countP_cons]
end
section
noncomputable def ch (d : Nat) : UInt8 := UInt8.ofNat (65 + d)
theorem ch_lt {d e : Nat} (hd : d < 16) (he : e < 16) : (ch d < ch e) ↔ d < e := by
  have h : ∀ d e : Fin 16, (ch d.val < ch e.val) ↔ d.val < e.val := by decide +kernel
  exact h ⟨d, hd⟩ ⟨e, he⟩
theorem ch_eq {d e : Nat} (hd : d < 16) (he : e < 16) : (ch d = ch e) ↔ d = e := by
  have h : ∀ d e : Fin 16, (ch d.val = ch e.val) ↔ d.val = e.val := by decide +kernel
  exact h ⟨d, hd⟩ ⟨e, he⟩
/-- the order of lists of figures -/
noncomputable def dlt : List Nat → List Nat → Bool
  | _, [] => false
  | [], _ :: _ => true
  | x :: a, y :: b => decide (x < y) || (x == y && dlt a b)
theorem blt_ch : ∀ {a b : List Nat}, (∀ d ∈ a, d < 16) → (∀ d ∈ b, d < 16) → blt (a.map ch) (b.map ch) = dlt a b
  | a, [], _, _ => by rw [List.map_nil, blt_nil]; cases a <;> rfl
  | [], y :: b, _, _ => rfl
  | x :: a, y :: b, ha, hb => by
    rw [List.map_cons, List.map_cons, blt_cons, blt_ch (fun d hd => ha d (.tail _ hd)) (fun d hd => hb d (.tail _ hd))]
    have h1 := ch_lt (ha x (.head _)) (hb y (.head _))
    have h2 := ch_eq (ha x (.head _)) (hb y (.head _))
    show _ = (decide (x < y) || (x == y && dlt a b))
    have e1 : decide (ch x < ch y) = decide (x < y) := decide_eq_decide.mpr h1
    have e2 : (ch x == ch y) = (x == y) := by
      by_cases q : x = y
      · rw [beq_iff_eq.mpr (h2.mpr q), beq_iff_eq.mpr q]
      · rw [beq_eq_false_iff_ne.mpr (fun z => q (h2.mp z)), beq_eq_false_iff_ne.mpr q]
    rw [e1, e2]
theorem ch_inj : ∀ {a b : List Nat}, (∀ d ∈ a, d < 16) → (∀ d ∈ b, d < 16) → (a.map ch = b.map ch ↔ a = b)
  | [], [], _, _ => by simp
  | [], y :: b, _, _ => by simp
  | x :: a, [], _, _ => by simp
  | x :: a, y :: b, ha, hb => by
    rw [List.map_cons, List.map_cons, List.cons.injEq, List.cons.injEq, ch_inj (fun d hd => ha d (.tail _ hd)) (fun d hd => hb d (.tail _ hd)), ch_eq (ha x (.head _)) (hb y (.head _))]
noncomputable def dg (n : Nat) : List Nat := if h : n = 0 then [] else dg (n / 16) ++ [n % 16]
theorem dg_lt (n : Nat) : ∀ d ∈ dg n, d < 16 := by
  induction n using Nat.strongRecOn with
  | ind n ih =>
    unfold dg
    split
    · simp
    · intro d hd
      rcases List.mem_append.mp hd with hd | hd
      · exact ih _ (by lia) d hd
      · rw [List.mem_singleton.mp hd]; lia
theorem word_dg (n : Nat) : word n = (dg n).map ch := by
  induction n using Nat.strongRecOn with
  | ind n ih =>
    unfold word dg
    split
    · rfl
    · rw [ih _ (by lia), List.map_append]; rfl
theorem dg_len (n : Nat) : (dg n).length = hexLen n := by
  induction n using Nat.strongRecOn with
  | ind n ih =>
    unfold dg hexLen
    split
    · rfl
    · rw [List.length_append, ih _ (by lia)]; rfl
noncomputable def val (l : List Nat) : Nat := l.foldl (fun acc d => 16 * acc + d) 0
theorem val_dg (n : Nat) : val (dg n) = n := by
  induction n using Nat.strongRecOn with
  | ind n ih =>
    unfold dg
    split
    · rename_i h; rw [h]; rfl
    · unfold val
      rw [List.foldl_append]
      have := ih (n / 16) (by lia)
      unfold val at this
      rw [this]
      simp only [List.foldl_cons, List.foldl_nil]
      lia
theorem foldl_from (l : List Nat) : ∀ c, l.foldl (fun acc d => 16 * acc + d) c = c * 16 ^ l.length + val l := by
  induction l with
  | nil => intro c; simp [val]
  | cons x t ih =>
    intro c
    unfold val
    rw [List.foldl_cons, List.foldl_cons, ih, ih (16 * 0 + x), List.length_cons, Nat.pow_succ]
    have : (16 * c + x) * 16 ^ t.length = c * (16 ^ t.length * 16) + (16 * 0 + x) * 16 ^ t.length := by
      rw [Nat.add_mul, Nat.mul_comm 16 c, Nat.mul_assoc, Nat.mul_comm 16 (16 ^ t.length)]; simp
    rw [this, Nat.add_assoc]
theorem val_cons (x : Nat) (t : List Nat) : val (x :: t) = x * 16 ^ t.length + val t := by
  show t.foldl _ (16 * 0 + x) = _
  rw [foldl_from]; simp
/-- padded to M figures -/
noncomputable def pv : Nat → List Nat → Nat
  | 0, _ => 0
  | _ + 1, [] => 0
  | M + 1, x :: t => x * 16 ^ M + pv M t
theorem pv_nil (M : Nat) : pv M [] = 0 := by cases M <;> rfl
theorem pv_val : ∀ {M : Nat} {l : List Nat}, l.length ≤ M → pv M l = val l * 16 ^ (M - l.length)
  | M, [], _ => by rw [pv_nil]; simp [val]
  | 0, x :: t, h => by simp at h
  | M + 1, x :: t, h => by
    have h' : t.length ≤ M := by simpa using h
    show x * 16 ^ M + pv M t = _
    rw [pv_val h', val_cons, Nat.add_mul, Nat.mul_assoc, ← Nat.pow_add]
    have e1 : t.length + (M + 1 - (x :: t).length) = M := by simp; lia
    have e2 : M + 1 - (x :: t).length = M - t.length := by simp
    rw [e1, e2]
theorem pv_lt : ∀ {M : Nat} {l : List Nat}, (∀ d ∈ l, d < 16) → pv M l < 16 ^ M
  | 0, l, _ => by cases l <;> simp [pv]
  | M + 1, [], _ => by rw [pv_nil]; exact Nat.pow_pos (by decide)
  | M + 1, x :: t, h => by
    have h1 := pv_lt (M := M) (l := t) fun d hd => h d (.tail _ hd)
    have hx := h x (.head _)
    show x * 16 ^ M + pv M t < 16 ^ (M + 1)
    rw [Nat.pow_succ]
    have : x * 16 ^ M ≤ 15 * 16 ^ M := Nat.mul_le_mul_right _ (by lia)
    lia
theorem pv_cmp : ∀ {M : Nat} {a b : List Nat}, a.length ≤ M → b.length ≤ M → (∀ d ∈ a, d < 16) → (∀ d ∈ b, d < 16) →
    (dlt a b = true ↔ (pv M a < pv M b ∨ (pv M a = pv M b ∧ a.length < b.length))) ∧ (a = b ↔ (pv M a = pv M b ∧ a.length = b.length))
  | M, [], [], _, _, _, _ => by simp [dlt]
  | M, [], y :: b, _, _, _, _ => by
    rw [pv_nil]
    constructor
    · constructor
      · intro _
        rcases Nat.eq_zero_or_pos (pv M (y :: b)) with h | h
        · exact .inr ⟨h.symm, by simp⟩
        · exact .inl h
      · intro _; rfl
    · simp
  | M, x :: a, [], _, _, _, _ => by
    rw [pv_nil]
    constructor
    · simp [dlt]
    · simp
  | 0, x :: a, y :: b, h, _, _, _ => by simp at h
  | M + 1, x :: a, y :: b, hla, hlb, ha, hb => by
    obtain ⟨h1, h2⟩ := pv_cmp (M := M) (a := a) (b := b) (by simpa using hla) (by simpa using hlb) (fun d hd => ha d (.tail _ hd)) (fun d hd => hb d (.tail _ hd))
    have p1 := pv_lt (M := M) (l := a) fun d hd => ha d (.tail _ hd)
    have p2 := pv_lt (M := M) (l := b) fun d hd => hb d (.tail _ hd)
    have e1 : pv (M + 1) (x :: a) = x * 16 ^ M + pv M a := rfl
    have e2 : pv (M + 1) (y :: b) = y * 16 ^ M + pv M b := rfl
    have hd : dlt (x :: a) (y :: b) = (decide (x < y) || (x == y && dlt a b)) := rfl
    rw [e1, e2, hd]
    rcases Nat.lt_trichotomy x y with h | h | h
    · have : (x + 1) * 16 ^ M ≤ y * 16 ^ M := Nat.mul_le_mul_right _ h
      rw [Nat.add_mul] at this
      constructor
      · simp [h]; exact .inl (by lia)
      · constructor
        · intro q; injection q with q1; lia
        · intro q; lia
    · subst h
      constructor
      · simp only [Nat.lt_irrefl, decide_false, Bool.false_or, beq_self_eq_true, Bool.true_and, List.length_cons]
        rw [h1]; lia
      · simp only [List.cons.injEq, true_and, List.length_cons]
        rw [h2]; lia
    · have : (y + 1) * 16 ^ M ≤ x * 16 ^ M := Nat.mul_le_mul_right _ h
      rw [Nat.add_mul] at this
      constructor
      · have hn : ¬ x < y := by lia
        have hne : x ≠ y := by lia
        simp [hn, hne]; lia
      · constructor
        · intro q; injection q with q1; lia
        · intro q; lia
theorem sideD_spec (a b : Nat) : (sideD a b < 0 ↔ blt (word a) (word b) = true) ∧ (sideD a b = 0 ↔ word a = word b) := by
  have hM1 : (dg a).length ≤ max (hexLen a) (hexLen b) := by rw [dg_len]; lia
  have hM2 : (dg b).length ≤ max (hexLen a) (hexLen b) := by rw [dg_len]; lia
  obtain ⟨h1, h2⟩ := pv_cmp hM1 hM2 (dg_lt a) (dg_lt b)
  rw [pv_val hM1, pv_val hM2, val_dg, val_dg, dg_len, dg_len] at h1 h2
  have e1 : max (hexLen a) (hexLen b) - hexLen a = hexLen b - hexLen a := by lia
  have e2 : max (hexLen a) (hexLen b) - hexLen b = hexLen a - hexLen b := by lia
  rw [e1, e2] at h1 h2
  rw [word_dg, word_dg, blt_ch (dg_lt a) (dg_lt b), ch_inj (dg_lt a) (dg_lt b), h1, h2]
  unfold sideD
  generalize a * 16 ^ (hexLen b - hexLen a) = X
  generalize b * 16 ^ (hexLen a - hexLen b) = Y
  clear h1 h2 e1 e2 hM1 hM2
  constructor
  · split <;> (try split) <;> lia
  · split <;> (try split) <;> lia
/-- figures from the last -/
noncomputable def dr (n : Nat) : List Nat := if h : n = 0 then [] else n % 16 :: dr (n / 16)
theorem dr_rev (n : Nat) : (dg n).reverse = dr n := by
  induction n using Nat.strongRecOn with
  | ind n ih =>
    unfold dg dr
    split
    · rfl
    · rw [List.reverse_append, ih _ (by lia)]; rfl
theorem dr_lt (n : Nat) : ∀ d ∈ dr n, d < 16 := fun d hd => dg_lt n d (by rw [← List.mem_reverse, dr_rev]; exact hd)
theorem word_dr (n : Nat) : (word n).reverse = (dr n).map ch := by rw [word_dg, ← List.map_reverse, dr_rev]
theorem dr_zero : dr 0 = [] := by unfold dr; simp
theorem dr_pos {n : Nat} (h : 0 < n) : dr n = n % 16 :: dr (n / 16) := by
  rw [dr, dif_neg (by lia)]
theorem sideM_dr (a : Nat) : ∀ b, (sideM a b < 0 ↔ dlt (dr a) (dr b) = true) ∧ (sideM a b = 0 ↔ dr a = dr b) := by
  induction a using Nat.strongRecOn with
  | ind a ih =>
    intro b
    rw [sideM]
    by_cases ha : a = 0
    · subst ha
      rw [dif_neg (by lia), if_pos (.inl rfl), dr_zero]
      by_cases hb : b = 0
      · subst hb; rw [dr_zero]; simp [dlt]
      · rw [dr_pos (by lia), if_neg (by lia), if_pos (by lia)]; simp [dlt]
    · by_cases hb : b = 0
      · subst hb
        rw [dif_neg (by lia), if_pos (.inr rfl), dr_zero, dr_pos (by lia), if_pos (by lia), if_neg (by lia)]; simp [dlt]
      · rw [dr_pos (n := a) (by lia), dr_pos (n := b) (by lia)]
        have hd : dlt (a % 16 :: dr (a / 16)) (b % 16 :: dr (b / 16)) = (decide (a % 16 < b % 16) || (a % 16 == b % 16 && dlt (dr (a / 16)) (dr (b / 16)))) := rfl
        rw [hd]
        by_cases he : a % 16 = b % 16
        · rw [dif_pos ⟨by lia, by lia, he⟩]
          obtain ⟨h1, h2⟩ := ih (a / 16) (by lia) (b / 16)
          rw [h1, h2, he]
          simp
        · rw [dif_neg (by lia), if_neg (by lia)]
          by_cases hl : a % 16 < b % 16
          · rw [if_pos hl]; simp [hl, he]
          · rw [if_neg hl]; simp [hl, he]
theorem sideM_spec (a b : Nat) : (sideM a b < 0 ↔ blt (word a).reverse (word b).reverse = true) ∧ (sideM a b = 0 ↔ (word a).reverse = (word b).reverse) := by
  rw [word_dr, word_dr, blt_ch (dr_lt a) (dr_lt b), ch_inj (dr_lt a) (dr_lt b)]
  exact sideM_dr a b
end
section
local macro_rules | `(tactic| walk_at "stop") => `(tactic| with_reducible (first | refine st_comp ?_ | refine st_zip ?_ | refine st_pyIter ?_ | refine st_bytes ?_ | refine st_inplace ?_ | refine st_truthy ?_ | refine st_sub ?_ | refine st_asg ?_ | refine st_addr ?_ | refine st_append ?_ | refine st_mil ?_))
section
section
variable {prog : Program} {w : World} {A : Around} {E : Value → Shared → Prop} {s : Shared} {p : Program} {loose : List Str} {mg mb : Str → Option Value}

noncomputable def keyW (b : Bool) (n : Int) : List UInt8 := if b = true then (word n.natAbs).reverse else word n.natAbs
/-- a thing: a list of a number and a place -/
noncomputable def ThingAt (h : Heap) (v : Value) (n : Int) : Prop := ∃ a t1 k e, v = .ref a ∧ h.get? a = some (listOf #[.int n t1, k] e)
noncomputable def KeyMaker (prog : Program) (w : World) (p : Program) (loose : List Str) (mg mb : Str → Option Value) (f c : Addr) (h : Heap) (b : Bool) : Prop :=
  ∀ t : Heap, Gd (hd.heap_1 w.params) p loose mg mb t → (∀ o, h.get? f = some o → t.get? f = some o) → (∀ o, h.get? c = some o → t.get? c = some o) →
    ∀ (vs : List Value) (kf : Value → List UInt8), (∀ v ∈ vs, ∃ n, ThingAt t v n ∧ n.natAbs < 1000000 ∧ kf v = keyW b n) → KeyOk prog w t (.ref f) vs kf
theorem codeRec_keep {h h' : Heap} {c : Addr} {q : Str} (r : h.CodeRec (.ref c) q) (k : ∀ o, h.get? c = some o → h'.get? c = some o) : h'.CodeRec (.ref c) q := by
  (refine keepGoal fun kgP kgk => ?_; rcases r with ⟨c2, oc, vs, t, e, h1, h2⟩; refine kgk ?_; clear kgk kgP)
  cases e
  exact ⟨c, oc, vs, t, rfl, k _ h1, h2⟩
theorem law_key_call {h₀ : Heap} {b : Bool} {ps : Array Value} {Q : Value → Shared → Prop}
    (G : Gd (hd.heap_1 w.params) p loose mg mb h₀) (st : Keep [] h₀ s.heap) (hC : CodeHd h₀ 102 98) (hb : h₀.BuiltinsAt mg 98) (h98 : h₀.get? 98 = none) (hP : s.heap.get? 98 = some (tabObj ps)) (ht : TriplesOk ps.toList)
    (hnf : codeAmong (if b = true then ⟨179, 15, 179, 51⟩ else ⟨180, 11, 180, 41⟩) ps.toList = none) (hroom : A.depth + 2 < recursionLimit)
    (hq : ∀ s' f c, KeepS [98] s s' → s.heap.get? f = none → s.heap.get? c = none → FnAt f s'.heap → (s'.heap.get? c).isSome → c ≠ f → KeyMaker prog w p loose mg mb f c s'.heap b →
      s'.heap.get? 98 = some (tabObj (ps ++ #[rawInt (if b = true then 179 else 180), rawInt (if b = true then 15 else 11), .ref c])) → Q (.ref f) s') :
    wpAny (model prog w) A (call (.ref 103) [.bool b]) Q E s := by
  refine enterD (binds := [(Str.ofString "mirrored", Value.bool b)]) [98] G st (by simpa using h98) rfl rfl (by omega) (BindsTo.of_eq rfl) (locs rfl) ?_
  intro g L h₁ F kg Gg kh ng kb
  have N : News g L h₁ [(98, tabObj ps)] := news1 (kh _ _ hP).1 (kh _ _ hP).2 (ng 98 (by simp))
  have m1 : (fun y => List.lookup y ([(Str.ofString "mirrored", Value.bool b)] : List (Str × Value)).reverse) (Str.ofString "mirrored") = some (Value.bool b) := rfl
  revert F m1
  generalize (fun y => List.lookup y ([(Str.ofString "mirrored", Value.bool b)] : List (Str × Value)).reverse) = m
  intro F m1
  have hCg := hC.keeps (fun b o e => kb.get b o (by simp) e)
  have hbs : h₁.BuiltinsAt mg 98 := by
    (refine keepGoal fun kgP kgk => ?_; rcases hb with ⟨bm, ob, b1, b2, b3, b4, b5, b6⟩; refine kgk ?_; clear kgk kgP)
    exact ⟨bm, ob, b1, b2, b3, b4, F.keep _ _ (kb.get _ _ (by simp) b5), b6⟩
  have hL98 : L ≠ 98 := fun e => (N _ (.head _)).2.1 e.symm
  have hsL : s.heap.objs.size ≤ L := Nat.le_trans kg.size F.above
  have ends : ∀ (o : Obj) (c : Addr) (h2 : Heap), Heap.ExtBut 98 h₁ h2 → h₁.objs.size ≤ c → c < h2.objs.size → Fr g L (h2.push o) m ∧ s.heap.get? h2.objs.size = none ∧ s.heap.get? c = none ∧ c ≠ h2.objs.size := fun o c h2 hx hge hlt => by
    have hLs := F.ns.lt
    refine ⟨⟨(F.ns.extBut hx hL98).push _, fun b o e => Heap.get?_push_of_some _ (hx b o (fun q => by rw [q, ng 98 (by simp)] at e; cases e) (F.keep b o e)), F.above⟩, Heap.get?_none_of_le ?_, Heap.get?_none_of_le ?_, Nat.ne_of_lt hlt⟩
    · exact Nat.le_trans hsL (Nat.le_of_lt (Nat.lt_of_lt_of_le hLs (Nat.le_trans hge (Nat.le_of_lt hlt))))
    · exact Nat.le_trans hsL (Nat.le_of_lt (Nat.lt_of_lt_of_le hLs hge))
  cases b with
  | true =>
    walk_at "auto"
    refine kla_eval rfl ?_
    refine kla_makeFunction (mg := mg) (clos := []) (c := 102) (P := 98) (ps := ps) rfl rfl (Gg.T.g.keeps F.keep) rfl (hCg.keeps F.keep) (N _ (.head _)).1 ht hnf (by decide) hbs ?_
    intro c ctv h2 tk2 hx hge hlt hrec htb
    obtain ⟨F2, hfn, hcn, hcf⟩ := ends _ c h2 hx hge hlt
    refine ⟨⟨_, F2⟩, fun kk => hq _ _ c kk hfn hcn ⟨_, _, _, _, Heap.get?_push_size _ rfl⟩ ?_ hcf ?_ (Heap.get?_push_of_some _ htb), rfl, rfl⟩
    · (refine keepGoal fun kgP kgk => ?_; rcases hrec with ⟨c2, oc, vs2, t2, e2, h3, _⟩; refine kgk ?_; clear kgk kgP)
      cases e2
      show ((h2.push _).get? _).isSome = true
      rw [Heap.get?_push_of_some _ h3]; rfl
    · intro t Gt ktf ktc vs kf hvs v hv A' E' Q' s' hu' hd' hh' st' hQ'
      (refine keepGoal fun kgP kgk => ?_; rcases hvs v hv with ⟨n, ⟨a, t1, k1, e1, rfl, hla⟩, hn, ek⟩; refine kgk ?_; clear kgk kgP)
      clear N F
      refine enterL (binds := [(Str.ofString "thing", Value.ref a)]) Gt st' (st'.get _ _ (by simp) (ktf _ (Heap.get?_push_size _ rfl))) (codeRec_keep (h := h2.push _) (codeRec_keep hrec (fun o e => Heap.get?_push_of_some _ e)) (fun o e => st'.get _ _ (by simp) (ktc _ e))) (by omega) (BindsTo.of_eq rfl) (locs rfl) ?_
      intro g3 L3 h3 F3 kg3 Gg3 kb3
      have m3 : (fun y => List.lookup y ([(Str.ofString "thing", Value.ref a)] : List (Str × Value)).reverse) (Str.ofString "thing") = some (Value.ref a) := rfl
      revert F3 m3
      generalize (fun y => List.lookup y ([(Str.ofString "thing", Value.ref a)] : List (Str × Value)).reverse) = m'
      intro F3 m3
      have N3 : News g3 L3 h3 [] := News.nil
      have hla3 := F3.keep _ _ (kb3.get _ _ (by simp) hla)
      walk_at "auto"
      refine item_nat (l := [.int n t1, k1]) (k := 0) (PySem.IsL.isList (n := e1) hla3) (by simp) (by simp) ?_
      show wpAny _ _ _ _ _ _
      walk_at "auto"
      refine Int2AP_call Gg3 (keepFr F3) hn (by simp only [depth_deeper]; omega) (by simp only [units_deeper]; omega) hh' fun s4 tk4 k4 => ?_
      have F4 := frKeep F3 k4.keep (by simp) (by simp)
      have N4 : News g3 L3 s4.heap [] := News.nil
      clear F3 N3
      walk_at "auto"
      have hwl : (word n.natAbs).length ≤ 5 := word_len 5 _ (by have : (16 : Nat) ^ 5 = 1048576 := rfl; omega)
      refine slice_rev (s := ⟨_, _, _, _, _⟩) (by simp; omega) fun t' k' => ?_
      exact ⟨⟨_, F4.push _⟩, fun kk => by have := hQ' _ t' kk; rw [ek] at this; simpa [keyW] using this, k4.gens, k4.os⟩
  | false =>
    walk_at "auto"
    refine kla_eval rfl ?_
    refine kla_makeFunction (mg := mg) (clos := []) (c := 102) (P := 98) (ps := ps) rfl rfl (Gg.T.g.keeps F.keep) rfl (hCg.keeps F.keep) (N _ (.head _)).1 ht hnf (by decide) hbs ?_
    intro c ctv h2 tk2 hx hge hlt hrec htb
    obtain ⟨F2, hfn, hcn, hcf⟩ := ends _ c h2 hx hge hlt
    refine ⟨⟨_, F2⟩, fun kk => hq _ _ c kk hfn hcn ⟨_, _, _, _, Heap.get?_push_size _ rfl⟩ ?_ hcf ?_ (Heap.get?_push_of_some _ htb), rfl, rfl⟩
    · (refine keepGoal fun kgP kgk => ?_; rcases hrec with ⟨c2, oc, vs2, t2, e2, h3, _⟩; refine kgk ?_; clear kgk kgP)
      cases e2
      show ((h2.push _).get? _).isSome = true
      rw [Heap.get?_push_of_some _ h3]; rfl
    · intro t Gt ktf ktc vs kf hvs v hv A' E' Q' s' hu' hd' hh' st' hQ'
      (refine keepGoal fun kgP kgk => ?_; rcases hvs v hv with ⟨n, ⟨a, t1, k1, e1, rfl, hla⟩, hn, ek⟩; refine kgk ?_; clear kgk kgP)
      clear N F
      refine enterL (binds := [(Str.ofString "thing", Value.ref a)]) Gt st' (st'.get _ _ (by simp) (ktf _ (Heap.get?_push_size _ rfl))) (codeRec_keep (h := h2.push _) (codeRec_keep hrec (fun o e => Heap.get?_push_of_some _ e)) (fun o e => st'.get _ _ (by simp) (ktc _ e))) (by omega) (BindsTo.of_eq rfl) (locs rfl) ?_
      intro g3 L3 h3 F3 kg3 Gg3 kb3
      have m3 : (fun y => List.lookup y ([(Str.ofString "thing", Value.ref a)] : List (Str × Value)).reverse) (Str.ofString "thing") = some (Value.ref a) := rfl
      revert F3 m3
      generalize (fun y => List.lookup y ([(Str.ofString "thing", Value.ref a)] : List (Str × Value)).reverse) = m'
      intro F3 m3
      have N3 : News g3 L3 h3 [] := News.nil
      have hla3 := F3.keep _ _ (kb3.get _ _ (by simp) hla)
      walk_at "auto"
      refine item_nat (l := [.int n t1, k1]) (k := 0) (PySem.IsL.isList (n := e1) hla3) (by simp) (by simp) ?_
      show wpAny _ _ _ _ _ _
      walk_at "auto"
      refine Int2AP_call Gg3 (keepFr F3) hn (by simp only [depth_deeper]; omega) (by simp only [units_deeper]; omega) hh' fun s4 tk4 k4 => ?_
      have F4 := frKeep F3 k4.keep (by simp) (by simp)
      have N4 : News g3 L3 s4.heap [] := News.nil
      clear F3 N3
      exact ⟨⟨_, F4⟩, fun kk => by have := hQ' s4 tk4 kk; rw [ek] at this; exact this, k4.gens, k4.os⟩
end
end
section
section
variable {prog : Program} {w : World} {A : Around} {E : Value → Shared → Prop} {s : Shared} {p : Program} {loose : List Str} {mg mb : Str → Option Value}

noncomputable def ThObj (q : Addr × Obj) : Prop := ∃ n t1 k, q.2 = listOf #[.int n t1, k] 0 ∧ n.natAbs < 1000000
theorem fd4 {R : Int} (h0 : 0 ≤ R) (h1 : R < 1000000) : 0 ≤ R.fdiv 4 ∧ R.fdiv 4 < 250001 := by
  rw [Int.fdiv_eq_ediv_of_nonneg _ (by decide)]; omega
theorem fm20 (R : Int) : 0 ≤ R.fmod 20 ∧ R.fmod 20 < 20 := by
  rw [Int.fmod_eq_emod_of_nonneg _ (by decide)]; omega
theorem things_app {g : Heap} {L r D Ia S : Addr} {m : Str → Option Value} {ths : List (Addr × Obj)} {e : Nat} {oI oS o : Obj} {Q : Value → Shared → Prop} (F : Fr g L s.heap m)
    (N : News g L s.heap ((r, o) :: (D, listOf (ths.map fun q : Addr × Obj => Value.ref q.1).toArray e) :: (Ia, oI) :: (S, oS) :: ths)) (hr : D ≠ r) (hI : D ≠ Ia) (hS : D ≠ S) (ht : ∀ q ∈ ths, q.1 ≠ D) (hz : ths.length < 1000)
    (h : ∀ h', Fr g L h' m → News g L h' ((D, listOf ((ths ++ [(r, o)]).map fun q : Addr × Obj => Value.ref q.1).toArray (e + 1)) :: (Ia, oI) :: (S, oS) :: (ths ++ [(r, o)])) → Q .none { s with heap := h' }) :
    wpAny (model prog w) A (call (.builtin "list.append") [.ref D, .ref r]) Q E s := by
  refine append_1 (xs := ths.map fun q : Addr × Obj => Value.ref q.1) (e := e) (news := (Ia, oI) :: (S, oS) :: (ths ++ [(r, o)])) F (newsSub N fun q hq => ?_) (fun q hq => ?_) (by simpa using hz) fun h' F' N' => h h' F' ?_
  · simp only [List.mem_cons, List.mem_append, List.mem_singleton, List.not_mem_nil, or_false] at hq ⊢
    rcases hq with h | h | h | h | h
    · exact .inr (.inl h)
    · exact .inr (.inr (.inl h))
    · exact .inr (.inr (.inr (.inl h)))
    · exact .inr (.inr (.inr (.inr h)))
    · exact .inl h
  · simp only [List.mem_cons, List.mem_append, List.mem_singleton, List.not_mem_nil, or_false] at hq
    rcases hq with h | h | h | h
    · rw [h]; exact Ne.symm hI
    · rw [h]; exact Ne.symm hS
    · exact ht q h
    · rw [h]; exact Ne.symm hr
  · simpa using N'
theorem law_things_call {h₀ : Heap} {a : Addr} {vs : List Value} {ns : List Int} {Q : Value → Shared → Prop}
    (G : Gd (hd.heap_1 w.params) p loose mg mb h₀) (st : Keep [] h₀ s.heap) (hl : s.heap.IsList a vs.toArray) (hi : IntsAre vs ns) (hz : vs.length ≤ 60) (hroom : A.depth + 2 < recursionLimit) (hh : A.handled = none)
    (hq : ∀ s' D e (ths : List (Addr × Obj)), KeepS [] s s' → s'.heap.get? D = some (listOf (ths.map fun q => Value.ref q.1).toArray e) → s.heap.get? D = none → ths.length = vs.length + 3 → (∀ q ∈ ths, ThObj q ∧ s'.heap.get? q.1 = some q.2 ∧ s.heap.get? q.1 = none ∧ q.1 ≠ D) → Q (.ref D) s') :
    wpAny (model prog w) A (call (.ref 96) [.ref a]) Q E s := by
  refine enterD (binds := [(Str.ofString "script", Value.ref a)]) [] G st (by simp) rfl rfl (by omega) (BindsTo.of_eq rfl) (locs rfl) ?_
  intro g L h₁ F kg Gg kh ng kb
  refine absQ fun R9 hR9 => ?_
  have N : News g L h₁ [] := News.nil
  have m1 : (fun y => List.lookup y ([(Str.ofString "script", Value.ref a)] : List (Str × Value)).reverse) (Str.ofString "script") = some (Value.ref a) := rfl
  revert F m1
  generalize (fun y => List.lookup y ([(Str.ofString "script", Value.ref a)] : List (Str × Value)).reverse) = m
  intro F m1
  walk_at "auto"
  rename_i D h2 F2 N2 n2 h3 F3 N3
  clear F N F2 N2
  refine for_ ?_
  walk_at "auto"
  rename_i B h4 F4 N4 n4
  clear F3 N3
  have hgl : g.IsList a vs.toArray := by
    obtain ⟨ol, hol, hol2⟩ := hl
    exact ⟨ol, kg.get _ _ (by simp) hol, hol2⟩
  have hla : h4.IsList a vs.toArray := by
    obtain ⟨ol, hol, hol2⟩ := hgl
    exact ⟨ol, F4.keep _ _ hol, hol2⟩
  obtain ⟨ws, hws, hB⟩ : ∃ ws : List Value, IntsAre ws [256, 17, 18] ∧ h4.get? B = some (listOf ws.toArray 0) := ⟨_, .cons _ _ (.cons _ _ (.cons _ _ .nil)), (N4 _ (.head _)).1⟩
  have hwl : ws.length = 3 := hws.length
  refine add_lists F4 N4 hla (PySem.IsL.isList (n := 0) hB) ?_ (by rw [sizeLine_eq]; omega)
  intro h5 F5 N5
  clear hla hB
  have hxs := hi.append hws
  have hxlen : (vs ++ ws).length = vs.length + 3 := by simp [hwl]
  generalize vs ++ ws = xs at N5 hxs hxlen
  refine wpAny_pyIter_list (PySem.IsL.isList (n := 0) (N5 _ (.head _)).1) ?_
  dsimp only
  generalize hSa : h4.objs.size = S at N5
  obtain ⟨Ia, hIa⟩ : ∃ Ia, Ia = h5.objs.size := ⟨_, rfl⟩
  have F6 : Fr g L (h5.push (itO S)) _ := F5.push _
  have hnI : ∀ q : Addr × Obj, h5.get? q.1 = some q.2 → q.1 ≠ Ia := fun q e => by rw [hIa]; exact Nat.ne_of_lt (Heap.lt_size e)
  have N6 : News g L (h5.push (itO S)) [(D, listOf ([] : List Value).toArray 0), (Ia, itO S), (S, listOf xs.toArray 0)] := by
    have n1 := N5 (S, listOf xs.toArray 0) (.head _)
    have n2 := N5 (D, listOf ([] : List Value).toArray 0) (by simp)
    refine newsCons (Heap.get?_push_of_some _ n2.1) n2.2.1 n2.2.2 (newsCons ?_ ?_ ?_ (newsCons (Heap.get?_push_of_some _ n1.1) n1.2.1 n1.2.2 News.nil))
    · rw [hIa]; exact Heap.get?_push_size _ rfl
    · rw [hIa]; exact Nat.ne_of_gt F5.ns.lt
    · rw [hIa]; exact Heap.get?_none_of_le (Nat.le_trans F5.above (Nat.le_of_lt F5.ns.lt))
  have hDS : D ≠ S := by rw [← hSa]; exact Nat.ne_of_lt (Heap.lt_size (N4 (D, listOf ([] : List Value).toArray 0) (by simp)).1)
  have hDI : D ≠ Ia := hnI (D, listOf ([] : List Value).toArray 0) (N5 (D, listOf ([] : List Value).toArray 0) (by simp)).1
  have hSI : S ≠ Ia := hnI (S, listOf xs.toArray 0) (N5 (S, listOf xs.toArray 0) (.head _)).1
  rw [← hIa]
  refine forB (I := fun nn s' => ∃ j m ths e oI, nn = xs.length + 1 - j ∧ j ≤ xs.length ∧ Fr g L s'.heap m ∧ News g L s'.heap ((D, listOf (ths.map fun q : Addr × Obj => Value.ref q.1).toArray e) :: (Ia, oI) :: (S, listOf xs.toArray 0) :: ths) ∧ s'.heap.IsListIter Ia S j ∧ ths.length = j
    ∧ (∀ q ∈ ths, ThObj q ∧ q.1 ≠ D) ∧ m (Str.ofString "things") = some (.ref D) ∧ s'.gens = s.gens ∧ s'.os = s.os) (n₀ := xs.length + 1)
    ⟨0, _, [], 0, itO S, rfl, by omega, F6, N6, ⟨_, (N6 (Ia, itO S) (by simp)).1, rfl, rfl⟩, rfl, by simp, by walk_at "lv", rfl, rfl⟩ ?_
  clear F6 N6 F5 N5 F4 N4
  intro T Z nn hT hZ s1 kgI
  (refine keepGoal fun kgP kgk => ?_; rcases kgI with ⟨j, m2, ths, e, oI, rfl, hj, F1, N1, hit, hlen, hth, mth, hg1, ho1⟩; refine kgk ?_; clear kgk kgP)
  have hS1 : s1.heap.IsList S xs.toArray := PySem.IsL.isList (n := 0) (N1 (S, listOf xs.toArray 0) (by simp)).1
  have nI := N1 (Ia, oI) (by simp)
  have nD := N1 _ (.head _)
  have hthI : ∀ q ∈ ths, q.1 ≠ Ia := fun q hq => by
    (refine keepGoal fun kgP kgk => ?_; rcases hit with ⟨o', ho', hc', hd'⟩; refine kgk ?_; clear kgk kgP)
    rw [nI.1] at ho'
    have eo := Option.some.inj ho'
    (refine keepGoal fun kgP kgk => ?_; rcases hth q hq with ⟨⟨n, t1, k, e1, _⟩, _⟩; refine kgk ?_; clear kgk kgP)
    have nq := N1 q (by simp [hq])
    refine neData nq.1 nI.1 ?_
    rw [e1]
    show Data.seq _ _ ≠ oI.data
    have hd2 : oI.data = _ := (congrArg Obj.data eo).trans hd'
    rw [hd2]; intro e; cases e
  by_cases hend : j < xs.length
  · obtain ⟨v, hv⟩ : ∃ v, xs[j]? = some v := ⟨_, List.getElem?_eq_getElem hend⟩
    obtain ⟨x, tx, rfl⟩ := hxs.all v (List.mem_of_getElem? hv)
    refine wpAny_pyNext_list_item hit hS1 (x := .int x tx) (by simpa using hv) fun h' hit' hsb => ?_
    dsimp only
    obtain ⟨oI', hoI', hoI2⟩ := hit'
    have F2 : Fr g L h' m2 := F1.change hsb nI.2.1 nI.2.2
    have N2 : News g L h' ((D, listOf (ths.map fun q : Addr × Obj => Value.ref q.1).toArray e) :: (Ia, oI') :: (S, listOf xs.toArray 0) :: ths) := by
      refine newsCons ((hsb.2 _ hDI).trans nD.1) nD.2.1 nD.2.2 (newsCons hoI' nI.2.1 nI.2.2 fun q hq => ?_)
      have nq := N1 q (.tail _ (.tail _ hq))
      refine ⟨(hsb.2 _ ?_).trans nq.1, nq.2⟩
      rcases List.mem_cons.mp hq with rfl | hq
      · exact hSI
      · exact hthI q hq
    clear F1 N1
    refine wpAny_assign_Name ?_
    walk_at "auto"
    rename_i h6 F6 N6 h7 F7 N7
    clear F2 N2 F6 N6
    have hR : 0 ≤ x.fmod (10 ^ Int.toNat 6) ∧ x.fmod (10 ^ Int.toNat 6) < 1000000 := by
      rw [show (10 ^ Int.toNat 6 : Int) = 1000000 from rfl, Int.fmod_eq_emod_of_nonneg _ (by decide)]
      omega
    revert F7 hR
    generalize x.fmod (10 ^ Int.toNat 6) = R
    intro F7 hR
    obtain ⟨hR0, hR1⟩ := hR
    refine ite_join (P := fun v s' => ∃ z tz tk, v = .int z tz ∧ (0 ≤ z ∧ z < 250001) ∧ s' = { s1 with heap := h7, toks := tk }) (fun _ => ?_) (fun _ => ?_) ?_
    · walk_at "auto"
      exact ⟨_, _, _, rfl, fd4 hR0 hR1, rfl⟩
    · walk_at "auto"
      exact ⟨_, _, _, rfl, (by have b2 := fm20 (R.fdiv 4); omega), rfl⟩
    intro v2 _ kgI
    (refine keepGoal fun kgP kgk => ?_; rcases kgI with ⟨z, tz, tk2, rfl, hz1, rfl⟩; refine kgk ?_; clear kgk kgP)
    dsimp only
    walk_at "auto"
    rename_i h8 F8 N8
    clear F7 N7
    refine ite_join (P := fun v s' => ∃ z tz tk, v = .int z tz ∧ z.natAbs < 1000000 ∧ s' = { s1 with heap := h8, toks := tk }) (fun _ => ?_) (fun _ => ?_) ?_
    · walk_at "auto"
      exact ⟨_, _, _, rfl, by omega, rfl⟩
    · walk_at "auto"
      exact ⟨_, _, _, rfl, by omega, rfl⟩
    intro v3 _ kgI
    (refine keepGoal fun kgP kgk => ?_; rcases kgI with ⟨z3, tz3, tk3, rfl, hz3, rfl⟩; refine kgk ?_; clear kgk kgP)
    dsimp only
    walk_at "auto"
    refine len_nat (l := ths.map fun q : Addr × Obj => Value.ref q.1) (PySem.IsL.isList (n := e) (N8 _ (.head _)).1) (by simp; omega) ?_
    walk_at "auto"
    rename_i r' h9 F9 N9 n9
    have nr : D ≠ r' := n9 (D, listOf (ths.map fun q : Addr × Obj => Value.ref q.1).toArray e) (by simp)
    refine things_app F9 N9 nr hDI hDS (fun q hq => (hth q hq).2) (by omega) fun h10 F10 N10 => ?_
    dsimp only
    walk_at "auto"
    refine hT _ _ ⟨xs.length + 1 - (j + 1), by omega, j + 1, _, ths ++ [(r', _)], e + 1, oI', rfl, by omega, F10, N10, ⟨oI', (N10 (Ia, oI') (by simp)).1, hoI2⟩, by simp [hlen], fun q hq => ?_, by walk_at "lv", hg1, ho1⟩
    rcases List.mem_append.mp hq with hq | hq
    · exact hth q hq
    · rw [List.mem_singleton.mp hq]
      exact ⟨⟨_, _, _, rfl, hz3⟩, Ne.symm nr⟩
  · have ej : j = xs.length := by omega
    refine wpAny_pyNext_list_end hh hit hS1 (by simp; omega) fun h' hx => ?_
    dsimp only
    have F2 : Fr g L h' m2 := frExt F1 hx nI.2.1 nI.2.2
    refine hZ _ ?_
    dsimp only
    walk_at "auto"
    refine hR9 _ _ ⟨⟨_, F2⟩, fun k => hq _ D e ths k (hx _ _ hDI nD.1) ?_ (by omega) (fun q hq' => ?_), hg1, ho1⟩
    · cases q : s.heap.get? D with
      | none => rfl
      | some o => have := kg.get _ _ (by simp) q; rw [nD.2.2] at this; cases this
    · have nq := N1 q (by simp [hq'])
      refine ⟨(hth q hq').1, hx _ _ (hthI q hq') nq.1, ?_, (hth q hq').2⟩
      cases z : s.heap.get? q.1 with
      | none => rfl
      | some o => have := kg.get _ _ (by simp) z; rw [nq.2.2] at this; cases this
end
end
end
end
section
local macro_rules | `(tactic| walk_at "stop") => `(tactic| with_reducible (first | refine st_comp ?_ | refine st_zip ?_ | refine st_pyIter ?_ | refine st_bytes ?_ | refine st_inplace ?_ | refine st_truthy ?_ | refine st_sub ?_ | refine st_asg ?_ | refine st_addr ?_ | refine st_append ?_ | refine st_mil ?_))
local macro_rules | `(tactic| walk_at "loadName") => `(tactic| (k_dflt (fail "ldn")))
local macro_rules | `(tactic| walk_at "storeName") => `(tactic| (k_dflt (refine storeX_L (by assumption) (by assumption) ?_; intro h' F' N'; (try dsimp only at F' N'); (try dsimp only))))
local macro_rules | `(tactic| walk_at "newTuple") => `(tactic| (k_dflt (refine newTuple_ (by assumption) (by assumption) (by simp) ?_; intro r' h' F' N' n'; try dsimp only)))
local macro_rules | `(tactic| walk_at "callWith ref") => `(tactic| (k_dflt (first | refine callWith_G (by assumption) (by walk_at "kp") ?_ | refine callWith_Fg (by assumption) (by assumption) ?_)))
local macro_rules | `(tactic| walk_at "eval Name") => `(tactic| (k_dflt (first | refine nameX_B (by assumption) (Gd.X (by assumption)) (Gd.T (by assumption)) (by walk_at "gb") (by boot_by_name) (by decide) ?_ | refine nameX_K (by assumption) (Gd.X (by assumption)) (Gd.T (by assumption)) (by walk_at "gk") ?_)))
section
local macro_rules | `(tactic| walk_at "eval Name") => `(tactic| (k_dflt (first | refine nameX_L (by assumption) (by walk_at "lv") ?_ | refine nameX_C (by assumption) rfl (.head _) (by assumption) ?_)))
section
section
variable {prog : Program} {w : World} {A : Around} {E : Value → Shared → Prop} {s : Shared} {p : Program} {loose : List Str} {mg mb : Str → Option Value}
theorem nsK_call {h₀ : Heap} {n : Int} {tn : Tok} {q l I arg Lw : Addr} {ds : List Addr} {vs : List Value} {kf : Value → List UInt8} {ow : Obj} {es : Array DictEntry} {ep : Nat} {lenv : Env} {P : List Nat} {Q : Value → Shared → Prop}
    (G : Gd (hd.heap_1 w.params) p loose mg mb h₀) (C0 : KeyOk prog w h₀ (.ref q) vs kf) (hfn : FnAt q h₀) (st : Keep [] h₀ s.heap) (hds : ∀ d ∈ ds, h₀.get? d = none)
    (harg : (arg = l ∧ ds = [Lw]) ∨ (arg = I ∧ ds = [I, Lw] ∧ s.heap.get? I = some (itO l)))
    (hl : s.heap.IsList l vs.toArray) (hlds : l ∉ ds) (hfr : A.frames = some [lenv]) (hfw : lenv.frame = some Lw) (hkw : lenv.scope.kind = .function) (hw : s.heap.get? Lw = some ow) (hdw : ow.data = .dict es ep)
    (hn : -1 ≤ n ∧ n ≤ vs.length + 1) (hvs : 3 ≤ vs.length ∧ vs.length < 64) (hroom : A.depth + 20 < recursionLimit) (hu : A.units + 400 < cLine) (hh : A.handled = none)
    (hP : Stable (bLt (vs.map kf)) vs.length P) (hth : ∀ v ∈ vs, Thg h₀ v)
    (hq : ∀ s' D c sl, KeepS ds s s' → s'.heap.get? Lw = some { ow with slots := sl } → s'.heap.get? D = some (listOf ((P.take n.toNat).map fun i => vs.getD i Value.none).toArray c) → Q (.ref D) s') :
    wpAny (model prog w) A (call (.ref 76) [.int n tn, .ref arg] [(Str.ofString "key", .ref q)]) Q E s := by
  have X0 := G.X.keeps (fun b o e => st.get b o (by simp) e)
  have hT : s.heap.get? 71 = some { cls := .type "tuple", data := .seq #[Value.none] } := X0 _ _ rfl
  refine enterC (binds := [(Str.ofString "n", Value.int n tn), (Str.ofString "iterable", Value.ref arg), (Str.ofString "key", Value.ref q)]) ds G st hds rfl rfl (by omega) (BindsTo.of_defaults rfl hT rfl rfl rfl) rfl (by decide +kernel) ?_
  intro g L h₁ tk cells F NC CA kg Gg kh ng kb
  refine absQ fun R0 hR0 => ?_
  obtain ⟨oc, rfl, hoc⟩ := CellsAre.one (show CellsAre _ [(Str.ofString "key", L + 1)] cells from CA)
  have hoc' : oc.data = .cell (some (.ref q)) := hoc
  clear CA hoc
  obtain ⟨m, F2, m1, m2⟩ : ∃ m, Fr g L h₁ m ∧ m (Str.ofString "n") = some (.int n tn) ∧ m (Str.ofString "iterable") = some (.ref arg) := ⟨_, F, rfl, rfl⟩
  clear F
  have F := F2
  clear F2
  have hLw : Lw ∈ ds := by rcases harg with ⟨_, rfl⟩ | ⟨_, rfl, _⟩ <;> simp
  obtain ⟨rest, N, hrest⟩ : ∃ rest, News g L h₁ ((L + 1, oc) :: (Lw, ow) :: rest) ∧ ((arg = l ∧ rest = []) ∨ (arg = I ∧ rest = [(I, itO l)])) := by
    have n2 : h₁.get? Lw = some ow ∧ Lw ≠ L ∧ g.get? Lw = none := ⟨(kh _ _ hw).1, Nat.ne_of_lt (kh _ _ hw).2, ng _ hLw⟩
    rcases harg with ⟨h1, h2⟩ | ⟨h1, h2, h3⟩
    · exact ⟨[], fun q hq => by rcases List.mem_cons.mp hq with rfl | hq; exact NC _ (.head _); rw [List.mem_singleton.mp hq]; exact n2, .inl ⟨h1, rfl⟩⟩
    · refine ⟨[(I, itO l)], fun q hq => ?_, .inr ⟨h1, rfl⟩⟩
      rcases List.mem_cons.mp hq with rfl | hq
      · exact NC _ (.head _)
      · rcases List.mem_cons.mp hq with rfl | hq
        · exact n2
        · rw [List.mem_singleton.mp hq]
          exact ⟨(kh _ _ h3).1, Nat.ne_of_lt (kh _ _ h3).2, ng _ (by rw [h2]; simp)⟩
  have hgl : g.IsList l vs.toArray := by
    obtain ⟨ol, hol, hol2⟩ := hl
    exact ⟨ol, kg.get _ _ hlds hol, hol2⟩
  clear NC
  walk_at "run"
  by_cases h1 : n = 1
  · subst h1
    walk_at "auto"
    refine iterArg F N hrest hgl fun J h2 F2 N2 k2 => ?_
    clear F N
    walk_at "auto"
    refine objArg ‹_› ‹_› fun S h3 F3 N3 k3 => ?_
    clear F2 N2
    walk_at "auto"
    rename_i h4 F4 N4
    have nJ := N4 (J, itO l) (by simp)
    have nS := N4 (S, objO) (by simp)
    have hlJ : l ≠ J := fun e => by
      obtain ⟨ol, hol, _⟩ := hgl
      rw [e, nJ.2.2] at hol; cases hol
    have hl4 : h4.IsList l vs.toArray := by
      obtain ⟨ol, hol, hol2⟩ := hgl
      exact ⟨ol, F4.keep _ _ hol, hol2⟩
    have hJL : L ≠ J := fun e => nJ.2.1 e.symm
    show wpAny _ _ (call (.builtin "min") [.ref J] [(Str.ofString "default", .ref S), (Str.ofString "key", .ref q)]) _ _ _
    refine min_key hh (by simp only [units_deeper]; omega) (by simp only [depth_deeper]; omega) F4 (C0.mono kb (fun _ h => h)) hlJ hJL nJ.2.2 hl4 ⟨_, nJ.1, rfl, rfl⟩ (by omega) fun i v s4 hv hbest k5 F5 g5 o5 => ?_
    have nc4 := N4 (L + 1, oc) (by simp)
    have nw4 := N4 (Lw, ow) (by simp)
    have N5 : News g L s4.heap [(L + 1, oc), (S, objO), (Lw, ow)] := newsB ⟨k5 _ _ (neData nc4.1 nJ.1 (by rw [hoc']; intro e; cases e)) nc4.1, nc4.2⟩ (newsB ⟨k5 _ _ (neData nS.1 nJ.1 (by intro e; cases e)) nS.1, nS.2⟩ (newsB ⟨k5 _ _ (neData nw4.1 nJ.1 (by rw [hdw]; intro e; cases e)) nw4.1, nw4.2⟩ News.nil))
    clear F3 N3 F4 N4
    walk_at "auto"
    rename_i h6 F6 N6
    have hvm : v ∈ vs := List.mem_of_getElem? hv
    refine is_sentinel ((hth v hvm).mono (fun b o e => F6.keep _ _ (kb.get b o (by simp) e))) (N6 (S, objO) (by simp)).1 ?_
    walk_at "auto"
    rename_i D h7 F7 N7 n7
    have hi : i < vs.length := (List.getElem?_eq_some_iff.mp hv).1
    have e1 : P.take 1 = [i] := take_one (b_swn _) hP hi hbest
    have e2 : ((P.take (1 : Int).toNat).map fun i => vs.getD i Value.none) = [v] := by
      rw [show (1 : Int).toNat = 1 from rfl, e1]
      simp [List.getD_eq_getElem?_getD, hv]
    exact hR0 _ _ ⟨⟨_, F7⟩, fun k => hq _ D 0 ow.slots k (N7 (Lw, ow) (by simp)).1 (by rw [e2]; exact (N7 (D, _) (.head _)).1), g5, o5⟩

  · walk_at "auto"
    refine wpAny_mono (Q := fun fl s' => match fl with
      | .ret v => ∃ D c sl, v = .ref D ∧ (∃ m', Fr g L s'.heap m') ∧ s'.heap.get? Lw = some { ow with slots := sl } ∧ s'.heap.get? D = some (listOf ((P.take n.toNat).map fun i => vs.getD i Value.none).toArray c) ∧ s'.gens = s.gens ∧ s'.os = s.os
      | .next => ∃ m' sl, Fr g L s'.heap m' ∧ News g L s'.heap ((L + 1, oc) :: (Lw, { ow with slots := sl }) :: rest) ∧ m' (Str.ofString "n") = some (.int n tn) ∧ m' (Str.ofString "iterable") = some (.ref arg) ∧ s'.gens = s.gens ∧ s'.os = s.os
      | _ => False) ?_ ?_ (fun _ _ h => h)
    · refine absQ fun R1 hR1 => ?_
      rcases hrest with ⟨rfl, rfl⟩ | ⟨rfl, rfl⟩
      · refine wpAny_Try_except ?_
        walk_at "auto"
        have hl1 : h₁.IsList arg vs.toArray := by
          obtain ⟨ol, hol, hol2⟩ := hgl
          exact ⟨ol, F.keep _ _ hol, hol2⟩
        refine len_nat (l := vs) hl1 (by omega) ?_
        by_cases h2 : (vs.length : Int) ≤ n
        · walk_at "auto"
          rename_i h2 F2 N2
          show wpAny _ _ (call (.builtin "sorted") [.ref arg] [(Str.ofString "key", .ref q)]) _ _ _
          have hl2 : h2.IsList arg vs.toArray := by
            obtain ⟨ol, hol, hol2⟩ := hgl
            exact ⟨ol, F2.keep _ _ hol, hol2⟩
          refine sortedK_ (b := false) F2 N2 hl2 (by omega) (by omega) (C0.mono kb (fun _ h => h)) (by simp only [units_deeper]; omega) (by simp only [depth_deeper]; omega) hh rfl fun D c pp s3 hst F3 N3 nD g3 o3 => ?_
          have epp : pp = P := stable_unique (b_swn _) hP hst
          subst epp
          clear F N F2 N2
          walk_at "auto"
          refine kba_turn (value' := .Name (Str.ofString "_") ⟨0, 0, 0, 0⟩) (fun _ => rfl) ?_
          refine slice_list F3 N3 (items := (pp.map fun i => vs.getD i Value.none).toArray) (PySem.IsL.isList (n := c) (N3 _ (.head _)).1) .none (.int n _) (fun h4 F4 N4 => ?_) (hsz := by rw [sizeLine_eq]; simp [stable_len hP]; omega)
          have hpl := stable_len hP
          have e1 : slicePick (pp.map fun i => vs.getD i Value.none).toArray none (some n) none = ((pp.take n.toNat).map fun i => vs.getD i Value.none).toArray := by
            rw [slice_all (by simp [hpl]; omega), List.take_of_length_le (by omega)]
          rw [e1] at N4
          exact hR1 _ _ ⟨_, 0, ow.slots, rfl, ⟨_, F4⟩, (N4 (Lw, ow) (by simp)).1, (N4 _ (.head _)).1, g3, o3⟩
        · walk_at "auto"
          rename_i h2 F2 N2
          exact hR1 _ _ ⟨_, ow.slots, F2, N2, by walk_at "lv", by walk_at "lv", rfl, rfl⟩
      · have nI := N (arg, itO l) (by simp)
        have nw := N (Lw, ow) (by simp)
        refine try_te (lenv := lenv) (Around.frames_deeper hfr) rfl hfw rfl hkw F nw.1 hdw nw.2.2 ?_ ?_ ?_
        · walk_at "auto"
          exact len_iter hh ⟨_, nI.1, rfl⟩ (fun h' tk e hx => ⟨h', tk, e, rfl, rfl, hx⟩)
        · intro A' E' Q' s' F' hQ'
          refine Tuple_ (spliced_more (nameX_B F' Gg.X Gg.T (bl_TypeError _) (by boot_by_name) (by decide) (spliced_more (nameX_B F' Gg.X Gg.T (bl_AttributeError _) (by boot_by_name) (by decide) (spliced_none ?_)))))
          exact wpAny_newObj_type hQ'
        · intro h' tk sl k' F' hw'
          have nx := N (L + 1, oc) (by simp)
          exact hR1 _ _ ⟨_, sl, F', newsB ⟨k' _ _ nx.2.1 (neData nx.1 nw.1 (by rw [hoc', hdw]; intro e; cases e)) nx.1, nx.2⟩ (newsB ⟨hw', nw.2⟩ (newsB ⟨k' _ _ nI.2.1 (neData nI.1 nw.1 (by rw [hdw]; intro e; cases e)) nI.1, nI.2⟩ News.nil)), m1, m2, rfl, rfl⟩
    · intro fl s' hfl
      cases fl with
      | ret v => 
        (refine keepGoal fun kgP kgk => ?_; rcases hfl with ⟨D, c, sl, rfl, F', h1, h2, h3, h4⟩; refine kgk ?_; clear kgk kgP)
        exact hR0 _ _ ⟨F', fun k => hq _ D c sl k h1 h2, h3, h4⟩
      | next =>
        (refine keepGoal fun kgP kgk => ?_; rcases hfl with ⟨m', sl, F', N', m1', m2', hg', ho'⟩; refine kgk ?_; clear kgk kgP)
        clear F N m1 m2
        generalize hwo : ({ ow with slots := sl } : Obj) = ow' at *
        have hdw' : ow'.data = .dict es ep := by rw [← hwo]; exact hdw
        walk_at "auto"
        refine iterArg F' N' hrest hgl fun J h2 F2 N2 k2 => ?_
        clear F' N'
        refine storeX_L F2 N2 ?_
        intro h3 F3 N3
        clear F2 N2
        refine wpAny_execs_cons (compA_ (L := L) (cl := [(Str.ofString "key", L + 1)]) (by kernel_rfl) rfl rfl rfl rfl (by decide) rfl (by decide) ?_)
        walk_at "runf"
        refine range1_ F3 N3 ?_
        intro r h4 tk4 t1 t2 F4 N4 nr
        clear F3 N3
        walk_at "runf"
        have nJ := N4 (J, itO l) (by simp)
        have nc := N4 (L + 1, oc) (by simp)
        have nw := N4 (Lw, ow') (by simp)
        obtain ⟨ol, hol, hol2⟩ := id hgl
        refine zipCall (l := l) (vs := vs.toArray) (N4 _ (.head _)).1 ⟨_, nJ.1, rfl, rfl⟩ ⟨ol, F4.keep _ _ hol, hol2⟩ (hsmall_ (by omega)) fun z TI TO i1 h5 hZA hlJ hlTI hz5 hTI5 hTO5 hr5 k5 => ?_
        refine wpAny_pyIter_zip hz5 ?_
        rw [rsize_ n] at hr5
        have F5 : Fr g L h5 _ := frK F4 (ds := []) (fun b o _ e => (k5 b o e).1) (by simp) (by simp)
        have hcJ : L + 1 ≠ J := neData nc.1 nJ.1 (by rw [hoc']; intro e; cases e)
        have hwJ : Lw ≠ J := neData nw.1 nJ.1 (by rw [hdw']; intro e; cases e)
        (refine keepGoal fun kgP kgk => ?_; rcases id F4.ns with ⟨oL4, _, _, hoL4, _⟩; refine kgk ?_; clear kgk kgP)
        have nL5 := (k5 _ _ hoL4).2
        refine ⟨[z, TO, i1, J], _, ?_, F5.ns, zipComp (Sp := fun k it => it.key = (vs.map kf).getD k [] ∧ it.ord = k ∧ it.more = [vs.getD k Value.none]) hh hZA hlJ hlTI hz5 hTI5 hTO5 hr5 ⟨_, (k5 _ _ nJ.1).1, rfl, rfl⟩ ⟨ol, F5.keep _ _ hol, hol2⟩ (by omega) (fun _ => rfl) (fun _ => rfl) (fun _ => rfl) ?_ ?_⟩
        · exact notC nL5.1 (notC nL5.2.2.1 (notC nL5.2.2.2 (notC (Ne.symm nJ.2.1) noneIn)))
        · intro gc C m s' k v t Q' kc Fc mi me hv hQ'
          have hcell : gc.get? (L + 1) = some oc := kc.get _ _ (notC ((k5 _ _ nc.1).2.1) (notC ((k5 _ _ nc.1).2.2.2.1) (notC ((k5 _ _ nc.1).2.2.2.2) (notC (hcJ) noneIn)))) (k5 _ _ nc.1).1
          have hgt : Keep [] g gc := ⟨fun b o _ e => kc.get _ _ (by
            have := (k5 _ _ (F4.keep _ _ e)).2
            exact notC this.1 (notC this.2.2.1 (notC this.2.2.2 (notC (fun q => by rw [q, nJ.2.2] at e; cases e) noneIn)))) (k5 _ _ (F4.keep _ _ e)).1, Nat.le_trans (keepFr F5).size kc.size⟩
          refine eltK rfl rfl rfl rfl rfl rfl Fc (kb.trans hgt) C0 hfn hcell hoc' mi me (List.mem_of_getElem? hv) (by simp only [units_deeper]; omega) (by simp only [depth_deeper]; omega) hh ?_
          intro it s'' h1 h2 h3 h4 h5 h6 h7 h8
          refine hQ' it s'' ⟨?_, ?_, ?_⟩ h4 h5 h6 h7 h8
          · rw [h1]; simp [List.getD_eq_getElem?_getD, hv]
          · rw [h2]; omega
          · rw [h3]; simp [List.getD_eq_getElem?_getD, hv]
        intro D its s6 k6 hD6 hDn hlen6 hok6 hnod6 hnew6 hJ6 h7 tk7 hn7 hs7
        have gz : ∀ x, x = z ∨ x = TI ∨ x = TO ∨ x = i1 ∨ x = J → g.get? x = none := fun x hx => by
          cases e : g.get? x with
          | none => rfl
          | some o =>
            have := (k5 _ _ (F4.keep _ _ e)).2
            rcases hx with rfl | rfl | rfl | rfl | rfl
            · exact absurd rfl this.1
            · exact absurd rfl this.2.1
            · exact absurd rfl this.2.2.1
            · exact absurd rfl this.2.2.2
            · rw [nJ.2.2] at e; cases e
        have F6 : Fr g L s6.heap _ := frKeep F5 k6.keep (notC (nL5.1) (notC (nL5.2.2.1) (notC (nL5.2.2.2) (notC (Ne.symm nJ.2.1) noneIn)))) (allC (gz _ (.inl rfl)) (allC (gz _ (.inr (.inr (.inl rfl)))) (allC (gz _ (.inr (.inr (.inr (.inl rfl))))) (allC (gz _ (.inr (.inr (.inr (.inr rfl))))) allNil))))
        have F7 : Fr g L h7 _ := F6.set hn7 hs7
        have up7 : ∀ x o, x ≠ L → x ≠ J → h4.get? x = some o → h7.get? x = some o := fun x o hx hJ e => by
          have k := k5 _ _ e
          exact (hs7.2 x hx).trans (k6.keep.get _ _ (notC (k.2.1) (notC (k.2.2.2.1) (notC (k.2.2.2.2) (notC (hJ) noneIn)))) k.1)
        have nc7 := up7 _ _ nc.2.1 hcJ nc.1
        have nw7 := up7 _ _ nw.2.1 hwJ nw.1
        (refine keepGoal fun kgP kgk => ?_; rcases id F5.ns with ⟨oL5, _, _, hoL5, _⟩; refine kgk ?_; clear kgk kgP)
        have hDL : D ≠ L := fun e => by rw [e, hoL5] at hDn; cases hDn
        have hD7 := (hs7.2 D hDL).trans hD6
        have hgD : g.get? D = none := by
          cases e : g.get? D with
          | none => rfl
          | some o => have := F5.keep _ _ e; rw [hDn] at this; cases this
        have hi7 : ∀ x ∈ its, h7.get? x.adr = some x.obj ∧ x.adr ≠ L ∧ g.get? x.adr = none := fun x hx => by
          have hxL : x.adr ≠ L := fun e => by have := (hnew6 x hx).2; rw [e, hoL5] at this; cases this
          obtain ⟨j, hj⟩ := List.getElem?_of_mem hx
          refine ⟨(hs7.2 _ hxL).trans (hok6 j x hj).2, hxL, ?_⟩
          cases e : g.get? x.adr with
          | none => rfl
          | some o => have := F5.keep _ _ e; rw [(hnew6 x hx).2] at this; cases this
        have hJ7 : if vs.length < (max n 0).toNat then Gone h7 J else h7.IsListIter J l its.length := by
          split
          · rename_i hc; rw [if_pos hc] at hJ6; exact hJ6.at fun o e => (hs7.2 J nJ.2.1).trans e
          · rename_i hc; rw [if_neg hc] at hJ6
            obtain ⟨oj, hoj, hoj2⟩ := hJ6
            exact ⟨oj, (hs7.2 J nJ.2.1).trans hoj, hoj2⟩
        have hok7 : ∀ (k : Nat) (it : Itm), its[k]? = some it → it.key = (vs.map kf).getD k [] ∧ it.ord = (k : Int) ∧ it.more = [vs.getD k Value.none] := fun k it e => (hok6 k it e).1
        have g7 : s6.gens = s.gens := k6.gens.trans hg'
        have o7 : s6.os = s.os := k6.os.trans ho'
        have mn7 : (fun y => if y = Str.ofString "result" then some (Value.ref D) else if y = Str.ofString "it" then some (Value.ref J) else m' y) (Str.ofString "n") = some (Value.int n tn) := by walk_at "lv"
        have mr7 : (fun y => if y = Str.ofString "result" then some (Value.ref D) else if y = Str.ofString "it" then some (Value.ref J) else m' y) (Str.ofString "result") = some (Value.ref D) := by walk_at "lv"
        have mi7 : (fun y => if y = Str.ofString "result" then some (Value.ref D) else if y = Str.ofString "it" then some (Value.ref J) else m' y) (Str.ofString "it") = some (Value.ref J) := by walk_at "lv"
        revert F7 mn7 mr7 mi7
        generalize (fun y => if y = Str.ofString "result" then some (Value.ref D) else if y = Str.ofString "it" then some (Value.ref J) else m' y) = m7
        intro F7 mn7 mr7 mi7
        have hnJ := nJ.2
        have hnc := nc.2
        have hnw := nw.2
        clear hok6 hnew6 hJ6 up7 gz F6 F5 F4 k5 nL5 hs7 hn7 k6 N4 nJ nc nw hD6 hDn m1' m2' k2 hz5 hTI5 hTO5 hr5 hZA hlTI nr hg' ho' hoL4 hoL5 
        generalize hS : ({ s6 with heap := h7, toks := tk7 } : Shared) = s7
        have e7 : s7.heap = h7 := by rw [← hS]
        have ge7 : s7.gens = s.gens := by rw [← hS]; exact g7
        have os7 : s7.os = s.os := by rw [← hS]; exact o7
        subst e7
        clear hS g7 o7
        have N7 : News g L s7.heap ((L + 1, oc) :: (Lw, ow') :: (D, listOf (its.map Itm.val).toArray its.length) :: its.map fun x => (x.adr, x.obj)) :=
          newsCons nc7 hnc.1 hnc.2 (newsCons nw7 hnw.1 hnw.2 (newsCons hD7 hDL hgD fun q hq => by obtain ⟨x, hx, rfl⟩ := List.mem_map.mp hq; exact hi7 x hx))
        have hD7' := hD7
        walk_at "runf"
        refine wpAny_truthy_list (PySem.IsL.isList (n := its.length) hD7) (by simp; omega) ?_
        by_cases hn0 : n ≤ 0
        · have e0 : its = [] := List.eq_nil_of_length_eq_zero (by omega)
          subst e0
          walk_at "auto"
          have e1 : n.toNat = 0 := by omega
          exact hR0 _ _ ⟨⟨_, F7⟩, fun k => hq _ D 0 sl k (by rw [hwo]; exact nw7) (by rw [e1]; exact hD7), ge7, os7⟩
        · have hlen : its.length = min n.toNat vs.length := by rw [hlen6]; congr 1; omega
          have hl2 : 2 ≤ its.length := by omega
          have e2 : (!(its.map Itm.val).toArray.isEmpty) = true := by
            cases its with
            | nil => simp at hl2
            | cons a b => rfl
          rw [e2]
          walk_at "auto"
          have ovt : ∀ x : Int, ov true x = x := fun x => rfl
          have IG : ItsG s7 its := ⟨fun i hi => (hi7 i hi).1, fun i hi => by obtain ⟨k, hk⟩ := List.getElem?_of_mem hi; exact .inr ⟨_, (hok7 k i hk).2.2⟩, hnod6, ord_nodup (σ := true) fun k it e => by rw [ovt]; exact (hok7 k it e).2.1⟩
          refine hpMaxI (its := its) (e := its.length) (m := m7) Gg F7 hD7 hgD ⟨IG.ob, IG.mr, IG.adr, IG.ord⟩ (by omega) (by simp only [depth_deeper]; omega) (by simp only [units_deeper]; omega) hh ?_
          intro s8 its8 k8 hD8 p8 hs8
          replace k8 : KeepS [D] s7 s8 := ⟨k8.keep, k8.gens, k8.os⟩
          obtain ⟨tg, e8, H8⟩ := Hst.start (σ := true) (bs := vs.map kf) (R := fun k it => it.key = (vs.map kf).getD k [] ∧ it.more = [vs.getD k Value.none]) (n := n) (fun k it e => ⟨⟨(hok7 k it e).1, (hok7 k it e).2.2⟩, (hok7 k it e).2.1⟩) (by rw [ovt]; omega) hnod6 p8 hs8
          have hdD : ∀ x ∈ its, x.adr ≠ D := fun x hx e => by have := (hi7 x hx).1; rw [e, hD7] at this; exact listNeItm (Option.some.inj this)
          have hcD : L + 1 ≠ D := neData nc7 hD7 (by rw [hoc']; intro e; cases e)
          have hwD : Lw ≠ D := neData nw7 hD7 (by rw [hdw']; intro e; cases e)
          have F8 : Fr g L s8.heap m7 := frKeep F7 k8.keep (notC (Ne.symm hDL) noneIn) (allC hgD allNil)
          have hi8 : ∀ x ∈ tg, s8.heap.get? x.2.adr = some x.2.obj ∧ x.2.adr ≠ L ∧ g.get? x.2.adr = none := fun x hx => by
            have hx' : x.2 ∈ its := p8.mem_iff.mp (e8 ▸ List.mem_map.mpr ⟨x, hx, rfl⟩)
            exact ⟨k8.keep.get _ _ (notC (hdD _ hx') noneIn) (hi7 _ hx').1, (hi7 _ hx').2⟩
          have htl : tg.length = its.length := by have := congrArg List.length e8; rw [p8.length_eq] at this; simpa using this
          obtain ⟨r0, rest0, etg⟩ : ∃ r0 rest0, tg = r0 :: rest0 := by
            cases tg with
            | nil => simp at htl; omega
            | cons a b => exact ⟨a, b, rfl⟩
          have nc8 := k8.keep.get _ _ (notC hcD noneIn) nc7
          have nw8 := k8.keep.get _ _ (notC hwD noneIn) nw7
          have hJD : J ≠ D := fun e => by
            split at hJ7
            · obtain ⟨o, vs', h1, h2, h3, h4⟩ := hJ7; rw [e, hD7] at h1; have := Option.some.inj h1; subst this; cases h3
            · obtain ⟨o, h1, h2, h3⟩ := hJ7; rw [e, hD7] at h1; have := Option.some.inj h1; subst this; cases h3
          have N8 : News g L s8.heap [(L + 1, oc), (Lw, ow')] := newsCons nc8 hnc.1 hnc.2 (newsCons nw8 hnw.1 hnw.2 News.nil)
          rw [← e8] at hD8
          clear N7
          walk_at "auto"
          refine item_nat (k := 0) (PySem.IsL.isList (n := its.length) hD8) (by simp; omega) (by simp; omega) ?_
          subst etg
          walk1
          show wpAny _ _ (subscriptTail _ _ (Value.ref r0.2.adr) (Value.int 0 _)) _ _ _
          refine itm_first (i := r0.2) (hi8 _ (.head _)).1 ?_
          have hD8' := hD8
          obtain ⟨oJ, hoJ, hcJ', hJ8⟩ : ∃ oJ, s8.heap.get? J = some oJ ∧ oJ.cls = .type "list_iterator" ∧ ∀ h : Heap, h.get? J = some oJ → if vs.length < (max n 0).toNat then Gone h J else h.IsListIter J l its.length := by
            by_cases hc : vs.length < (max n 0).toNat
            · rw [if_pos hc] at hJ7
              (refine keepGoal fun kgP kgk => ?_; rcases hJ7 with ⟨o, vs', h1, h2, h3⟩; refine kgk ?_; clear kgk kgP)
              exact ⟨o, k8.keep.get _ _ (notC hJD noneIn) h1, h2, fun h e => by rw [if_pos hc]; exact ⟨o, vs', e, h2, h3⟩⟩
            · rw [if_neg hc] at hJ7
              (refine keepGoal fun kgP kgk => ?_; rcases hJ7 with ⟨o, h1, h2, h3⟩; refine kgk ?_; clear kgk kgP)
              exact ⟨o, k8.keep.get _ _ (notC hJD noneIn) h1, h2, fun h e => by rw [if_neg hc]; exact ⟨o, e, h2, h3⟩⟩
          have N9 : News g L s8.heap ((L + 1, oc) :: (Lw, ow') :: (J, oJ) :: (D, _) :: (r0 :: rest0).map fun x => (x.2.adr, x.2.obj)) := newsCons nc8 hnc.1 hnc.2 (newsCons nw8 hnw.1 hnw.2 (newsCons hoJ hnJ.1 hnJ.2 (newsCons hD8 hDL hgD fun q hq => by obtain ⟨x, hx, rfl⟩ := List.mem_map.mp hq; exact hi8 x hx)))
          clear N8
          walk_at "auto"
          refine for_ ?_
          walk_at "auto"
          rename_i h9 F9 N9
          have hoJ9 := (N9 (J, oJ) (by simp)).1
          refine pyIter_li hoJ9 hcJ' ?_
          refine forB (I := fun nn s' => ∃ j tg order m, nn = vs.length + 1 - j ∧ LpSt g L Lw D J l oc ow' true (vs.map kf) (fun k it => it.key = (vs.map kf).getD k [] ∧ it.more = [vs.getD k Value.none]) vs.length its.length (vs.length < (max n 0).toNat) 35 s j tg order m s') (n₀ := vs.length + 1 - its.length) ⟨its.length, r0 :: rest0, n, _, rfl, F9, (N9 (L + 1, oc) (by simp)).1, (N9 (Lw, ow') (by simp)).1, ⟨_, (N9 (D, _) (.tail _ (.tail _ (.tail _ (.head _))))).1⟩, fun x hx => N9 (x.2.adr, x.2.obj) (.tail _ (.tail _ (.tail _ (.tail _ (List.mem_map.mpr ⟨x, hx, rfl⟩))))), fun hc => ⟨by have := hJ8 _ hoJ9; rw [if_pos hc] at this; exact this, by omega⟩, fun hc => by have := hJ8 _ hoJ9; rw [if_neg hc] at this; exact this, H8, htl, by walk_at "lv", ⟨_, by walk_at "lv"⟩, ⟨_, by walk_at "lv"⟩, by walk_at "lv", by omega, k8.gens.trans ge7, k8.os.trans os7⟩ ?_
          clear hD8 hD8' hi8 hJ8 hoJ hoJ9 N9 F9 F8 H8 nc8 nw8 e8 htl k8 p8 hs8 hi7 hok7 hdD hD7 hD7' hnod6 nc7 nw7 hJ7 hlen6 IG
          intro T2 Z2 nn hT2 hZ2 s1 kgI
          (refine keepGoal fun kgP kgk => ?_; rcases kgI with ⟨j, tg, order, m1, rfl, Z⟩; refine kgk ?_; clear kgk kgP)
          have hfng : FnAt q g := by
            (refine keepGoal fun kgP kgk => ?_; rcases hfn with ⟨a, b, c, d, e⟩; refine kgk ?_; clear kgk kgP)
            exact ⟨a, b, c, d, kb.get _ _ (by simp) e⟩
          obtain ⟨r0, rest0, etg⟩ : ∃ r0 rest0, tg = r0 :: rest0 := by
            have := Z.len
            cases tg with
            | nil => simp at this; omega
            | cons a b => exact ⟨a, b, rfl⟩
          subst etg
          obtain ⟨eD, hlst⟩ := Z.lst
          obtain ⟨tt, htop⟩ := Z.mtop
          obtain ⟨ot, hord⟩ := Z.mord
          have hres := Z.mres
          have hhr := Z.mhr
          have hcJ1 := Z.neJ Z.cell (fun fs => by rw [hoc']; intro e; cases e)
          have hwJ1 := Z.neJ Z.low (fun fs => by rw [hdw']; intro e; cases e)
          have hDJ1 := Z.neJ hlst (fun fs => by intro e; cases e)
          have hiJ1 : ∀ x ∈ r0 :: rest0, x.2.adr ≠ J := fun x hx => Z.neJ (Z.its x hx).1 (fun fs => by intro e; cases e)
          refine Z.next hh hgl (fun ej h' k' => ?_) (fun v h' hng hv hit hsb => ?_)
          · dsimp only
            have F1 : Fr g L h' m1 := frK Z.fr (ds := [J]) (fun b o hb e => k' b o (notOf hb) e) (notC (Ne.symm hnJ.1) noneIn) (allC hnJ.2 allNil)
            have hcD : L + 1 ≠ D := neData Z.cell hlst (by rw [hoc']; intro e; cases e)
            have hwD : Lw ≠ D := neData Z.low hlst (by rw [hdw']; intro e; cases e)
            have hi1 : ∀ x ∈ r0 :: rest0, h'.get? x.2.adr = some x.2.obj ∧ x.2.adr ≠ L ∧ g.get? x.2.adr = none := fun x hx => ⟨k' _ _ (hiJ1 x hx) (Z.its x hx).1, (Z.its x hx).2⟩
            have hD1 := k' _ _ hDJ1 hlst
            have N1 : News g L h' ((D, listOf (((r0 :: rest0).map Prod.snd).map Itm.val).toArray eD) :: (Lw, ow') :: ((r0 :: rest0).map Prod.snd).map fun x => (x.adr, x.obj)) := newsCons hD1 hDL hgD (newsCons (k' _ _ hwJ1 Z.low) hnw.1 hnw.2 fun q hq => by
              obtain ⟨y, hy, rfl⟩ := List.mem_map.mp hq
              obtain ⟨x, hx, rfl⟩ := List.mem_map.mp hy
              exact hi1 x hx)
            refine hZ2 _ ?_
            dsimp only
            walk_at "runf"
            refine sortT (its := (r0 :: rest0).map Prod.snd) F1 N1 ?_ ?_ Z.hst.ords ?_ ?_ ?_
            · intro q hq
              rcases List.mem_cons.mp hq with rfl | hq
              · exact hwD
              · obtain ⟨y, hy, rfl⟩ := List.mem_map.mp hq
                obtain ⟨x, hx, rfl⟩ := List.mem_map.mp hy
                exact neData (hi1 x hx).1 hD1 (by intro e; cases e)
            · intro i hi
              exact .tail _ (List.mem_map.mpr ⟨i, hi, rfl⟩)
            · have := Z.len; simp at this ⊢; omega
            · have := Z.len; simp at this ⊢; omega
            intro h2 c2 p2 hst2 F2 N2
            clear F1 N1
            have ltl : ((r0 :: rest0).map Prod.snd).length = (r0 :: rest0).length := by simp
            rw [ltl] at hst2
            have H1 := Z.hst
            rw [ej] at H1
            have LO := H1.lastMax (fun i it h => h.1) (show Stable (flt true (vs.map kf)) vs.length P from hP) hst2
            rw [LO.vals] at N2
            walk_at "runf"
            refine comp_ (cl := []) rfl (by decide) rfl (by decide) ?_
            walk_at "runf"
            refine wpAny_pyIter_list (PySem.IsL.isList (n := c2) (N2 _ (.head _)).1) ?_
            have up3 : ∀ b o, h2.get? b = some o → (h2.push (itO D)).get? b = some o := fun b o e => Heap.get?_push_of_some _ e
            have F3 : Fr g L (h2.push (itO D)) _ := frK F2 (ds := []) (fun b o _ e => up3 b o e) (by simp) (by simp)
            refine ⟨[h2.objs.size], lastComp3 (out := fun it => it.more.getD 0 Value.none) ⟨fun C x hx => ?_, fun C => rfl⟩ hh ⟨_, Heap.get?_push_size _ rfl, rfl, rfl⟩ (up3 _ _ (N2 _ (.head _)).1) ?_ ?_ ?_ ?_⟩
            · simp at hx
              rcases hx with rfl | rfl | rfl <;> rfl
            · rw [LO.len, Z.len]; omega
            · intro i hi
              obtain ⟨x, hx, rfl⟩ := LO.mem i hi
              exact up3 _ _ (N2 (x.2.adr, x.2.obj) (.tail _ (.tail _ (List.mem_map.mpr ⟨x.2, List.mem_map.mpr ⟨x, hx, rfl⟩, rfl⟩)))).1
            · intro i hi
              obtain ⟨x, hx, rfl⟩ := LO.mem i hi
              rw [(H1.tag x hx).2]; rfl
            · intro D' s4 k4 hD4 hn4
              have F4 : Fr g L s4.heap _ := frKeep F3 k4.keep (notC (Nat.ne_of_lt F2.ns.lt) noneIn) (allC (Heap.get?_none_of_le (Nat.le_trans F2.above (Nat.le_of_lt F2.ns.lt))) allNil)
              have hw4 : s4.heap.get? Lw = some ow' := k4.keep.get _ _ (notC (Nat.ne_of_lt (Heap.lt_size (N2 (Lw, ow') (by simp)).1)) noneIn) (up3 _ _ (N2 (Lw, ow') (by simp)).1)
              refine hR0 _ _ ⟨⟨_, F4⟩, fun k => hq _ D' (r0 :: rest0).length sl k (by rw [hwo]; exact hw4) ?_, k4.gens.trans Z.gens, k4.os.trans Z.os⟩
              have e5 : P.take (r0 :: rest0).length = P.take n.toNat := by
                rw [Z.len, hlen]
                rcases Nat.le_total n.toNat vs.length with h | h
                · rw [Nat.min_eq_left h]
                · rw [Nat.min_eq_right h, List.take_of_length_le (by rw [stable_len hP]; exact Nat.le_refl _), List.take_of_length_le (by rw [stable_len hP]; exact h)]
              rw [LO.out (vs := vs) (fun x hx => by rw [(H1.tag x hx).2]; rfl), e5, LO.len] at hD4
              exact hD4
          · dsimp only
            refine wpAny_assign_Name ?_
            obtain ⟨oJ1, hoJ1, hoJ2⟩ := hit
            have F1 : Fr g L h' m1 := Z.fr.change hsb hnJ.1 hnJ.2
            have N1 : News g L h' ((L + 1, oc) :: (Lw, ow') :: (J, oJ1) :: (D, _) :: (r0 :: rest0).map fun x => (x.2.adr, x.2.obj)) := newsCons ((hsb.2 _ hcJ1).trans Z.cell) hnc.1 hnc.2 (newsCons ((hsb.2 _ hwJ1).trans Z.low) hnw.1 hnw.2 (newsCons hoJ1 hnJ.1 hnJ.2 (newsCons ((hsb.2 _ hDJ1).trans hlst) hDL hgD fun q hq => by obtain ⟨x, hx, rfl⟩ := List.mem_map.mp hq; exact ⟨(hsb.2 _ (hiJ1 x hx)).trans (Z.its x hx).1, (Z.its x hx).2⟩)))
            walk_at "auto"
            rename_i h2 F2 N2
            clear F1 N1
            have hvm : v ∈ vs := List.mem_of_getElem? hv
            have hjN : j < vs.length := (List.getElem?_eq_some_iff.mp hv).1
            have hkj : (vs.map kf).getD j [] = kf v := by simp [List.getD_eq_getElem?_getD, hv]
            have hvj : vs.getD j Value.none = v := by simp [List.getD_eq_getElem?_getD, hv]
            refine (C0.mono kb (fun _ h => h)) v hvm _ _ _ _ (by simp only [units_deeper]; omega) (by simp only [depth_deeper]; omega) hh (keepFr F2) fun s2 tk2 k2 => ?_
            have F3 := frKeep F2 k2.keep (by simp) (by simp)
            have N3 := newsKeep N2 k2.keep (by simp)
            clear F2 N2
            walk_at "auto"
            rename_i h4 F4 N4
            clear F3 N3
            refine lt_bytes ?_
            have hflt : flt true (vs.map kf) j r0.1 = blt (kf v).toArray.toList ((r0 :: rest0).getD 0 tg0).2.key.toArray.toList := by
              show blt ((vs.map kf).getD j []) ((vs.map kf).getD r0.1 []) = _
              rw [hkj, ← (Z.hst.tag r0 (.head _)).1]; rfl
            cases hb : blt (kf v).toArray.toList ((r0 :: rest0).getD 0 tg0).2.key.toArray.toList with
            | false =>
              rw [hb] at hflt
              walk_at "auto"
              exact hT2 _ _ ⟨vs.length + 1 - (j + 1), by omega, j + 1, r0 :: rest0, order, _, rfl, F4, (N4 (L + 1, oc) (by simp)).1, (N4 (Lw, ow') (by simp)).1, ⟨eD, (N4 (D, _) (.tail _ (.tail _ (.tail _ (.head _))))).1⟩, fun x hx => N4 (x.2.adr, x.2.obj) (.tail _ (.tail _ (.tail _ (.tail _ (List.mem_map.mpr ⟨x, hx, rfl⟩))))), fun hc => absurd hc hng, fun _ => ⟨oJ1, (N4 (J, oJ1) (by simp)).1, hoJ2⟩,
                Z.hst.skip (fun i it h => h.1) hflt, Z.len, by walk_at "lv", ⟨tt, by walk_at "lv"⟩, ⟨ot, by walk_at "lv"⟩, by walk_at "lv", by omega, k2.gens.trans Z.gens, k2.os.trans Z.os⟩
            | true =>
              rw [hb] at hflt
              walk_at "auto"
              rename_i r' h5 F5 N5 n5
              clear F4 N4
              have nwO : (⟨r', kf v, order, tk2, ot, [v]⟩ : Itm).obj = tupO [.bytes (kf v).toArray tk2, .int order ot, v] := rfl
              have hDm : (D, listOf (((r0 :: rest0).map Prod.snd).map Itm.val).toArray eD) ∈ (L + 1, oc) :: (Lw, ow') :: (J, oJ1) :: (D, listOf (((r0 :: rest0).map Prod.snd).map Itm.val).toArray eD) :: (r0 :: rest0).map fun x => (x.2.adr, x.2.obj) := .tail _ (.tail _ (.tail _ (.head _)))
              have him : ∀ x ∈ r0 :: rest0, (x.2.adr, x.2.obj) ∈ (L + 1, oc) :: (Lw, ow') :: (J, oJ1) :: (D, listOf (((r0 :: rest0).map Prod.snd).map Itm.val).toArray eD) :: (r0 :: rest0).map fun x => (x.2.adr, x.2.obj) := fun x hx => .tail _ (.tail _ (.tail _ (.tail _ (List.mem_map.mpr ⟨x, hx, rfl⟩))))
              have nr5 := N5 _ (.head _)
              have hDr : D ≠ r' := n5 _ hDm
              have had : ∀ x ∈ r0 :: rest0, x.2.adr ≠ r' := fun x hx => n5 _ (him x hx)
              refine repMaxI (r := r0.2) (nw := ⟨r', kf v, order, tk2, ot, [v]⟩) (rest := rest0.map Prod.snd) (e := eD) Gg F5 (N5 _ (.tail _ hDm)).1 hgD
                (Z.hst.itsG (fun i it h => .inr ⟨_, h.2⟩) (fun x hx => (N5 _ (.tail _ (him x hx))).1) nr5.1 (.inr ⟨_, rfl⟩) rfl had) Z.hst.hs (by have := Z.len; simp at this ⊢; omega) (by simp only [depth_deeper]; omega) (by simp only [units_deeper]; omega) ?_
              intro s6 its6 k6 hD6 p6 hs6
              obtain ⟨tg6, ptg, etg⟩ := perm_map (f := Prod.snd) (l := (j, (⟨r', kf v, order, tk2, ot, [v]⟩ : Itm)) :: rest0) (ys := its6) p6
              subst etg
              have H6 := Z.hst.swap (order' := order + 1) (fun i it h => h.1) hflt (nw := ⟨r', kf v, order, tk2, ot, [v]⟩) ⟨hkj.symm, by rw [hvj]⟩ rfl (by show order < order + 1; omega) had ptg hs6
              have F6 := frKeep F5 k6.keep (notC (Ne.symm hDL) noneIn) (allC hgD allNil)
              have hit6 : ∀ x ∈ tg6, s6.heap.get? x.2.adr = some x.2.obj ∧ x.2.adr ≠ L ∧ g.get? x.2.adr = none := fun x hx => by
                rcases List.mem_cons.mp (ptg.mem_iff.mp hx) with rfl | hx
                · exact ⟨k6.keep.get _ _ (notC (Ne.symm hDr) noneIn) nr5.1, nr5.2⟩
                · have nx := N5 _ (.tail _ (him x (.tail _ hx)))
                  exact ⟨k6.keep.get _ _ (notC (neData nx.1 (N5 _ (.tail _ hDm)).1 (by intro e; cases e)) noneIn) nx.1, nx.2⟩
              have nk : ∀ a o, (a, o) ∈ (L + 1, oc) :: (Lw, ow') :: (J, oJ1) :: (D, listOf (((r0 :: rest0).map Prod.snd).map Itm.val).toArray eD) :: (r0 :: rest0).map (fun x => (x.2.adr, x.2.obj)) → a ≠ D → s6.heap.get? a = some o ∧ a ≠ L ∧ g.get? a = none := fun a o hm hne => ⟨k6.keep.get _ _ (notC hne noneIn) (N5 _ (.tail _ hm)).1, (N5 _ (.tail _ hm)).2⟩
              have hcD : L + 1 ≠ D := neData Z.cell hlst (by rw [hoc']; intro e; cases e)
              have hwD : Lw ≠ D := neData Z.low hlst (by rw [hdw']; intro e; cases e)
              have N6 : News g L s6.heap ((L + 1, oc) :: (Lw, ow') :: (J, oJ1) :: (D, listOf ((tg6.map Prod.snd).map Itm.val).toArray eD) :: tg6.map fun x => (x.2.adr, x.2.obj)) := newsCons (nk _ _ (by simp) hcD).1 hnc.1 hnc.2 (newsCons (nk _ _ (by simp) hwD).1 hnw.1 hnw.2 (newsCons (nk J oJ1 (by simp) (Ne.symm hDJ1)).1 hnJ.1 hnJ.2 (newsCons hD6 hDL hgD fun q hq => by obtain ⟨x, hx, rfl⟩ := List.mem_map.mp hq; exact hit6 x hx)))
              clear F5 N5 nr5 nk
              have hlen6 : tg6.length = its.length := by rw [ptg.length_eq, ← Z.len]; rfl
              obtain ⟨a6, b6, etg⟩ : ∃ a6 b6, tg6 = a6 :: b6 := by
                cases tg6 with
                | nil => simp at hlen6; omega
                | cons a b => exact ⟨a, b, rfl⟩
              subst etg
              walk_at "auto"
              refine item_nat (k := 0) (PySem.IsL.isList (n := eD) hD6) (by simp) (by have := hlen6; simp at this ⊢; omega) ?_
              have ho6 := hit6 a6 (.head _)
              have hm6 := (H6.tag a6 (.head _)).2
              show wpAny _ _ (assign _ _ (Value.ref a6.2.adr)) _ _ _
              refine assign3 (x := .bytes a6.2.key.toArray a6.2.t) (y := .int a6.2.ord a6.2.u) (z := vs.getD a6.1 Value.none) hh ⟨_, ho6.1, rfl, _, by show Data.seq _ _ = _; rw [hm6]⟩ rfl rfl rfl rfl F6.ns ?_
              intro h7 tk7 hn7 k7
              have F7 := frSetNs F6 hn7 k7
              have N7 : News g L h7 _ := fun q hq => ⟨k7 _ _ (N6 q hq).2.1 (N6 q hq).1, (N6 q hq).2⟩
              clear F6 N6
              walk_at "auto"
              refine wpAny_loadName_local rfl rfl F7.ns (by walk_at "lv") ?_
              walk_at "auto"
              refine iaddOne ?_
              walk_at "auto"
              rename_i h8 F8 N8
              exact hT2 _ _ ⟨vs.length + 1 - (j + 1), by omega, j + 1, a6 :: b6, order + 1, _, rfl, F8, (N8 (L + 1, oc) (by simp)).1, (N8 (Lw, ow') (by simp)).1, ⟨eD, (N8 (D, _) (.tail _ (.tail _ (.tail _ (.head _))))).1⟩, fun x hx => N8 (x.2.adr, x.2.obj) (.tail _ (.tail _ (.tail _ (.tail _ (List.mem_map.mpr ⟨x, hx, rfl⟩))))), fun hc => absurd hc hng, fun _ => ⟨oJ1, (N8 (J, oJ1) (by simp)).1, hoJ2⟩,
                H6, hlen6, by walk_at "lv", ⟨_, by walk_at "lv"⟩, ⟨_, by walk_at "lv"⟩, by walk_at "lv", by omega, k6.gens.trans (k2.gens.trans Z.gens), k6.os.trans (k2.os.trans Z.os)⟩
      | _ => exact hfl.elim
end
end
section
section
variable {prog : Program} {w : World} {A : Around} {E : Value → Shared → Prop} {s : Shared} {p : Program} {loose : List Str} {mg mb : Str → Option Value}
theorem nlK_call {h₀ : Heap} {n : Int} {tn : Tok} {q l I arg Lw : Addr} {ds : List Addr} {vs : List Value} {kf : Value → List UInt8} {ow : Obj} {es : Array DictEntry} {ep : Nat} {lenv : Env} {P : List Nat} {Q : Value → Shared → Prop}
    (G : Gd (hd.heap_1 w.params) p loose mg mb h₀) (C0 : KeyOk prog w h₀ (.ref q) vs kf) (hfn : FnAt q h₀) (st : Keep [] h₀ s.heap) (hds : ∀ d ∈ ds, h₀.get? d = none)
    (harg : (arg = l ∧ ds = [Lw]) ∨ (arg = I ∧ ds = [I, Lw] ∧ s.heap.get? I = some (itO l)))
    (hl : s.heap.IsList l vs.toArray) (hlds : l ∉ ds) (hfr : A.frames = some [lenv]) (hfw : lenv.frame = some Lw) (hkw : lenv.scope.kind = .function) (hw : s.heap.get? Lw = some ow) (hdw : ow.data = .dict es ep)
    (hn : -1 ≤ n ∧ n ≤ vs.length + 1) (hvs : 3 ≤ vs.length ∧ vs.length < 64) (hroom : A.depth + 20 < recursionLimit) (hu : A.units + 400 < cLine) (hh : A.handled = none)
    (hP : Stable (flt false (vs.map kf)) vs.length P) (hth : ∀ v ∈ vs, Thg h₀ v)
    (hq : ∀ s' D c sl, KeepS ds s s' → s'.heap.get? Lw = some { ow with slots := sl } → s'.heap.get? D = some (listOf ((P.take n.toNat).map fun i => vs.getD i Value.none).toArray c) → Q (.ref D) s') :
    wpAny (model prog w) A (call (.ref 82) [.int n tn, .ref arg] [(Str.ofString "key", .ref q)]) Q E s := by
  have X0 := G.X.keeps (fun b o e => st.get b o (by simp) e)
  have hT : s.heap.get? 77 = some { cls := .type "tuple", data := .seq #[Value.none] } := X0 _ _ rfl
  refine enterC (binds := [(Str.ofString "n", Value.int n tn), (Str.ofString "iterable", Value.ref arg), (Str.ofString "key", Value.ref q)]) ds G st hds rfl rfl (by omega) (BindsTo.of_defaults rfl hT rfl rfl rfl) rfl (by decide +kernel) ?_
  intro g L h₁ tk cells F NC CA kg Gg kh ng kb
  refine absQ fun R0 hR0 => ?_
  obtain ⟨oc, rfl, hoc⟩ := CellsAre.one (show CellsAre _ [(Str.ofString "key", L + 1)] cells from CA)
  have hoc' : oc.data = .cell (some (.ref q)) := hoc
  clear CA hoc
  obtain ⟨m, F2, m1, m2⟩ : ∃ m, Fr g L h₁ m ∧ m (Str.ofString "n") = some (.int n tn) ∧ m (Str.ofString "iterable") = some (.ref arg) := ⟨_, F, rfl, rfl⟩
  clear F
  have F := F2
  clear F2
  have hLw : Lw ∈ ds := by rcases harg with ⟨_, rfl⟩ | ⟨_, rfl, _⟩ <;> simp
  obtain ⟨rest, N, hrest⟩ : ∃ rest, News g L h₁ ((L + 1, oc) :: (Lw, ow) :: rest) ∧ ((arg = l ∧ rest = []) ∨ (arg = I ∧ rest = [(I, itO l)])) := by
    have n2 : h₁.get? Lw = some ow ∧ Lw ≠ L ∧ g.get? Lw = none := ⟨(kh _ _ hw).1, Nat.ne_of_lt (kh _ _ hw).2, ng _ hLw⟩
    rcases harg with ⟨h1, h2⟩ | ⟨h1, h2, h3⟩
    · exact ⟨[], fun q hq => by rcases List.mem_cons.mp hq with rfl | hq; exact NC _ (.head _); rw [List.mem_singleton.mp hq]; exact n2, .inl ⟨h1, rfl⟩⟩
    · refine ⟨[(I, itO l)], fun q hq => ?_, .inr ⟨h1, rfl⟩⟩
      rcases List.mem_cons.mp hq with rfl | hq
      · exact NC _ (.head _)
      · rcases List.mem_cons.mp hq with rfl | hq
        · exact n2
        · rw [List.mem_singleton.mp hq]
          exact ⟨(kh _ _ h3).1, Nat.ne_of_lt (kh _ _ h3).2, ng _ (by rw [h2]; simp)⟩
  have hgl : g.IsList l vs.toArray := by
    obtain ⟨ol, hol, hol2⟩ := hl
    exact ⟨ol, kg.get _ _ hlds hol, hol2⟩
  clear NC
  walk_at "run"
  by_cases h1 : n = 1
  · subst h1
    walk_at "auto"
    refine iterArg F N hrest hgl fun J h2 F2 N2 k2 => ?_
    clear F N
    walk_at "auto"
    refine objArg ‹_› ‹_› fun S h3 F3 N3 k3 => ?_
    clear F2 N2
    walk_at "auto"
    rename_i h4 F4 N4
    have nJ := N4 (J, itO l) (by simp)
    have nS := N4 (S, objO) (by simp)
    have hlJ : l ≠ J := fun e => by
      obtain ⟨ol, hol, _⟩ := hgl
      rw [e, nJ.2.2] at hol; cases hol
    have hl4 : h4.IsList l vs.toArray := by
      obtain ⟨ol, hol, hol2⟩ := hgl
      exact ⟨ol, F4.keep _ _ hol, hol2⟩
    have hJL : L ≠ J := fun e => nJ.2.1 e.symm
    show wpAny _ _ (call (.builtin "max") [.ref J] [(Str.ofString "default", .ref S), (Str.ofString "key", .ref q)]) _ _ _
    refine max_key hh (by simp only [units_deeper]; omega) (by simp only [depth_deeper]; omega) F4 (C0.mono kb (fun _ h => h)) hlJ hJL nJ.2.2 hl4 ⟨_, nJ.1, rfl, rfl⟩ (by omega) fun i v s4 hv hbest k5 F5 g5 o5 => ?_
    have nc4 := N4 (L + 1, oc) (by simp)
    have nw4 := N4 (Lw, ow) (by simp)
    have N5 : News g L s4.heap [(L + 1, oc), (S, objO), (Lw, ow)] := newsB ⟨k5 _ _ (neData nc4.1 nJ.1 (by rw [hoc']; intro e; cases e)) nc4.1, nc4.2⟩ (newsB ⟨k5 _ _ (neData nS.1 nJ.1 (by intro e; cases e)) nS.1, nS.2⟩ (newsB ⟨k5 _ _ (neData nw4.1 nJ.1 (by rw [hdw]; intro e; cases e)) nw4.1, nw4.2⟩ News.nil))
    clear F3 N3 F4 N4
    walk_at "auto"
    rename_i h6 F6 N6
    have hvm : v ∈ vs := List.mem_of_getElem? hv
    refine is_sentinel ((hth v hvm).mono (fun b o e => F6.keep _ _ (kb.get b o (by simp) e))) (N6 (S, objO) (by simp)).1 ?_
    walk_at "auto"
    rename_i D h7 F7 N7 n7
    have hi : i < vs.length := (List.getElem?_eq_some_iff.mp hv).1
    have e1 : P.take 1 = [i] := take_one (flt_swn false _) hP hi hbest
    have e2 : ((P.take (1 : Int).toNat).map fun i => vs.getD i Value.none) = [v] := by
      rw [show (1 : Int).toNat = 1 from rfl, e1]
      simp [List.getD_eq_getElem?_getD, hv]
    exact hR0 _ _ ⟨⟨_, F7⟩, fun k => hq _ D 0 ow.slots k (N7 (Lw, ow) (by simp)).1 (by rw [e2]; exact (N7 (D, _) (.head _)).1), g5, o5⟩

  · walk_at "auto"
    refine wpAny_mono (Q := fun fl s' => match fl with
      | .ret v => ∃ D c sl, v = .ref D ∧ (∃ m', Fr g L s'.heap m') ∧ s'.heap.get? Lw = some { ow with slots := sl } ∧ s'.heap.get? D = some (listOf ((P.take n.toNat).map fun i => vs.getD i Value.none).toArray c) ∧ s'.gens = s.gens ∧ s'.os = s.os
      | .next => ∃ m' sl, Fr g L s'.heap m' ∧ News g L s'.heap ((L + 1, oc) :: (Lw, { ow with slots := sl }) :: rest) ∧ m' (Str.ofString "n") = some (.int n tn) ∧ m' (Str.ofString "iterable") = some (.ref arg) ∧ s'.gens = s.gens ∧ s'.os = s.os
      | _ => False) ?_ ?_ (fun _ _ h => h)
    · refine absQ fun R1 hR1 => ?_
      rcases hrest with ⟨rfl, rfl⟩ | ⟨rfl, rfl⟩
      · refine wpAny_Try_except ?_
        walk_at "auto"
        have hl1 : h₁.IsList arg vs.toArray := by
          obtain ⟨ol, hol, hol2⟩ := hgl
          exact ⟨ol, F.keep _ _ hol, hol2⟩
        refine len_nat (l := vs) hl1 (by omega) ?_
        by_cases h2 : (vs.length : Int) ≤ n
        · walk_at "auto"
          rename_i h2 F2 N2
          show wpAny _ _ (call (.builtin "sorted") [.ref arg] [(Str.ofString "key", .ref q), (Str.ofString "reverse", .bool true)]) _ _ _
          have hl2 : h2.IsList arg vs.toArray := by
            obtain ⟨ol, hol, hol2⟩ := hgl
            exact ⟨ol, F2.keep _ _ hol, hol2⟩
          refine sortedK_ (b := true) F2 N2 hl2 (by omega) (by omega) (C0.mono kb (fun _ h => h)) (by simp only [units_deeper]; omega) (by simp only [depth_deeper]; omega) hh rfl fun D c pp s3 hst F3 N3 nD g3 o3 => ?_
          replace N3 : News g L s3.heap ((D, listOf (pp.map fun i => vs.reverse.getD i Value.none).reverse.toArray c) :: _) := N3
          replace hst : Stable (bLt (vs.map kf).reverse) vs.length pp := hst
          rw [rev_vals (stable_lt hst)] at N3
          have epp : (pp.map fun i => vs.length - 1 - i).reverse = P := stable_unique (flt_swn false _) hP (by have := stable_rev (ks := vs.map kf) (p := pp) (by simpa using hst); simp only [List.length_map] at this; exact this)
          rw [epp] at N3
          clear F N F2 N2
          walk_at "auto"
          refine kba_turn (value' := .Name (Str.ofString "_") ⟨0, 0, 0, 0⟩) (fun _ => rfl) ?_
          refine slice_list F3 N3 (items := (P.map fun i => vs.getD i Value.none).toArray) (PySem.IsL.isList (n := c) (N3 _ (.head _)).1) .none (.int n _) (fun h4 F4 N4 => ?_) (hsz := by rw [sizeLine_eq]; simp [stable_len hP]; omega)
          have hpl := stable_len hP
          have e1 : slicePick (P.map fun i => vs.getD i Value.none).toArray none (some n) none = ((P.take n.toNat).map fun i => vs.getD i Value.none).toArray := by
            rw [slice_all (by simp [hpl]; omega), List.take_of_length_le (by omega)]
          rw [e1] at N4
          exact hR1 _ _ ⟨_, 0, ow.slots, rfl, ⟨_, F4⟩, (N4 (Lw, ow) (by simp)).1, (N4 _ (.head _)).1, g3, o3⟩
        · walk_at "auto"
          rename_i h2 F2 N2
          exact hR1 _ _ ⟨_, ow.slots, F2, N2, by walk_at "lv", by walk_at "lv", rfl, rfl⟩
      · have nI := N (arg, itO l) (by simp)
        have nw := N (Lw, ow) (by simp)
        refine try_te (lenv := lenv) (Around.frames_deeper hfr) rfl hfw rfl hkw F nw.1 hdw nw.2.2 ?_ ?_ ?_
        · walk_at "auto"
          exact len_iter hh ⟨_, nI.1, rfl⟩ (fun h' tk e hx => ⟨h', tk, e, rfl, rfl, hx⟩)
        · intro A' E' Q' s' F' hQ'
          refine Tuple_ (spliced_more (nameX_B F' Gg.X Gg.T (bl_TypeError _) (by boot_by_name) (by decide) (spliced_more (nameX_B F' Gg.X Gg.T (bl_AttributeError _) (by boot_by_name) (by decide) (spliced_none ?_)))))
          exact wpAny_newObj_type hQ'
        · intro h' tk sl k' F' hw'
          have nx := N (L + 1, oc) (by simp)
          exact hR1 _ _ ⟨_, sl, F', newsB ⟨k' _ _ nx.2.1 (neData nx.1 nw.1 (by rw [hoc', hdw]; intro e; cases e)) nx.1, nx.2⟩ (newsB ⟨hw', nw.2⟩ (newsB ⟨k' _ _ nI.2.1 (neData nI.1 nw.1 (by rw [hdw]; intro e; cases e)) nI.1, nI.2⟩ News.nil)), m1, m2, rfl, rfl⟩
    · intro fl s' hfl
      cases fl with
      | ret v => 
        (refine keepGoal fun kgP kgk => ?_; rcases hfl with ⟨D, c, sl, rfl, F', h1, h2, h3, h4⟩; refine kgk ?_; clear kgk kgP)
        exact hR0 _ _ ⟨F', fun k => hq _ D c sl k h1 h2, h3, h4⟩
      | next =>
        (refine keepGoal fun kgP kgk => ?_; rcases hfl with ⟨m', sl, F', N', m1', m2', hg', ho'⟩; refine kgk ?_; clear kgk kgP)
        clear F N m1 m2
        generalize hwo : ({ ow with slots := sl } : Obj) = ow' at *
        have hdw' : ow'.data = .dict es ep := by rw [← hwo]; exact hdw
        walk_at "auto"
        refine iterArg F' N' hrest hgl fun J h2 F2 N2 k2 => ?_
        clear F' N'
        refine storeX_L F2 N2 ?_
        intro h3 F3 N3
        clear F2 N2
        refine wpAny_execs_cons (compA_ (L := L) (cl := [(Str.ofString "key", L + 1)]) (by kernel_rfl) rfl rfl rfl rfl (by decide) rfl (by decide) ?_)
        walk_at "runf"
        refine range3_ (by omega) F3 N3 ?_
        intro r h4 tk4 t1 t2 F4 N4 nr
        clear F3 N3
        walk_at "runf"
        have nJ := N4 (J, itO l) (by simp)
        have nc := N4 (L + 1, oc) (by simp)
        have nw := N4 (Lw, ow') (by simp)
        obtain ⟨ol, hol, hol2⟩ := id hgl
        refine zipCall (l := l) (vs := vs.toArray) (N4 _ (.head _)).1 ⟨_, nJ.1, rfl, rfl⟩ ⟨ol, F4.keep _ _ hol, hol2⟩ (hsmall3_ (by omega)) fun z TI TO i1 h5 hZA hlJ hlTI hz5 hTI5 hTO5 hr5 k5 => ?_
        refine wpAny_pyIter_zip hz5 ?_
        rw [rsize3_ n] at hr5
        have F5 : Fr g L h5 _ := frK F4 (ds := []) (fun b o _ e => (k5 b o e).1) (by simp) (by simp)
        have hcJ : L + 1 ≠ J := neData nc.1 nJ.1 (by rw [hoc']; intro e; cases e)
        have hwJ : Lw ≠ J := neData nw.1 nJ.1 (by rw [hdw']; intro e; cases e)
        (refine keepGoal fun kgP kgk => ?_; rcases id F4.ns with ⟨oL4, _, _, hoL4, _⟩; refine kgk ?_; clear kgk kgP)
        have nL5 := (k5 _ _ hoL4).2
        refine ⟨[z, TO, i1, J], _, ?_, F5.ns, zipComp (Sp := fun k it => it.key = (vs.map kf).getD k [] ∧ it.ord = -(k : Int) ∧ it.more = [vs.getD k Value.none]) hh hZA hlJ hlTI hz5 hTI5 hTO5 hr5 ⟨_, (k5 _ _ nJ.1).1, rfl, rfl⟩ ⟨ol, F5.keep _ _ hol, hol2⟩ (by omega) (fun _ => rfl) (fun _ => rfl) (fun _ => rfl) ?_ ?_⟩
        · exact notC nL5.1 (notC nL5.2.2.1 (notC nL5.2.2.2 (notC (Ne.symm nJ.2.1) noneIn)))
        · intro gc C m s' k v t Q' kc Fc mi me hv hQ'
          have hcell : gc.get? (L + 1) = some oc := kc.get _ _ (notC ((k5 _ _ nc.1).2.1) (notC ((k5 _ _ nc.1).2.2.2.1) (notC ((k5 _ _ nc.1).2.2.2.2) (notC (hcJ) noneIn)))) (k5 _ _ nc.1).1
          have hgt : Keep [] g gc := ⟨fun b o _ e => kc.get _ _ (by
            have := (k5 _ _ (F4.keep _ _ e)).2
            exact notC this.1 (notC this.2.2.1 (notC this.2.2.2 (notC (fun q => by rw [q, nJ.2.2] at e; cases e) noneIn)))) (k5 _ _ (F4.keep _ _ e)).1, Nat.le_trans (keepFr F5).size kc.size⟩
          refine eltK rfl rfl rfl rfl rfl rfl Fc (kb.trans hgt) C0 hfn hcell hoc' mi me (List.mem_of_getElem? hv) (by simp only [units_deeper]; omega) (by simp only [depth_deeper]; omega) hh ?_
          intro it s'' h1 h2 h3 h4 h5 h6 h7 h8
          refine hQ' it s'' ⟨?_, ?_, ?_⟩ h4 h5 h6 h7 h8
          · rw [h1]; simp [List.getD_eq_getElem?_getD, hv]
          · rw [h2]; omega
          · rw [h3]; simp [List.getD_eq_getElem?_getD, hv]
        intro D its s6 k6 hD6 hDn hlen6 hok6 hnod6 hnew6 hJ6 h7 tk7 hn7 hs7
        have gz : ∀ x, x = z ∨ x = TI ∨ x = TO ∨ x = i1 ∨ x = J → g.get? x = none := fun x hx => by
          cases e : g.get? x with
          | none => rfl
          | some o =>
            have := (k5 _ _ (F4.keep _ _ e)).2
            rcases hx with rfl | rfl | rfl | rfl | rfl
            · exact absurd rfl this.1
            · exact absurd rfl this.2.1
            · exact absurd rfl this.2.2.1
            · exact absurd rfl this.2.2.2
            · rw [nJ.2.2] at e; cases e
        have F6 : Fr g L s6.heap _ := frKeep F5 k6.keep (notC (nL5.1) (notC (nL5.2.2.1) (notC (nL5.2.2.2) (notC (Ne.symm nJ.2.1) noneIn)))) (allC (gz _ (.inl rfl)) (allC (gz _ (.inr (.inr (.inl rfl)))) (allC (gz _ (.inr (.inr (.inr (.inl rfl))))) (allC (gz _ (.inr (.inr (.inr (.inr rfl))))) allNil))))
        have F7 : Fr g L h7 _ := F6.set hn7 hs7
        have up7 : ∀ x o, x ≠ L → x ≠ J → h4.get? x = some o → h7.get? x = some o := fun x o hx hJ e => by
          have k := k5 _ _ e
          exact (hs7.2 x hx).trans (k6.keep.get _ _ (notC (k.2.1) (notC (k.2.2.2.1) (notC (k.2.2.2.2) (notC (hJ) noneIn)))) k.1)
        have nc7 := up7 _ _ nc.2.1 hcJ nc.1
        have nw7 := up7 _ _ nw.2.1 hwJ nw.1
        (refine keepGoal fun kgP kgk => ?_; rcases id F5.ns with ⟨oL5, _, _, hoL5, _⟩; refine kgk ?_; clear kgk kgP)
        have hDL : D ≠ L := fun e => by rw [e, hoL5] at hDn; cases hDn
        have hD7 := (hs7.2 D hDL).trans hD6
        have hgD : g.get? D = none := by
          cases e : g.get? D with
          | none => rfl
          | some o => have := F5.keep _ _ e; rw [hDn] at this; cases this
        have hi7 : ∀ x ∈ its, h7.get? x.adr = some x.obj ∧ x.adr ≠ L ∧ g.get? x.adr = none := fun x hx => by
          have hxL : x.adr ≠ L := fun e => by have := (hnew6 x hx).2; rw [e, hoL5] at this; cases this
          obtain ⟨j, hj⟩ := List.getElem?_of_mem hx
          refine ⟨(hs7.2 _ hxL).trans (hok6 j x hj).2, hxL, ?_⟩
          cases e : g.get? x.adr with
          | none => rfl
          | some o => have := F5.keep _ _ e; rw [(hnew6 x hx).2] at this; cases this
        have hJ7 : if vs.length < (max n 0).toNat then Gone h7 J else h7.IsListIter J l its.length := by
          split
          · rename_i hc; rw [if_pos hc] at hJ6; exact hJ6.at fun o e => (hs7.2 J nJ.2.1).trans e
          · rename_i hc; rw [if_neg hc] at hJ6
            obtain ⟨oj, hoj, hoj2⟩ := hJ6
            exact ⟨oj, (hs7.2 J nJ.2.1).trans hoj, hoj2⟩
        have hok7 : ∀ (k : Nat) (it : Itm), its[k]? = some it → it.key = (vs.map kf).getD k [] ∧ it.ord = -(k : Int) ∧ it.more = [vs.getD k Value.none] := fun k it e => (hok6 k it e).1
        have g7 : s6.gens = s.gens := k6.gens.trans hg'
        have o7 : s6.os = s.os := k6.os.trans ho'
        have mn7 : (fun y => if y = Str.ofString "result" then some (Value.ref D) else if y = Str.ofString "it" then some (Value.ref J) else m' y) (Str.ofString "n") = some (Value.int n tn) := by walk_at "lv"
        have mr7 : (fun y => if y = Str.ofString "result" then some (Value.ref D) else if y = Str.ofString "it" then some (Value.ref J) else m' y) (Str.ofString "result") = some (Value.ref D) := by walk_at "lv"
        have mi7 : (fun y => if y = Str.ofString "result" then some (Value.ref D) else if y = Str.ofString "it" then some (Value.ref J) else m' y) (Str.ofString "it") = some (Value.ref J) := by walk_at "lv"
        revert F7 mn7 mr7 mi7
        generalize (fun y => if y = Str.ofString "result" then some (Value.ref D) else if y = Str.ofString "it" then some (Value.ref J) else m' y) = m7
        intro F7 mn7 mr7 mi7
        have hnJ := nJ.2
        have hnc := nc.2
        have hnw := nw.2
        clear hok6 hnew6 hJ6 up7 gz F6 F5 F4 k5 nL5 hs7 hn7 k6 N4 nJ nc nw hD6 hDn m1' m2' k2 hz5 hTI5 hTO5 hr5 hZA hlTI nr hg' ho' hoL4 hoL5 
        generalize hS : ({ s6 with heap := h7, toks := tk7 } : Shared) = s7
        have e7 : s7.heap = h7 := by rw [← hS]
        have ge7 : s7.gens = s.gens := by rw [← hS]; exact g7
        have os7 : s7.os = s.os := by rw [← hS]; exact o7
        subst e7
        clear hS g7 o7
        have N7 : News g L s7.heap ((L + 1, oc) :: (Lw, ow') :: (D, listOf (its.map Itm.val).toArray its.length) :: its.map fun x => (x.adr, x.obj)) :=
          newsCons nc7 hnc.1 hnc.2 (newsCons nw7 hnw.1 hnw.2 (newsCons hD7 hDL hgD fun q hq => by obtain ⟨x, hx, rfl⟩ := List.mem_map.mp hq; exact hi7 x hx))
        have hD7' := hD7
        walk_at "runf"
        refine wpAny_truthy_list (PySem.IsL.isList (n := its.length) hD7) (by simp; omega) ?_
        by_cases hn0 : n ≤ 0
        · have e0 : its = [] := List.eq_nil_of_length_eq_zero (by omega)
          subst e0
          walk_at "auto"
          have e1 : n.toNat = 0 := by omega
          exact hR0 _ _ ⟨⟨_, F7⟩, fun k => hq _ D 0 sl k (by rw [hwo]; exact nw7) (by rw [e1]; exact hD7), ge7, os7⟩
        · have hlen : its.length = min n.toNat vs.length := by rw [hlen6]; congr 1; omega
          have hl2 : 2 ≤ its.length := by omega
          have e2 : (!(its.map Itm.val).toArray.isEmpty) = true := by
            cases its with
            | nil => simp at hl2
            | cons a b => rfl
          rw [e2]
          walk_at "auto"
          have ovt : ∀ x : Int, ov false x = -x := fun x => rfl
          have IG : ItsG s7 its := ⟨fun i hi => (hi7 i hi).1, fun i hi => by obtain ⟨k, hk⟩ := List.getElem?_of_mem hi; exact .inr ⟨_, (hok7 k i hk).2.2⟩, hnod6, ord_nodup (σ := false) fun k it e => by rw [ovt, (hok7 k it e).2.1]; omega⟩
          refine hpMinI (its := its) (e := its.length) (m := m7) Gg F7 hD7 hgD ⟨IG.ob, IG.mr, IG.adr, IG.ord⟩ (by omega) (by simp only [depth_deeper]; omega) (by simp only [units_deeper]; omega) hh ?_
          intro s8 its8 k8 hD8 p8 hs8
          replace k8 : KeepS [D] s7 s8 := ⟨k8.keep, k8.gens, k8.os⟩
          obtain ⟨tg, e8, H8⟩ := Hst.start (σ := false) (bs := vs.map kf) (R := fun k it => it.key = (vs.map kf).getD k [] ∧ it.more = [vs.getD k Value.none]) (n := -n) (fun k it e => ⟨⟨(hok7 k it e).1, (hok7 k it e).2.2⟩, by rw [ovt, (hok7 k it e).2.1]; omega⟩) (by rw [ovt]; omega) hnod6 p8 hs8
          have hdD : ∀ x ∈ its, x.adr ≠ D := fun x hx e => by have := (hi7 x hx).1; rw [e, hD7] at this; exact listNeItm (Option.some.inj this)
          have hcD : L + 1 ≠ D := neData nc7 hD7 (by rw [hoc']; intro e; cases e)
          have hwD : Lw ≠ D := neData nw7 hD7 (by rw [hdw']; intro e; cases e)
          have F8 : Fr g L s8.heap m7 := frKeep F7 k8.keep (notC (Ne.symm hDL) noneIn) (allC hgD allNil)
          have hi8 : ∀ x ∈ tg, s8.heap.get? x.2.adr = some x.2.obj ∧ x.2.adr ≠ L ∧ g.get? x.2.adr = none := fun x hx => by
            have hx' : x.2 ∈ its := p8.mem_iff.mp (e8 ▸ List.mem_map.mpr ⟨x, hx, rfl⟩)
            exact ⟨k8.keep.get _ _ (notC (hdD _ hx') noneIn) (hi7 _ hx').1, (hi7 _ hx').2⟩
          have htl : tg.length = its.length := by have := congrArg List.length e8; rw [p8.length_eq] at this; simpa using this
          obtain ⟨r0, rest0, etg⟩ : ∃ r0 rest0, tg = r0 :: rest0 := by
            cases tg with
            | nil => simp at htl; omega
            | cons a b => exact ⟨a, b, rfl⟩
          have nc8 := k8.keep.get _ _ (notC hcD noneIn) nc7
          have nw8 := k8.keep.get _ _ (notC hwD noneIn) nw7
          have hJD : J ≠ D := fun e => by
            split at hJ7
            · obtain ⟨o, vs', h1, h2, h3, h4⟩ := hJ7; rw [e, hD7] at h1; have := Option.some.inj h1; subst this; cases h3
            · obtain ⟨o, h1, h2, h3⟩ := hJ7; rw [e, hD7] at h1; have := Option.some.inj h1; subst this; cases h3
          have N8 : News g L s8.heap [(L + 1, oc), (Lw, ow')] := newsCons nc8 hnc.1 hnc.2 (newsCons nw8 hnw.1 hnw.2 News.nil)
          rw [← e8] at hD8
          clear N7
          walk_at "auto"
          refine item_nat (k := 0) (PySem.IsL.isList (n := its.length) hD8) (by simp; omega) (by simp; omega) ?_
          subst etg
          walk1
          show wpAny _ _ (subscriptTail _ _ (Value.ref r0.2.adr) (Value.int 0 _)) _ _ _
          refine itm_first (i := r0.2) (hi8 _ (.head _)).1 ?_
          have hD8' := hD8
          obtain ⟨oJ, hoJ, hcJ', hJ8⟩ : ∃ oJ, s8.heap.get? J = some oJ ∧ oJ.cls = .type "list_iterator" ∧ ∀ h : Heap, h.get? J = some oJ → if vs.length < (max n 0).toNat then Gone h J else h.IsListIter J l its.length := by
            by_cases hc : vs.length < (max n 0).toNat
            · rw [if_pos hc] at hJ7
              (refine keepGoal fun kgP kgk => ?_; rcases hJ7 with ⟨o, vs', h1, h2, h3⟩; refine kgk ?_; clear kgk kgP)
              exact ⟨o, k8.keep.get _ _ (notC hJD noneIn) h1, h2, fun h e => by rw [if_pos hc]; exact ⟨o, vs', e, h2, h3⟩⟩
            · rw [if_neg hc] at hJ7
              (refine keepGoal fun kgP kgk => ?_; rcases hJ7 with ⟨o, h1, h2, h3⟩; refine kgk ?_; clear kgk kgP)
              exact ⟨o, k8.keep.get _ _ (notC hJD noneIn) h1, h2, fun h e => by rw [if_neg hc]; exact ⟨o, e, h2, h3⟩⟩
          have N9 : News g L s8.heap ((L + 1, oc) :: (Lw, ow') :: (J, oJ) :: (D, _) :: (r0 :: rest0).map fun x => (x.2.adr, x.2.obj)) := newsCons nc8 hnc.1 hnc.2 (newsCons nw8 hnw.1 hnw.2 (newsCons hoJ hnJ.1 hnJ.2 (newsCons hD8 hDL hgD fun q hq => by obtain ⟨x, hx, rfl⟩ := List.mem_map.mp hq; exact hi8 x hx)))
          clear N8
          walk_at "auto"
          refine for_ ?_
          walk_at "auto"
          rename_i h9 F9 N9
          have hoJ9 := (N9 (J, oJ) (by simp)).1
          refine pyIter_li hoJ9 hcJ' ?_
          refine forB (I := fun nn s' => ∃ j tg order m, nn = vs.length + 1 - j ∧ LpSt g L Lw D J l oc ow' false (vs.map kf) (fun k it => it.key = (vs.map kf).getD k [] ∧ it.more = [vs.getD k Value.none]) vs.length its.length (vs.length < (max n 0).toNat) 21 s j tg order m s') (n₀ := vs.length + 1 - its.length) ⟨its.length, r0 :: rest0, -n, _, rfl, F9, (N9 (L + 1, oc) (by simp)).1, (N9 (Lw, ow') (by simp)).1, ⟨_, (N9 (D, _) (.tail _ (.tail _ (.tail _ (.head _))))).1⟩, fun x hx => N9 (x.2.adr, x.2.obj) (.tail _ (.tail _ (.tail _ (.tail _ (List.mem_map.mpr ⟨x, hx, rfl⟩))))), fun hc => ⟨by have := hJ8 _ hoJ9; rw [if_pos hc] at this; exact this, by omega⟩, fun hc => by have := hJ8 _ hoJ9; rw [if_neg hc] at this; exact this, H8, htl, by walk_at "lv", ⟨_, by walk_at "lv"⟩, ⟨_, by walk_at "lv"⟩, by walk_at "lv", by omega, k8.gens.trans ge7, k8.os.trans os7⟩ ?_
          clear hD8 hD8' hi8 hJ8 hoJ hoJ9 N9 F9 F8 H8 nc8 nw8 e8 htl k8 p8 hs8 hi7 hok7 hdD hD7 hD7' hnod6 nc7 nw7 hJ7 hlen6 IG
          intro T2 Z2 nn hT2 hZ2 s1 kgI
          (refine keepGoal fun kgP kgk => ?_; rcases kgI with ⟨j, tg, order, m1, rfl, Z⟩; refine kgk ?_; clear kgk kgP)
          have hfng : FnAt q g := by
            (refine keepGoal fun kgP kgk => ?_; rcases hfn with ⟨a, b, c, d, e⟩; refine kgk ?_; clear kgk kgP)
            exact ⟨a, b, c, d, kb.get _ _ (by simp) e⟩
          obtain ⟨r0, rest0, etg⟩ : ∃ r0 rest0, tg = r0 :: rest0 := by
            have := Z.len
            cases tg with
            | nil => simp at this; omega
            | cons a b => exact ⟨a, b, rfl⟩
          subst etg
          obtain ⟨eD, hlst⟩ := Z.lst
          obtain ⟨tt, htop⟩ := Z.mtop
          obtain ⟨ot, hord⟩ := Z.mord
          have hres := Z.mres
          have hhr := Z.mhr
          have hcJ1 := Z.neJ Z.cell (fun fs => by rw [hoc']; intro e; cases e)
          have hwJ1 := Z.neJ Z.low (fun fs => by rw [hdw']; intro e; cases e)
          have hDJ1 := Z.neJ hlst (fun fs => by intro e; cases e)
          have hiJ1 : ∀ x ∈ r0 :: rest0, x.2.adr ≠ J := fun x hx => Z.neJ (Z.its x hx).1 (fun fs => by intro e; cases e)
          refine Z.next hh hgl (fun ej h' k' => ?_) (fun v h' hng hv hit hsb => ?_)
          · dsimp only
            have F1 : Fr g L h' m1 := frK Z.fr (ds := [J]) (fun b o hb e => k' b o (notOf hb) e) (notC (Ne.symm hnJ.1) noneIn) (allC hnJ.2 allNil)
            have hcD : L + 1 ≠ D := neData Z.cell hlst (by rw [hoc']; intro e; cases e)
            have hwD : Lw ≠ D := neData Z.low hlst (by rw [hdw']; intro e; cases e)
            have hi1 : ∀ x ∈ r0 :: rest0, h'.get? x.2.adr = some x.2.obj ∧ x.2.adr ≠ L ∧ g.get? x.2.adr = none := fun x hx => ⟨k' _ _ (hiJ1 x hx) (Z.its x hx).1, (Z.its x hx).2⟩
            have hD1 := k' _ _ hDJ1 hlst
            have N1 : News g L h' ((D, listOf (((r0 :: rest0).map Prod.snd).map Itm.val).toArray eD) :: (Lw, ow') :: ((r0 :: rest0).map Prod.snd).map fun x => (x.adr, x.obj)) := newsCons hD1 hDL hgD (newsCons (k' _ _ hwJ1 Z.low) hnw.1 hnw.2 fun q hq => by
              obtain ⟨y, hy, rfl⟩ := List.mem_map.mp hq
              obtain ⟨x, hx, rfl⟩ := List.mem_map.mp hy
              exact hi1 x hx)
            refine hZ2 _ ?_
            dsimp only
            walk_at "runf"
            refine callWith_sortR ?_
            refine sortTR (its := (r0 :: rest0).map Prod.snd) F1 N1 ?_ ?_ Z.hst.ords ?_ ?_ ?_
            · intro q hq
              rcases List.mem_cons.mp hq with rfl | hq
              · exact hwD
              · obtain ⟨y, hy, rfl⟩ := List.mem_map.mp hq
                obtain ⟨x, hx, rfl⟩ := List.mem_map.mp hy
                exact neData (hi1 x hx).1 hD1 (by intro e; cases e)
            · intro i hi
              exact .tail _ (List.mem_map.mpr ⟨i, hi, rfl⟩)
            · have := Z.len; simp at this ⊢; omega
            · have := Z.len; simp at this ⊢; omega
            intro h2 c2 p2 hst2 F2 N2
            clear F1 N1
            have ltl : ((r0 :: rest0).map Prod.snd).length = (r0 :: rest0).length := by simp
            rw [ltl] at hst2
            have H1 := Z.hst
            rw [ej] at H1
            have LO := H1.lastMin (fun i it h => h.1) hP hst2
            rw [LO.2, LO.1.vals] at N2
            replace LO := LO.1
            walk_at "runf"
            refine comp_ (cl := []) rfl (by decide) rfl (by decide) ?_
            walk_at "runf"
            refine wpAny_pyIter_list (PySem.IsL.isList (n := c2) (N2 _ (.head _)).1) ?_
            have up3 : ∀ b o, h2.get? b = some o → (h2.push (itO D)).get? b = some o := fun b o e => Heap.get?_push_of_some _ e
            have F3 : Fr g L (h2.push (itO D)) _ := frK F2 (ds := []) (fun b o _ e => up3 b o e) (by simp) (by simp)
            refine ⟨[h2.objs.size], lastComp3 (out := fun it => it.more.getD 0 Value.none) ⟨fun C x hx => ?_, fun C => rfl⟩ hh ⟨_, Heap.get?_push_size _ rfl, rfl, rfl⟩ (up3 _ _ (N2 _ (.head _)).1) ?_ ?_ ?_ ?_⟩
            · simp at hx
              rcases hx with rfl | rfl | rfl <;> rfl
            · rw [LO.len, Z.len]; omega
            · intro i hi
              obtain ⟨x, hx, rfl⟩ := LO.mem i hi
              exact up3 _ _ (N2 (x.2.adr, x.2.obj) (.tail _ (.tail _ (List.mem_map.mpr ⟨x.2, List.mem_map.mpr ⟨x, hx, rfl⟩, rfl⟩)))).1
            · intro i hi
              obtain ⟨x, hx, rfl⟩ := LO.mem i hi
              rw [(H1.tag x hx).2]; rfl
            · intro D' s4 k4 hD4 hn4
              have F4 : Fr g L s4.heap _ := frKeep F3 k4.keep (notC (Nat.ne_of_lt F2.ns.lt) noneIn) (allC (Heap.get?_none_of_le (Nat.le_trans F2.above (Nat.le_of_lt F2.ns.lt))) allNil)
              have hw4 : s4.heap.get? Lw = some ow' := k4.keep.get _ _ (notC (Nat.ne_of_lt (Heap.lt_size (N2 (Lw, ow') (by simp)).1)) noneIn) (up3 _ _ (N2 (Lw, ow') (by simp)).1)
              refine hR0 _ _ ⟨⟨_, F4⟩, fun k => hq _ D' (r0 :: rest0).length sl k (by rw [hwo]; exact hw4) ?_, k4.gens.trans Z.gens, k4.os.trans Z.os⟩
              have e5 : P.take (r0 :: rest0).length = P.take n.toNat := by
                rw [Z.len, hlen]
                rcases Nat.le_total n.toNat vs.length with h | h
                · rw [Nat.min_eq_left h]
                · rw [Nat.min_eq_right h, List.take_of_length_le (by rw [stable_len hP]; exact Nat.le_refl _), List.take_of_length_le (by rw [stable_len hP]; exact h)]
              rw [LO.out (vs := vs) (fun x hx => by rw [(H1.tag x hx).2]; rfl), e5, LO.len] at hD4
              exact hD4
          · dsimp only
            refine wpAny_assign_Name ?_
            obtain ⟨oJ1, hoJ1, hoJ2⟩ := hit
            have F1 : Fr g L h' m1 := Z.fr.change hsb hnJ.1 hnJ.2
            have N1 : News g L h' ((L + 1, oc) :: (Lw, ow') :: (J, oJ1) :: (D, _) :: (r0 :: rest0).map fun x => (x.2.adr, x.2.obj)) := newsCons ((hsb.2 _ hcJ1).trans Z.cell) hnc.1 hnc.2 (newsCons ((hsb.2 _ hwJ1).trans Z.low) hnw.1 hnw.2 (newsCons hoJ1 hnJ.1 hnJ.2 (newsCons ((hsb.2 _ hDJ1).trans hlst) hDL hgD fun q hq => by obtain ⟨x, hx, rfl⟩ := List.mem_map.mp hq; exact ⟨(hsb.2 _ (hiJ1 x hx)).trans (Z.its x hx).1, (Z.its x hx).2⟩)))
            walk_at "auto"
            rename_i h2 F2 N2
            clear F1 N1
            have hvm : v ∈ vs := List.mem_of_getElem? hv
            have hjN : j < vs.length := (List.getElem?_eq_some_iff.mp hv).1
            have hkj : (vs.map kf).getD j [] = kf v := by simp [List.getD_eq_getElem?_getD, hv]
            have hvj : vs.getD j Value.none = v := by simp [List.getD_eq_getElem?_getD, hv]
            refine (C0.mono kb (fun _ h => h)) v hvm _ _ _ _ (by simp only [units_deeper]; omega) (by simp only [depth_deeper]; omega) hh (keepFr F2) fun s2 tk2 k2 => ?_
            have F3 := frKeep F2 k2.keep (by simp) (by simp)
            have N3 := newsKeep N2 k2.keep (by simp)
            clear F2 N2
            walk_at "auto"
            rename_i h4 F4 N4
            clear F3 N3
            refine lt_bytes ?_
            have hflt : flt false (vs.map kf) j r0.1 = blt ((r0 :: rest0).getD 0 tg0).2.key.toArray.toList (kf v).toArray.toList := by
              show blt ((vs.map kf).getD r0.1 []) ((vs.map kf).getD j []) = _
              rw [hkj, ← (Z.hst.tag r0 (.head _)).1]; rfl
            cases hb : blt ((r0 :: rest0).getD 0 tg0).2.key.toArray.toList (kf v).toArray.toList with
            | false =>
              rw [hb] at hflt
              walk_at "auto"
              exact hT2 _ _ ⟨vs.length + 1 - (j + 1), by omega, j + 1, r0 :: rest0, order, _, rfl, F4, (N4 (L + 1, oc) (by simp)).1, (N4 (Lw, ow') (by simp)).1, ⟨eD, (N4 (D, _) (.tail _ (.tail _ (.tail _ (.head _))))).1⟩, fun x hx => N4 (x.2.adr, x.2.obj) (.tail _ (.tail _ (.tail _ (.tail _ (List.mem_map.mpr ⟨x, hx, rfl⟩))))), fun hc => absurd hc hng, fun _ => ⟨oJ1, (N4 (J, oJ1) (by simp)).1, hoJ2⟩,
                Z.hst.skip (fun i it h => h.1) hflt, Z.len, by walk_at "lv", ⟨tt, by walk_at "lv"⟩, ⟨ot, by walk_at "lv"⟩, by walk_at "lv", by omega, k2.gens.trans Z.gens, k2.os.trans Z.os⟩
            | true =>
              rw [hb] at hflt
              walk_at "auto"
              rename_i r' h5 F5 N5 n5
              clear F4 N4
              have nwO : (⟨r', kf v, order, tk2, ot, [v]⟩ : Itm).obj = tupO [.bytes (kf v).toArray tk2, .int order ot, v] := rfl
              have hDm : (D, listOf (((r0 :: rest0).map Prod.snd).map Itm.val).toArray eD) ∈ (L + 1, oc) :: (Lw, ow') :: (J, oJ1) :: (D, listOf (((r0 :: rest0).map Prod.snd).map Itm.val).toArray eD) :: (r0 :: rest0).map fun x => (x.2.adr, x.2.obj) := .tail _ (.tail _ (.tail _ (.head _)))
              have him : ∀ x ∈ r0 :: rest0, (x.2.adr, x.2.obj) ∈ (L + 1, oc) :: (Lw, ow') :: (J, oJ1) :: (D, listOf (((r0 :: rest0).map Prod.snd).map Itm.val).toArray eD) :: (r0 :: rest0).map fun x => (x.2.adr, x.2.obj) := fun x hx => .tail _ (.tail _ (.tail _ (.tail _ (List.mem_map.mpr ⟨x, hx, rfl⟩))))
              have nr5 := N5 _ (.head _)
              have hDr : D ≠ r' := n5 _ hDm
              have had : ∀ x ∈ r0 :: rest0, x.2.adr ≠ r' := fun x hx => n5 _ (him x hx)
              refine repMinI (r := r0.2) (nw := ⟨r', kf v, order, tk2, ot, [v]⟩) (rest := rest0.map Prod.snd) (e := eD) Gg F5 (N5 _ (.tail _ hDm)).1 hgD
                (Z.hst.itsG (fun i it h => .inr ⟨_, h.2⟩) (fun x hx => (N5 _ (.tail _ (him x hx))).1) nr5.1 (.inr ⟨_, rfl⟩) rfl had) Z.hst.hs (by have := Z.len; simp at this ⊢; omega) (by simp only [depth_deeper]; omega) (by simp only [units_deeper]; omega) ?_
              intro s6 its6 k6 hD6 p6 hs6
              obtain ⟨tg6, ptg, etg⟩ := perm_map (f := Prod.snd) (l := (j, (⟨r', kf v, order, tk2, ot, [v]⟩ : Itm)) :: rest0) (ys := its6) p6
              subst etg
              have H6 := Z.hst.swap (order' := order - 1) (fun i it h => h.1) hflt (nw := ⟨r', kf v, order, tk2, ot, [v]⟩) ⟨hkj.symm, by rw [hvj]⟩ rfl (by show -order < -(order - 1); omega) had ptg hs6
              have F6 := frKeep F5 k6.keep (notC (Ne.symm hDL) noneIn) (allC hgD allNil)
              have hit6 : ∀ x ∈ tg6, s6.heap.get? x.2.adr = some x.2.obj ∧ x.2.adr ≠ L ∧ g.get? x.2.adr = none := fun x hx => by
                rcases List.mem_cons.mp (ptg.mem_iff.mp hx) with rfl | hx
                · exact ⟨k6.keep.get _ _ (notC (Ne.symm hDr) noneIn) nr5.1, nr5.2⟩
                · have nx := N5 _ (.tail _ (him x (.tail _ hx)))
                  exact ⟨k6.keep.get _ _ (notC (neData nx.1 (N5 _ (.tail _ hDm)).1 (by intro e; cases e)) noneIn) nx.1, nx.2⟩
              have nk : ∀ a o, (a, o) ∈ (L + 1, oc) :: (Lw, ow') :: (J, oJ1) :: (D, listOf (((r0 :: rest0).map Prod.snd).map Itm.val).toArray eD) :: (r0 :: rest0).map (fun x => (x.2.adr, x.2.obj)) → a ≠ D → s6.heap.get? a = some o ∧ a ≠ L ∧ g.get? a = none := fun a o hm hne => ⟨k6.keep.get _ _ (notC hne noneIn) (N5 _ (.tail _ hm)).1, (N5 _ (.tail _ hm)).2⟩
              have hcD : L + 1 ≠ D := neData Z.cell hlst (by rw [hoc']; intro e; cases e)
              have hwD : Lw ≠ D := neData Z.low hlst (by rw [hdw']; intro e; cases e)
              have N6 : News g L s6.heap ((L + 1, oc) :: (Lw, ow') :: (J, oJ1) :: (D, listOf ((tg6.map Prod.snd).map Itm.val).toArray eD) :: tg6.map fun x => (x.2.adr, x.2.obj)) := newsCons (nk _ _ (by simp) hcD).1 hnc.1 hnc.2 (newsCons (nk _ _ (by simp) hwD).1 hnw.1 hnw.2 (newsCons (nk J oJ1 (by simp) (Ne.symm hDJ1)).1 hnJ.1 hnJ.2 (newsCons hD6 hDL hgD fun q hq => by obtain ⟨x, hx, rfl⟩ := List.mem_map.mp hq; exact hit6 x hx)))
              clear F5 N5 nr5 nk
              have hlen6 : tg6.length = its.length := by rw [ptg.length_eq, ← Z.len]; rfl
              obtain ⟨a6, b6, etg⟩ : ∃ a6 b6, tg6 = a6 :: b6 := by
                cases tg6 with
                | nil => simp at hlen6; omega
                | cons a b => exact ⟨a, b, rfl⟩
              subst etg
              walk_at "auto"
              refine item_nat (k := 0) (PySem.IsL.isList (n := eD) hD6) (by simp) (by have := hlen6; simp at this ⊢; omega) ?_
              have ho6 := hit6 a6 (.head _)
              have hm6 := (H6.tag a6 (.head _)).2
              show wpAny _ _ (assign _ _ (Value.ref a6.2.adr)) _ _ _
              refine assign3 (x := .bytes a6.2.key.toArray a6.2.t) (y := .int a6.2.ord a6.2.u) (z := vs.getD a6.1 Value.none) hh ⟨_, ho6.1, rfl, _, by show Data.seq _ _ = _; rw [hm6]⟩ rfl rfl rfl rfl F6.ns ?_
              intro h7 tk7 hn7 k7
              have F7 := frSetNs F6 hn7 k7
              have N7 : News g L h7 _ := fun q hq => ⟨k7 _ _ (N6 q hq).2.1 (N6 q hq).1, (N6 q hq).2⟩
              clear F6 N6
              walk_at "auto"
              refine wpAny_loadName_local rfl rfl F7.ns (by walk_at "lv") ?_
              walk_at "auto"
              refine isubOne ?_
              walk_at "auto"
              rename_i h8 F8 N8
              exact hT2 _ _ ⟨vs.length + 1 - (j + 1), by omega, j + 1, a6 :: b6, order - 1, _, rfl, F8, (N8 (L + 1, oc) (by simp)).1, (N8 (Lw, ow') (by simp)).1, ⟨eD, (N8 (D, _) (.tail _ (.tail _ (.tail _ (.head _))))).1⟩, fun x hx => N8 (x.2.adr, x.2.obj) (.tail _ (.tail _ (.tail _ (.tail _ (List.mem_map.mpr ⟨x, hx, rfl⟩))))), fun hc => absurd hc hng, fun _ => ⟨oJ1, (N8 (J, oJ1) (by simp)).1, hoJ2⟩,
                H6, hlen6, by walk_at "lv", ⟨_, by walk_at "lv"⟩, ⟨_, by walk_at "lv"⟩, by walk_at "lv", by omega, k6.gens.trans (k2.gens.trans Z.gens), k6.os.trans (k2.os.trans Z.os)⟩
      | _ => exact hfl.elim
end
end
section
section
variable {prog : Program} {w : World} {A : Around} {E : Value → Shared → Prop} {s : Shared} {p : Program} {loose : List Str} {mg mb : Str → Option Value}
theorem nsW_call {h₀ : Heap} {n : Int} {tn : Tok} {l I arg Lw : Addr} {ds : List Addr} {vs : List Value} {kf : Value → List UInt8} {ow : Obj} {es : Array DictEntry} {ep : Nat} {lenv : Env} {P : List Nat} {Q : Value → Shared → Prop}
    (G : Gd (hd.heap_1 w.params) p loose mg mb h₀) (C0 : ∀ v ∈ vs, ∃ t, v = Value.bytes (kf v).toArray t) (st : Keep [] h₀ s.heap) (hds : ∀ d ∈ ds, h₀.get? d = none)
    (harg0 : arg = I ∧ ds = [I, Lw] ∧ s.heap.get? I = some (itO l))
    (hl : s.heap.IsList l vs.toArray) (hlds : l ∉ ds) (hfr : A.frames = some [lenv]) (hfw : lenv.frame = some Lw) (hkw : lenv.scope.kind = .function) (hw : s.heap.get? Lw = some ow) (hdw : ow.data = .dict es ep)
    (hn : -1 ≤ n ∧ n ≤ vs.length + 1) (hvs : 3 ≤ vs.length ∧ vs.length < 64) (hroom : A.depth + 20 < recursionLimit) (hu : A.units + 400 < cLine) (hh : A.handled = none)
    (hP : Stable (bLt (vs.map kf)) vs.length P) (hth : ∀ v ∈ vs, Thg h₀ v)
    (hq : ∀ s' D c sl, KeepS ds s s' → s'.heap.get? Lw = some { ow with slots := sl } → s'.heap.get? D = some (listOf ((P.take n.toNat).map fun i => vs.getD i Value.none).toArray c) → Q (.ref D) s') :
    wpAny (model prog w) A (call (.ref 76) [.int n tn, .ref arg]) Q E s := by
  have harg : (arg = l ∧ ds = [Lw]) ∨ (arg = I ∧ ds = [I, Lw] ∧ s.heap.get? I = some (itO l)) := .inr harg0
  have X0 := G.X.keeps (fun b o e => st.get b o (by simp) e)
  have hT : s.heap.get? 71 = some { cls := .type "tuple", data := .seq #[Value.none] } := X0 _ _ rfl
  refine enterC (binds := [(Str.ofString "n", Value.int n tn), (Str.ofString "iterable", Value.ref arg), (Str.ofString "key", Value.none)]) ds G st hds rfl rfl (by omega) (BindsTo.of_defaults rfl hT rfl rfl rfl) rfl (by decide +kernel) ?_
  intro g L h₁ tk cells F NC CA kg Gg kh ng kb
  refine absQ fun R0 hR0 => ?_
  obtain ⟨oc, rfl, hoc⟩ := CellsAre.one (show CellsAre _ [(Str.ofString "key", L + 1)] cells from CA)
  have hoc' : oc.data = .cell (some Value.none) := hoc
  clear CA hoc
  obtain ⟨m, F2, m1, m2⟩ : ∃ m, Fr g L h₁ m ∧ m (Str.ofString "n") = some (.int n tn) ∧ m (Str.ofString "iterable") = some (.ref arg) := ⟨_, F, rfl, rfl⟩
  clear F
  have F := F2
  clear F2
  have hLw : Lw ∈ ds := by rcases harg with ⟨_, rfl⟩ | ⟨_, rfl, _⟩ <;> simp
  obtain ⟨rest, N, hrest⟩ : ∃ rest, News g L h₁ ((L + 1, oc) :: (Lw, ow) :: rest) ∧ ((arg = l ∧ rest = []) ∨ (arg = I ∧ rest = [(I, itO l)])) := by
    have n2 : h₁.get? Lw = some ow ∧ Lw ≠ L ∧ g.get? Lw = none := ⟨(kh _ _ hw).1, Nat.ne_of_lt (kh _ _ hw).2, ng _ hLw⟩
    rcases harg with ⟨h1, h2⟩ | ⟨h1, h2, h3⟩
    · exact ⟨[], fun q hq => by rcases List.mem_cons.mp hq with rfl | hq; exact NC _ (.head _); rw [List.mem_singleton.mp hq]; exact n2, .inl ⟨h1, rfl⟩⟩
    · refine ⟨[(I, itO l)], fun q hq => ?_, .inr ⟨h1, rfl⟩⟩
      rcases List.mem_cons.mp hq with rfl | hq
      · exact NC _ (.head _)
      · rcases List.mem_cons.mp hq with rfl | hq
        · exact n2
        · rw [List.mem_singleton.mp hq]
          exact ⟨(kh _ _ h3).1, Nat.ne_of_lt (kh _ _ h3).2, ng _ (by rw [h2]; simp)⟩
  have hgl : g.IsList l vs.toArray := by
    obtain ⟨ol, hol, hol2⟩ := hl
    exact ⟨ol, kg.get _ _ hlds hol, hol2⟩
  clear NC
  walk_at "run"
  by_cases h1 : n = 1
  · subst h1
    walk_at "auto"
    refine iterArg F N hrest hgl fun J h2 F2 N2 k2 => ?_
    clear F N
    walk_at "auto"
    refine objArg ‹_› ‹_› fun S h3 F3 N3 k3 => ?_
    clear F2 N2
    walk_at "auto"
    rename_i h4 F4 N4
    have nJ := N4 (J, itO l) (by simp)
    have nS := N4 (S, objO) (by simp)
    have hlJ : l ≠ J := fun e => by
      obtain ⟨ol, hol, _⟩ := hgl
      rw [e, nJ.2.2] at hol; cases hol
    have hl4 : h4.IsList l vs.toArray := by
      obtain ⟨ol, hol, hol2⟩ := hgl
      exact ⟨ol, F4.keep _ _ hol, hol2⟩
    have hJL : L ≠ J := fun e => nJ.2.1 e.symm
    show wpAny _ _ (call (.builtin "min") [.ref J] [(Str.ofString "default", .ref S), (Str.ofString "key", Value.none)]) _ _ _
    refine min_none hh (by simp only [units_deeper]; omega) (by simp only [depth_deeper]; omega) F4 C0 hlJ hJL nJ.2.2 hl4 ⟨_, nJ.1, rfl, rfl⟩ (by omega) fun i v s4 hv hbest k5 F5 g5 o5 => ?_
    have nc4 := N4 (L + 1, oc) (by simp)
    have nw4 := N4 (Lw, ow) (by simp)
    have N5 : News g L s4.heap [(L + 1, oc), (S, objO), (Lw, ow)] := newsB ⟨k5 _ _ (neData nc4.1 nJ.1 (by rw [hoc']; intro e; cases e)) nc4.1, nc4.2⟩ (newsB ⟨k5 _ _ (neData nS.1 nJ.1 (by intro e; cases e)) nS.1, nS.2⟩ (newsB ⟨k5 _ _ (neData nw4.1 nJ.1 (by rw [hdw]; intro e; cases e)) nw4.1, nw4.2⟩ News.nil))
    clear F3 N3 F4 N4
    walk_at "auto"
    rename_i h6 F6 N6
    have hvm : v ∈ vs := List.mem_of_getElem? hv
    refine is_sentinel ((hth v hvm).mono (fun b o e => F6.keep _ _ (kb.get b o (by simp) e))) (N6 (S, objO) (by simp)).1 ?_
    walk_at "auto"
    rename_i D h7 F7 N7 n7
    have hi : i < vs.length := (List.getElem?_eq_some_iff.mp hv).1
    have e1 : P.take 1 = [i] := take_one (b_swn _) hP hi hbest
    have e2 : ((P.take (1 : Int).toNat).map fun i => vs.getD i Value.none) = [v] := by
      rw [show (1 : Int).toNat = 1 from rfl, e1]
      simp [List.getD_eq_getElem?_getD, hv]
    exact hR0 _ _ ⟨⟨_, F7⟩, fun k => hq _ D 0 ow.slots k (N7 (Lw, ow) (by simp)).1 (by rw [e2]; exact (N7 (D, _) (.head _)).1), g5, o5⟩

  · walk_at "auto"
    refine wpAny_mono (Q := fun fl s' => match fl with
      | .ret v => ∃ D c sl, v = .ref D ∧ (∃ m', Fr g L s'.heap m') ∧ s'.heap.get? Lw = some { ow with slots := sl } ∧ s'.heap.get? D = some (listOf ((P.take n.toNat).map fun i => vs.getD i Value.none).toArray c) ∧ s'.gens = s.gens ∧ s'.os = s.os
      | .next => ∃ m' sl, Fr g L s'.heap m' ∧ News g L s'.heap ((L + 1, oc) :: (Lw, { ow with slots := sl }) :: rest) ∧ m' (Str.ofString "n") = some (.int n tn) ∧ m' (Str.ofString "iterable") = some (.ref arg) ∧ s'.gens = s.gens ∧ s'.os = s.os
      | _ => False) ?_ ?_ (fun _ _ h => h)
    · refine absQ fun R1 hR1 => ?_
      rcases hrest with ⟨rfl, rfl⟩ | ⟨rfl, rfl⟩
      · obtain ⟨e, _, e2⟩ := harg0
        (refine keepGoal fun kgP kgk => ?_; rcases hl with ⟨ol, h1', h2', _⟩; refine kgk ?_; clear kgk kgP)
        rw [e, e2] at h1'
        cases h1'
        replace h2' : Value.type "list_iterator" = Value.type "list" := h2'
        injection h2' with h3'
        exact absurd h3' (by decide)
      · have nI := N (arg, itO l) (by simp)
        have nw := N (Lw, ow) (by simp)
        refine try_te (lenv := lenv) (Around.frames_deeper hfr) rfl hfw rfl hkw F nw.1 hdw nw.2.2 ?_ ?_ ?_
        · walk_at "auto"
          exact len_iter hh ⟨_, nI.1, rfl⟩ (fun h' tk e hx => ⟨h', tk, e, rfl, rfl, hx⟩)
        · intro A' E' Q' s' F' hQ'
          refine Tuple_ (spliced_more (nameX_B F' Gg.X Gg.T (bl_TypeError _) (by boot_by_name) (by decide) (spliced_more (nameX_B F' Gg.X Gg.T (bl_AttributeError _) (by boot_by_name) (by decide) (spliced_none ?_)))))
          exact wpAny_newObj_type hQ'
        · intro h' tk sl k' F' hw'
          have nx := N (L + 1, oc) (by simp)
          exact hR1 _ _ ⟨_, sl, F', newsB ⟨k' _ _ nx.2.1 (neData nx.1 nw.1 (by rw [hoc', hdw]; intro e; cases e)) nx.1, nx.2⟩ (newsB ⟨hw', nw.2⟩ (newsB ⟨k' _ _ nI.2.1 (neData nI.1 nw.1 (by rw [hdw]; intro e; cases e)) nI.1, nI.2⟩ News.nil)), m1, m2, rfl, rfl⟩
    · intro fl s' hfl
      cases fl with
      | ret v => 
        (refine keepGoal fun kgP kgk => ?_; rcases hfl with ⟨D, c, sl, rfl, F', h1, h2, h3, h4⟩; refine kgk ?_; clear kgk kgP)
        exact hR0 _ _ ⟨F', fun k => hq _ D c sl k h1 h2, h3, h4⟩
      | next =>
        (refine keepGoal fun kgP kgk => ?_; rcases hfl with ⟨m', sl, F', N', m1', m2', hg', ho'⟩; refine kgk ?_; clear kgk kgP)
        clear F N m1 m2
        generalize hwo : ({ ow with slots := sl } : Obj) = ow' at *
        have hdw' : ow'.data = .dict es ep := by rw [← hwo]; exact hdw
        walk_at "auto"
        refine iterArg F' N' hrest hgl fun J h2 F2 N2 k2 => ?_
        clear F' N'
        refine storeX_L F2 N2 ?_
        intro h3 F3 N3
        clear F2 N2
        refine wpAny_execs_cons (compA_ (L := L) (cl := []) (by kernel_rfl) rfl rfl rfl rfl (by decide) rfl (by decide) ?_)
        walk_at "runf"
        refine range1_ F3 N3 ?_
        intro r h4 tk4 t1 t2 F4 N4 nr
        clear F3 N3
        walk_at "runf"
        have nJ := N4 (J, itO l) (by simp)
        have nc := N4 (L + 1, oc) (by simp)
        have nw := N4 (Lw, ow') (by simp)
        obtain ⟨ol, hol, hol2⟩ := id hgl
        refine zipCall (l := l) (vs := vs.toArray) (N4 _ (.head _)).1 ⟨_, nJ.1, rfl, rfl⟩ ⟨ol, F4.keep _ _ hol, hol2⟩ (hsmall_ (by omega)) fun z TI TO i1 h5 hZA hlJ hlTI hz5 hTI5 hTO5 hr5 k5 => ?_
        refine wpAny_pyIter_zip hz5 ?_
        rw [rsize_ n] at hr5
        have F5 : Fr g L h5 _ := frK F4 (ds := []) (fun b o _ e => (k5 b o e).1) (by simp) (by simp)
        have hcJ : L + 1 ≠ J := neData nc.1 nJ.1 (by rw [hoc']; intro e; cases e)
        have hwJ : Lw ≠ J := neData nw.1 nJ.1 (by rw [hdw']; intro e; cases e)
        (refine keepGoal fun kgP kgk => ?_; rcases id F4.ns with ⟨oL4, _, _, hoL4, _⟩; refine kgk ?_; clear kgk kgP)
        have nL5 := (k5 _ _ hoL4).2
        refine ⟨[z, TO, i1, J], _, ?_, F5.ns, zipComp (Sp := fun k it => it.key = (vs.map kf).getD k [] ∧ it.ord = k ∧ it.more = [] ∧ Value.bytes it.key.toArray it.t = vs.getD k Value.none) hh hZA hlJ hlTI hz5 hTI5 hTO5 hr5 ⟨_, (k5 _ _ nJ.1).1, rfl, rfl⟩ ⟨ol, F5.keep _ _ hol, hol2⟩ (by omega) (fun _ => rfl) (fun _ => rfl) (fun _ => rfl) ?_ ?_⟩
        · exact notC nL5.1 (notC nL5.2.2.1 (notC nL5.2.2.2 (notC (Ne.symm nJ.2.1) noneIn)))
        · intro gc C m s' k v t Q' kc Fc mi me hv hQ'
          obtain ⟨tv, etv⟩ := C0 v (List.mem_of_getElem? hv)
          rw [etv] at me
          refine eltW rfl rfl rfl rfl Fc mi me ?_
          intro it s'' h1 h2 h3 h3t h4 h5 h6 h7 h8
          refine hQ' it s'' ⟨?_, ?_, h3, ?_⟩ h4 h5 h6 h7 h8
          · rw [h1]; simp [List.getD_eq_getElem?_getD, hv]
          · rw [h2]; omega
          · rw [h1, h3t, ← etv]; simp [List.getD_eq_getElem?_getD, hv]
        intro D its s6 k6 hD6 hDn hlen6 hok6 hnod6 hnew6 hJ6 h7 tk7 hn7 hs7
        have gz : ∀ x, x = z ∨ x = TI ∨ x = TO ∨ x = i1 ∨ x = J → g.get? x = none := fun x hx => by
          cases e : g.get? x with
          | none => rfl
          | some o =>
            have := (k5 _ _ (F4.keep _ _ e)).2
            rcases hx with rfl | rfl | rfl | rfl | rfl
            · exact absurd rfl this.1
            · exact absurd rfl this.2.1
            · exact absurd rfl this.2.2.1
            · exact absurd rfl this.2.2.2
            · rw [nJ.2.2] at e; cases e
        have F6 : Fr g L s6.heap _ := frKeep F5 k6.keep (notC (nL5.1) (notC (nL5.2.2.1) (notC (nL5.2.2.2) (notC (Ne.symm nJ.2.1) noneIn)))) (allC (gz _ (.inl rfl)) (allC (gz _ (.inr (.inr (.inl rfl)))) (allC (gz _ (.inr (.inr (.inr (.inl rfl))))) (allC (gz _ (.inr (.inr (.inr (.inr rfl))))) allNil))))
        have F7 : Fr g L h7 _ := F6.set hn7 hs7
        have up7 : ∀ x o, x ≠ L → x ≠ J → h4.get? x = some o → h7.get? x = some o := fun x o hx hJ e => by
          have k := k5 _ _ e
          exact (hs7.2 x hx).trans (k6.keep.get _ _ (notC (k.2.1) (notC (k.2.2.2.1) (notC (k.2.2.2.2) (notC (hJ) noneIn)))) k.1)
        have nc7 := up7 _ _ nc.2.1 hcJ nc.1
        have nw7 := up7 _ _ nw.2.1 hwJ nw.1
        (refine keepGoal fun kgP kgk => ?_; rcases id F5.ns with ⟨oL5, _, _, hoL5, _⟩; refine kgk ?_; clear kgk kgP)
        have hDL : D ≠ L := fun e => by rw [e, hoL5] at hDn; cases hDn
        have hD7 := (hs7.2 D hDL).trans hD6
        have hgD : g.get? D = none := by
          cases e : g.get? D with
          | none => rfl
          | some o => have := F5.keep _ _ e; rw [hDn] at this; cases this
        have hi7 : ∀ x ∈ its, h7.get? x.adr = some x.obj ∧ x.adr ≠ L ∧ g.get? x.adr = none := fun x hx => by
          have hxL : x.adr ≠ L := fun e => by have := (hnew6 x hx).2; rw [e, hoL5] at this; cases this
          obtain ⟨j, hj⟩ := List.getElem?_of_mem hx
          refine ⟨(hs7.2 _ hxL).trans (hok6 j x hj).2, hxL, ?_⟩
          cases e : g.get? x.adr with
          | none => rfl
          | some o => have := F5.keep _ _ e; rw [(hnew6 x hx).2] at this; cases this
        have hJ7 : if vs.length < (max n 0).toNat then Gone h7 J else h7.IsListIter J l its.length := by
          split
          · rename_i hc; rw [if_pos hc] at hJ6; exact hJ6.at fun o e => (hs7.2 J nJ.2.1).trans e
          · rename_i hc; rw [if_neg hc] at hJ6
            obtain ⟨oj, hoj, hoj2⟩ := hJ6
            exact ⟨oj, (hs7.2 J nJ.2.1).trans hoj, hoj2⟩
        have hok7 : ∀ (k : Nat) (it : Itm), its[k]? = some it → it.key = (vs.map kf).getD k [] ∧ it.ord = (k : Int) ∧ it.more = [] ∧ Value.bytes it.key.toArray it.t = vs.getD k Value.none := fun k it e => (hok6 k it e).1
        have g7 : s6.gens = s.gens := k6.gens.trans hg'
        have o7 : s6.os = s.os := k6.os.trans ho'
        have mn7 : (fun y => if y = Str.ofString "result" then some (Value.ref D) else if y = Str.ofString "it" then some (Value.ref J) else m' y) (Str.ofString "n") = some (Value.int n tn) := by walk_at "lv"
        have mr7 : (fun y => if y = Str.ofString "result" then some (Value.ref D) else if y = Str.ofString "it" then some (Value.ref J) else m' y) (Str.ofString "result") = some (Value.ref D) := by walk_at "lv"
        have mi7 : (fun y => if y = Str.ofString "result" then some (Value.ref D) else if y = Str.ofString "it" then some (Value.ref J) else m' y) (Str.ofString "it") = some (Value.ref J) := by walk_at "lv"
        revert F7 mn7 mr7 mi7
        generalize (fun y => if y = Str.ofString "result" then some (Value.ref D) else if y = Str.ofString "it" then some (Value.ref J) else m' y) = m7
        intro F7 mn7 mr7 mi7
        have hnJ := nJ.2
        have hnc := nc.2
        have hnw := nw.2
        clear hok6 hnew6 hJ6 up7 gz F6 F5 F4 k5 nL5 hs7 hn7 k6 N4 nJ nc nw hD6 hDn m1' m2' k2 hz5 hTI5 hTO5 hr5 hZA hlTI nr hg' ho' hoL4 hoL5 
        generalize hS : ({ s6 with heap := h7, toks := tk7 } : Shared) = s7
        have e7 : s7.heap = h7 := by rw [← hS]
        have ge7 : s7.gens = s.gens := by rw [← hS]; exact g7
        have os7 : s7.os = s.os := by rw [← hS]; exact o7
        subst e7
        clear hS g7 o7
        have N7 : News g L s7.heap ((L + 1, oc) :: (Lw, ow') :: (D, listOf (its.map Itm.val).toArray its.length) :: its.map fun x => (x.adr, x.obj)) :=
          newsCons nc7 hnc.1 hnc.2 (newsCons nw7 hnw.1 hnw.2 (newsCons hD7 hDL hgD fun q hq => by obtain ⟨x, hx, rfl⟩ := List.mem_map.mp hq; exact hi7 x hx))
        have hD7' := hD7
        walk_at "runf"
        refine wpAny_truthy_list (PySem.IsL.isList (n := its.length) hD7) (by simp; omega) ?_
        by_cases hn0 : n ≤ 0
        · have e0 : its = [] := List.eq_nil_of_length_eq_zero (by omega)
          subst e0
          walk_at "auto"
          have e1 : n.toNat = 0 := by omega
          exact hR0 _ _ ⟨⟨_, F7⟩, fun k => hq _ D 0 sl k (by rw [hwo]; exact nw7) (by rw [e1]; exact hD7), ge7, os7⟩
        · have hlen : its.length = min n.toNat vs.length := by rw [hlen6]; congr 1; omega
          have hl2 : 2 ≤ its.length := by omega
          have e2 : (!(its.map Itm.val).toArray.isEmpty) = true := by
            cases its with
            | nil => simp at hl2
            | cons a b => rfl
          rw [e2]
          walk_at "auto"
          have ovt : ∀ x : Int, ov true x = x := fun x => rfl
          have IG : ItsG s7 its := ⟨fun i hi => (hi7 i hi).1, fun i hi => by obtain ⟨k, hk⟩ := List.getElem?_of_mem hi; exact .inl (hok7 k i hk).2.2.1, hnod6, ord_nodup (σ := true) fun k it e => by rw [ovt]; exact (hok7 k it e).2.1⟩
          refine hpMaxI (its := its) (e := its.length) (m := m7) Gg F7 hD7 hgD ⟨IG.ob, IG.mr, IG.adr, IG.ord⟩ (by omega) (by simp only [depth_deeper]; omega) (by simp only [units_deeper]; omega) hh ?_
          intro s8 its8 k8 hD8 p8 hs8
          replace k8 : KeepS [D] s7 s8 := ⟨k8.keep, k8.gens, k8.os⟩
          obtain ⟨tg, e8, H8⟩ := Hst.start (σ := true) (bs := vs.map kf) (R := fun k it => it.key = (vs.map kf).getD k [] ∧ it.more = [] ∧ Value.bytes it.key.toArray it.t = vs.getD k Value.none) (n := n) (fun k it e => ⟨⟨(hok7 k it e).1, (hok7 k it e).2.2⟩, (hok7 k it e).2.1⟩) (by rw [ovt]; omega) hnod6 p8 hs8
          have hdD : ∀ x ∈ its, x.adr ≠ D := fun x hx e => by have := (hi7 x hx).1; rw [e, hD7] at this; exact listNeItm (Option.some.inj this)
          have hcD : L + 1 ≠ D := neData nc7 hD7 (by rw [hoc']; intro e; cases e)
          have hwD : Lw ≠ D := neData nw7 hD7 (by rw [hdw']; intro e; cases e)
          have F8 : Fr g L s8.heap m7 := frKeep F7 k8.keep (notC (Ne.symm hDL) noneIn) (allC hgD allNil)
          have hi8 : ∀ x ∈ tg, s8.heap.get? x.2.adr = some x.2.obj ∧ x.2.adr ≠ L ∧ g.get? x.2.adr = none := fun x hx => by
            have hx' : x.2 ∈ its := p8.mem_iff.mp (e8 ▸ List.mem_map.mpr ⟨x, hx, rfl⟩)
            exact ⟨k8.keep.get _ _ (notC (hdD _ hx') noneIn) (hi7 _ hx').1, (hi7 _ hx').2⟩
          have htl : tg.length = its.length := by have := congrArg List.length e8; rw [p8.length_eq] at this; simpa using this
          obtain ⟨r0, rest0, etg⟩ : ∃ r0 rest0, tg = r0 :: rest0 := by
            cases tg with
            | nil => simp at htl; omega
            | cons a b => exact ⟨a, b, rfl⟩
          have nc8 := k8.keep.get _ _ (notC hcD noneIn) nc7
          have nw8 := k8.keep.get _ _ (notC hwD noneIn) nw7
          have hJD : J ≠ D := fun e => by
            split at hJ7
            · obtain ⟨o, vs', h1, h2, h3, h4⟩ := hJ7; rw [e, hD7] at h1; have := Option.some.inj h1; subst this; cases h3
            · obtain ⟨o, h1, h2, h3⟩ := hJ7; rw [e, hD7] at h1; have := Option.some.inj h1; subst this; cases h3
          have N8 : News g L s8.heap [(L + 1, oc), (Lw, ow')] := newsCons nc8 hnc.1 hnc.2 (newsCons nw8 hnw.1 hnw.2 News.nil)
          rw [← e8] at hD8
          clear N7
          walk_at "auto"
          refine item_nat (k := 0) (PySem.IsL.isList (n := its.length) hD8) (by simp; omega) (by simp; omega) ?_
          subst etg
          walk1
          show wpAny _ _ (subscriptTail _ _ (Value.ref r0.2.adr) (Value.int 0 _)) _ _ _
          refine itm_first (i := r0.2) (hi8 _ (.head _)).1 ?_
          have hD8' := hD8
          obtain ⟨oJ, hoJ, hcJ', hJ8⟩ : ∃ oJ, s8.heap.get? J = some oJ ∧ oJ.cls = .type "list_iterator" ∧ ∀ h : Heap, h.get? J = some oJ → if vs.length < (max n 0).toNat then Gone h J else h.IsListIter J l its.length := by
            by_cases hc : vs.length < (max n 0).toNat
            · rw [if_pos hc] at hJ7
              (refine keepGoal fun kgP kgk => ?_; rcases hJ7 with ⟨o, vs', h1, h2, h3⟩; refine kgk ?_; clear kgk kgP)
              exact ⟨o, k8.keep.get _ _ (notC hJD noneIn) h1, h2, fun h e => by rw [if_pos hc]; exact ⟨o, vs', e, h2, h3⟩⟩
            · rw [if_neg hc] at hJ7
              (refine keepGoal fun kgP kgk => ?_; rcases hJ7 with ⟨o, h1, h2, h3⟩; refine kgk ?_; clear kgk kgP)
              exact ⟨o, k8.keep.get _ _ (notC hJD noneIn) h1, h2, fun h e => by rw [if_neg hc]; exact ⟨o, e, h2, h3⟩⟩
          have N9 : News g L s8.heap ((L + 1, oc) :: (Lw, ow') :: (J, oJ) :: (D, _) :: (r0 :: rest0).map fun x => (x.2.adr, x.2.obj)) := newsCons nc8 hnc.1 hnc.2 (newsCons nw8 hnw.1 hnw.2 (newsCons hoJ hnJ.1 hnJ.2 (newsCons hD8 hDL hgD fun q hq => by obtain ⟨x, hx, rfl⟩ := List.mem_map.mp hq; exact hi8 x hx)))
          clear N8
          walk_at "auto"
          refine for_ ?_
          walk_at "auto"
          rename_i h9 F9 N9
          have hoJ9 := (N9 (J, oJ) (by simp)).1
          refine pyIter_li hoJ9 hcJ' ?_
          refine forB (I := fun nn s' => ∃ j tg order m, nn = vs.length + 1 - j ∧ LpSt g L Lw D J l oc ow' true (vs.map kf) (fun k it => it.key = (vs.map kf).getD k [] ∧ it.more = [] ∧ Value.bytes it.key.toArray it.t = vs.getD k Value.none) vs.length its.length (vs.length < (max n 0).toNat) 35 s j tg order m s') (n₀ := vs.length + 1 - its.length) ⟨its.length, r0 :: rest0, n, _, rfl, F9, (N9 (L + 1, oc) (by simp)).1, (N9 (Lw, ow') (by simp)).1, ⟨_, (N9 (D, _) (.tail _ (.tail _ (.tail _ (.head _))))).1⟩, fun x hx => N9 (x.2.adr, x.2.obj) (.tail _ (.tail _ (.tail _ (.tail _ (List.mem_map.mpr ⟨x, hx, rfl⟩))))), fun hc => ⟨by have := hJ8 _ hoJ9; rw [if_pos hc] at this; exact this, by omega⟩, fun hc => by have := hJ8 _ hoJ9; rw [if_neg hc] at this; exact this, H8, htl, by walk_at "lv", ⟨_, by walk_at "lv"⟩, ⟨_, by walk_at "lv"⟩, by walk_at "lv", by omega, k8.gens.trans ge7, k8.os.trans os7⟩ ?_
          clear hD8 hD8' hi8 hJ8 hoJ hoJ9 N9 F9 F8 H8 nc8 nw8 e8 htl k8 p8 hs8 hi7 hok7 hdD hD7 hD7' hnod6 nc7 nw7 hJ7 hlen6 IG
          intro T2 Z2 nn hT2 hZ2 s1 kgI
          (refine keepGoal fun kgP kgk => ?_; rcases kgI with ⟨j, tg, order, m1, rfl, Z⟩; refine kgk ?_; clear kgk kgP)
          obtain ⟨r0, rest0, etg⟩ : ∃ r0 rest0, tg = r0 :: rest0 := by
            have := Z.len
            cases tg with
            | nil => simp at this; omega
            | cons a b => exact ⟨a, b, rfl⟩
          subst etg
          obtain ⟨eD, hlst⟩ := Z.lst
          obtain ⟨tt, htop⟩ := Z.mtop
          obtain ⟨ot, hord⟩ := Z.mord
          have hres := Z.mres
          have hhr := Z.mhr
          have hcJ1 := Z.neJ Z.cell (fun fs => by rw [hoc']; intro e; cases e)
          have hwJ1 := Z.neJ Z.low (fun fs => by rw [hdw']; intro e; cases e)
          have hDJ1 := Z.neJ hlst (fun fs => by intro e; cases e)
          have hiJ1 : ∀ x ∈ r0 :: rest0, x.2.adr ≠ J := fun x hx => Z.neJ (Z.its x hx).1 (fun fs => by intro e; cases e)
          refine Z.next hh hgl (fun ej h' k' => ?_) (fun v h' hng hv hit hsb => ?_)
          · dsimp only
            have F1 : Fr g L h' m1 := frK Z.fr (ds := [J]) (fun b o hb e => k' b o (notOf hb) e) (notC (Ne.symm hnJ.1) noneIn) (allC hnJ.2 allNil)
            have hcD : L + 1 ≠ D := neData Z.cell hlst (by rw [hoc']; intro e; cases e)
            have hwD : Lw ≠ D := neData Z.low hlst (by rw [hdw']; intro e; cases e)
            have hi1 : ∀ x ∈ r0 :: rest0, h'.get? x.2.adr = some x.2.obj ∧ x.2.adr ≠ L ∧ g.get? x.2.adr = none := fun x hx => ⟨k' _ _ (hiJ1 x hx) (Z.its x hx).1, (Z.its x hx).2⟩
            have hD1 := k' _ _ hDJ1 hlst
            have N1 : News g L h' ((D, listOf (((r0 :: rest0).map Prod.snd).map Itm.val).toArray eD) :: (Lw, ow') :: ((r0 :: rest0).map Prod.snd).map fun x => (x.adr, x.obj)) := newsCons hD1 hDL hgD (newsCons (k' _ _ hwJ1 Z.low) hnw.1 hnw.2 fun q hq => by
              obtain ⟨y, hy, rfl⟩ := List.mem_map.mp hq
              obtain ⟨x, hx, rfl⟩ := List.mem_map.mp hy
              exact hi1 x hx)
            refine hZ2 _ ?_
            dsimp only
            walk_at "runf"
            refine sortT (its := (r0 :: rest0).map Prod.snd) F1 N1 ?_ ?_ Z.hst.ords ?_ ?_ ?_
            · intro q hq
              rcases List.mem_cons.mp hq with rfl | hq
              · exact hwD
              · obtain ⟨y, hy, rfl⟩ := List.mem_map.mp hq
                obtain ⟨x, hx, rfl⟩ := List.mem_map.mp hy
                exact neData (hi1 x hx).1 hD1 (by intro e; cases e)
            · intro i hi
              exact .tail _ (List.mem_map.mpr ⟨i, hi, rfl⟩)
            · have := Z.len; simp at this ⊢; omega
            · have := Z.len; simp at this ⊢; omega
            intro h2 c2 p2 hst2 F2 N2
            clear F1 N1
            have ltl : ((r0 :: rest0).map Prod.snd).length = (r0 :: rest0).length := by simp
            rw [ltl] at hst2
            have H1 := Z.hst
            rw [ej] at H1
            have LO := H1.lastMax (fun i it h => h.1) (show Stable (flt true (vs.map kf)) vs.length P from hP) hst2
            rw [LO.vals] at N2
            walk_at "runf"
            refine comp_ (cl := []) rfl (by decide) rfl (by decide) ?_
            walk_at "runf"
            refine wpAny_pyIter_list (PySem.IsL.isList (n := c2) (N2 _ (.head _)).1) ?_
            have up3 : ∀ b o, h2.get? b = some o → (h2.push (itO D)).get? b = some o := fun b o e => Heap.get?_push_of_some _ e
            have F3 : Fr g L (h2.push (itO D)) _ := frK F2 (ds := []) (fun b o _ e => up3 b o e) (by simp) (by simp)
            refine ⟨[h2.objs.size], lastComp2 (out := fun it => Value.bytes it.key.toArray it.t) ⟨fun C x hx => ?_, fun C => rfl⟩ hh ⟨_, Heap.get?_push_size _ rfl, rfl, rfl⟩ (up3 _ _ (N2 _ (.head _)).1) ?_ ?_ ?_ ?_⟩
            · simp at hx
              rcases hx with rfl | rfl <;> rfl
            · rw [LO.len, Z.len]; omega
            · intro i hi
              obtain ⟨x, hx, rfl⟩ := LO.mem i hi
              exact up3 _ _ (N2 (x.2.adr, x.2.obj) (.tail _ (.tail _ (List.mem_map.mpr ⟨x.2, List.mem_map.mpr ⟨x, hx, rfl⟩, rfl⟩)))).1
            · intro i hi
              obtain ⟨x, hx, rfl⟩ := LO.mem i hi
              exact ⟨(H1.tag x hx).2.1, rfl⟩
            · intro D' s4 k4 hD4 hn4
              have F4 : Fr g L s4.heap _ := frKeep F3 k4.keep (notC (Nat.ne_of_lt F2.ns.lt) noneIn) (allC (Heap.get?_none_of_le (Nat.le_trans F2.above (Nat.le_of_lt F2.ns.lt))) allNil)
              have hw4 : s4.heap.get? Lw = some ow' := k4.keep.get _ _ (notC (Nat.ne_of_lt (Heap.lt_size (N2 (Lw, ow') (by simp)).1)) noneIn) (up3 _ _ (N2 (Lw, ow') (by simp)).1)
              refine hR0 _ _ ⟨⟨_, F4⟩, fun k => hq _ D' (r0 :: rest0).length sl k (by rw [hwo]; exact hw4) ?_, k4.gens.trans Z.gens, k4.os.trans Z.os⟩
              have e5 : P.take (r0 :: rest0).length = P.take n.toNat := by
                rw [Z.len, hlen]
                rcases Nat.le_total n.toNat vs.length with h | h
                · rw [Nat.min_eq_left h]
                · rw [Nat.min_eq_right h, List.take_of_length_le (by rw [stable_len hP]; exact Nat.le_refl _), List.take_of_length_le (by rw [stable_len hP]; exact h)]
              rw [LO.out (vs := vs) (fun x hx => (H1.tag x hx).2.2), e5, LO.len] at hD4
              exact hD4
          · dsimp only
            refine wpAny_assign_Name ?_
            obtain ⟨oJ1, hoJ1, hoJ2⟩ := hit
            have F1 : Fr g L h' m1 := Z.fr.change hsb hnJ.1 hnJ.2
            have N1 : News g L h' ((L + 1, oc) :: (Lw, ow') :: (J, oJ1) :: (D, _) :: (r0 :: rest0).map fun x => (x.2.adr, x.2.obj)) := newsCons ((hsb.2 _ hcJ1).trans Z.cell) hnc.1 hnc.2 (newsCons ((hsb.2 _ hwJ1).trans Z.low) hnw.1 hnw.2 (newsCons hoJ1 hnJ.1 hnJ.2 (newsCons ((hsb.2 _ hDJ1).trans hlst) hDL hgD fun q hq => by obtain ⟨x, hx, rfl⟩ := List.mem_map.mp hq; exact ⟨(hsb.2 _ (hiJ1 x hx)).trans (Z.its x hx).1, (Z.its x hx).2⟩)))
            have hvm : v ∈ vs := List.mem_of_getElem? hv
            have hjN : j < vs.length := (List.getElem?_eq_some_iff.mp hv).1
            have hkj : (vs.map kf).getD j [] = kf v := by simp [List.getD_eq_getElem?_getD, hv]
            have hvj : vs.getD j Value.none = v := by simp [List.getD_eq_getElem?_getD, hv]
            obtain ⟨tk2, etv⟩ := C0 v hvm
            rw [etv]
            walk_at "auto"
            rename_i h4 F4 N4
            clear F1 N1
            refine lt_bytes ?_
            have hflt : flt true (vs.map kf) j r0.1 = blt (kf v).toArray.toList ((r0 :: rest0).getD 0 tg0).2.key.toArray.toList := by
              show blt ((vs.map kf).getD j []) ((vs.map kf).getD r0.1 []) = _
              rw [hkj, ← (Z.hst.tag r0 (.head _)).1]; rfl
            cases hb : blt (kf v).toArray.toList ((r0 :: rest0).getD 0 tg0).2.key.toArray.toList with
            | false =>
              rw [hb] at hflt
              walk_at "auto"
              exact hT2 _ _ ⟨vs.length + 1 - (j + 1), by omega, j + 1, r0 :: rest0, order, _, rfl, F4, (N4 (L + 1, oc) (by simp)).1, (N4 (Lw, ow') (by simp)).1, ⟨eD, (N4 (D, _) (.tail _ (.tail _ (.tail _ (.head _))))).1⟩, fun x hx => N4 (x.2.adr, x.2.obj) (.tail _ (.tail _ (.tail _ (.tail _ (List.mem_map.mpr ⟨x, hx, rfl⟩))))), fun hc => absurd hc hng, fun _ => ⟨oJ1, (N4 (J, oJ1) (by simp)).1, hoJ2⟩,
                Z.hst.skip (fun i it h => h.1) hflt, Z.len, by walk_at "lv", ⟨tt, by walk_at "lv"⟩, ⟨ot, by walk_at "lv"⟩, by walk_at "lv", by omega, Z.gens, Z.os⟩
            | true =>
              rw [hb] at hflt
              walk_at "auto"
              rename_i r' h5 F5 N5 n5
              clear F4 N4
              have hDm : (D, listOf (((r0 :: rest0).map Prod.snd).map Itm.val).toArray eD) ∈ (L + 1, oc) :: (Lw, ow') :: (J, oJ1) :: (D, listOf (((r0 :: rest0).map Prod.snd).map Itm.val).toArray eD) :: (r0 :: rest0).map fun x => (x.2.adr, x.2.obj) := .tail _ (.tail _ (.tail _ (.head _)))
              have him : ∀ x ∈ r0 :: rest0, (x.2.adr, x.2.obj) ∈ (L + 1, oc) :: (Lw, ow') :: (J, oJ1) :: (D, listOf (((r0 :: rest0).map Prod.snd).map Itm.val).toArray eD) :: (r0 :: rest0).map fun x => (x.2.adr, x.2.obj) := fun x hx => .tail _ (.tail _ (.tail _ (.tail _ (List.mem_map.mpr ⟨x, hx, rfl⟩))))
              have nr5 := N5 _ (.head _)
              have hDr : D ≠ r' := n5 _ hDm
              have had : ∀ x ∈ r0 :: rest0, x.2.adr ≠ r' := fun x hx => n5 _ (him x hx)
              refine repMaxI (r := r0.2) (nw := ⟨r', kf v, order, tk2, ot, []⟩) (rest := rest0.map Prod.snd) (e := eD) Gg F5 (N5 _ (.tail _ hDm)).1 hgD
                (Z.hst.itsG (fun i it h => .inl h.2.1) (fun x hx => (N5 _ (.tail _ (him x hx))).1) nr5.1 (.inl rfl) rfl had) Z.hst.hs (by have := Z.len; simp at this ⊢; omega) (by simp only [depth_deeper]; omega) (by simp only [units_deeper]; omega) ?_
              intro s6 its6 k6 hD6 p6 hs6
              obtain ⟨tg6, ptg, etg⟩ := perm_map (f := Prod.snd) (l := (j, (⟨r', kf v, order, tk2, ot, []⟩ : Itm)) :: rest0) (ys := its6) p6
              subst etg
              have H6 := Z.hst.swap (order' := order + 1) (fun i it h => h.1) hflt (nw := ⟨r', kf v, order, tk2, ot, []⟩) ⟨hkj.symm, rfl, by rw [hvj]; exact etv.symm⟩ rfl (by show order < order + 1; omega) had ptg hs6
              have F6 := frKeep F5 k6.keep (notC (Ne.symm hDL) noneIn) (allC hgD allNil)
              have hit6 : ∀ x ∈ tg6, s6.heap.get? x.2.adr = some x.2.obj ∧ x.2.adr ≠ L ∧ g.get? x.2.adr = none := fun x hx => by
                rcases List.mem_cons.mp (ptg.mem_iff.mp hx) with rfl | hx
                · exact ⟨k6.keep.get _ _ (notC (Ne.symm hDr) noneIn) nr5.1, nr5.2⟩
                · have nx := N5 _ (.tail _ (him x (.tail _ hx)))
                  exact ⟨k6.keep.get _ _ (notC (neData nx.1 (N5 _ (.tail _ hDm)).1 (by intro e; cases e)) noneIn) nx.1, nx.2⟩
              have nk : ∀ a o, (a, o) ∈ (L + 1, oc) :: (Lw, ow') :: (J, oJ1) :: (D, listOf (((r0 :: rest0).map Prod.snd).map Itm.val).toArray eD) :: (r0 :: rest0).map (fun x => (x.2.adr, x.2.obj)) → a ≠ D → s6.heap.get? a = some o ∧ a ≠ L ∧ g.get? a = none := fun a o hm hne => ⟨k6.keep.get _ _ (notC hne noneIn) (N5 _ (.tail _ hm)).1, (N5 _ (.tail _ hm)).2⟩
              have hcD : L + 1 ≠ D := neData Z.cell hlst (by rw [hoc']; intro e; cases e)
              have hwD : Lw ≠ D := neData Z.low hlst (by rw [hdw']; intro e; cases e)
              have N6 : News g L s6.heap ((L + 1, oc) :: (Lw, ow') :: (J, oJ1) :: (D, listOf ((tg6.map Prod.snd).map Itm.val).toArray eD) :: tg6.map fun x => (x.2.adr, x.2.obj)) := newsCons (nk _ _ (by simp) hcD).1 hnc.1 hnc.2 (newsCons (nk _ _ (by simp) hwD).1 hnw.1 hnw.2 (newsCons (nk J oJ1 (by simp) (Ne.symm hDJ1)).1 hnJ.1 hnJ.2 (newsCons hD6 hDL hgD fun q hq => by obtain ⟨x, hx, rfl⟩ := List.mem_map.mp hq; exact hit6 x hx)))
              clear F5 N5 nr5 nk
              have hlen6 : tg6.length = its.length := by rw [ptg.length_eq, ← Z.len]; rfl
              obtain ⟨a6, b6, etg⟩ : ∃ a6 b6, tg6 = a6 :: b6 := by
                cases tg6 with
                | nil => simp at hlen6; omega
                | cons a b => exact ⟨a, b, rfl⟩
              subst etg
              walk_at "auto"
              refine item_nat (k := 0) (PySem.IsL.isList (n := eD) hD6) (by simp) (by have := hlen6; simp at this ⊢; omega) ?_
              have ho6 := hit6 a6 (.head _)
              have hm6 := (H6.tag a6 (.head _)).2.1
              show wpAny _ _ (assign _ _ (Value.ref a6.2.adr)) _ _ _
              refine kcp_assign (x := .bytes a6.2.key.toArray a6.2.t) (y := .int a6.2.ord a6.2.u) hh ⟨_, ho6.1, rfl, _, by show Data.seq _ _ = _; rw [hm6]⟩ rfl rfl rfl F6.ns ?_
              intro h7 tk7 hn7 k7
              have F7 := frSetNs F6 hn7 k7
              have N7 : News g L h7 _ := fun q hq => ⟨k7 _ _ (N6 q hq).2.1 (N6 q hq).1, (N6 q hq).2⟩
              clear F6 N6
              walk_at "auto"
              refine wpAny_loadName_local rfl rfl F7.ns (by walk_at "lv") ?_
              walk_at "auto"
              refine iaddOne ?_
              walk_at "auto"
              rename_i h8 F8 N8
              exact hT2 _ _ ⟨vs.length + 1 - (j + 1), by omega, j + 1, a6 :: b6, order + 1, _, rfl, F8, (N8 (L + 1, oc) (by simp)).1, (N8 (Lw, ow') (by simp)).1, ⟨eD, (N8 (D, _) (.tail _ (.tail _ (.tail _ (.head _))))).1⟩, fun x hx => N8 (x.2.adr, x.2.obj) (.tail _ (.tail _ (.tail _ (.tail _ (List.mem_map.mpr ⟨x, hx, rfl⟩))))), fun hc => absurd hc hng, fun _ => ⟨oJ1, (N8 (J, oJ1) (by simp)).1, hoJ2⟩,
                H6, hlen6, by walk_at "lv", ⟨_, by walk_at "lv"⟩, ⟨_, by walk_at "lv"⟩, by walk_at "lv", by omega, k6.gens.trans Z.gens, k6.os.trans Z.os⟩
      | _ => exact hfl.elim
end
end
section
section
variable {prog : Program} {w : World} {A : Around} {E : Value → Shared → Prop} {s : Shared} {p : Program} {loose : List Str} {mg mb : Str → Option Value}
theorem nlW_call {h₀ : Heap} {n : Int} {tn : Tok} {l I arg Lw : Addr} {ds : List Addr} {vs : List Value} {kf : Value → List UInt8} {ow : Obj} {es : Array DictEntry} {ep : Nat} {lenv : Env} {P : List Nat} {Q : Value → Shared → Prop}
    (G : Gd (hd.heap_1 w.params) p loose mg mb h₀) (C0 : ∀ v ∈ vs, ∃ t, v = Value.bytes (kf v).toArray t) (st : Keep [] h₀ s.heap) (hds : ∀ d ∈ ds, h₀.get? d = none)
    (harg0 : arg = l ∧ ds = [Lw])
    (hl : s.heap.IsList l vs.toArray) (hlds : l ∉ ds) (hfr : A.frames = some [lenv]) (hfw : lenv.frame = some Lw) (hkw : lenv.scope.kind = .function) (hw : s.heap.get? Lw = some ow) (hdw : ow.data = .dict es ep)
    (hn : -1 ≤ n ∧ n ≤ vs.length + 1) (hvs : 3 ≤ vs.length ∧ vs.length < 64) (hroom : A.depth + 20 < recursionLimit) (hu : A.units + 400 < cLine) (hh : A.handled = none)
    (hP : Stable (flt false (vs.map kf)) vs.length P) (hth : ∀ v ∈ vs, Thg h₀ v)
    (hq : ∀ s' D c sl, KeepS ds s s' → s'.heap.get? Lw = some { ow with slots := sl } → s'.heap.get? D = some (listOf ((P.take n.toNat).map fun i => vs.getD i Value.none).toArray c) → Q (.ref D) s') :
    wpAny (model prog w) A (call (.ref 82) [.int n tn, .ref arg]) Q E s := by
  have harg : (arg = l ∧ ds = [Lw]) ∨ (arg = I ∧ ds = [I, Lw] ∧ s.heap.get? I = some (itO l)) := .inl harg0
  have X0 := G.X.keeps (fun b o e => st.get b o (by simp) e)
  have hT : s.heap.get? 77 = some { cls := .type "tuple", data := .seq #[Value.none] } := X0 _ _ rfl
  refine enterC (binds := [(Str.ofString "n", Value.int n tn), (Str.ofString "iterable", Value.ref arg), (Str.ofString "key", Value.none)]) ds G st hds rfl rfl (by omega) (BindsTo.of_defaults rfl hT rfl rfl rfl) rfl (by decide +kernel) ?_
  intro g L h₁ tk cells F NC CA kg Gg kh ng kb
  refine absQ fun R0 hR0 => ?_
  obtain ⟨oc, rfl, hoc⟩ := CellsAre.one (show CellsAre _ [(Str.ofString "key", L + 1)] cells from CA)
  have hoc' : oc.data = .cell (some Value.none) := hoc
  clear CA hoc
  obtain ⟨m, F2, m1, m2⟩ : ∃ m, Fr g L h₁ m ∧ m (Str.ofString "n") = some (.int n tn) ∧ m (Str.ofString "iterable") = some (.ref arg) := ⟨_, F, rfl, rfl⟩
  clear F
  have F := F2
  clear F2
  have hLw : Lw ∈ ds := by rcases harg with ⟨_, rfl⟩ | ⟨_, rfl, _⟩ <;> simp
  obtain ⟨rest, N, hrest⟩ : ∃ rest, News g L h₁ ((L + 1, oc) :: (Lw, ow) :: rest) ∧ ((arg = l ∧ rest = []) ∨ (arg = I ∧ rest = [(I, itO l)])) := by
    have n2 : h₁.get? Lw = some ow ∧ Lw ≠ L ∧ g.get? Lw = none := ⟨(kh _ _ hw).1, Nat.ne_of_lt (kh _ _ hw).2, ng _ hLw⟩
    rcases harg with ⟨h1, h2⟩ | ⟨h1, h2, h3⟩
    · exact ⟨[], fun q hq => by rcases List.mem_cons.mp hq with rfl | hq; exact NC _ (.head _); rw [List.mem_singleton.mp hq]; exact n2, .inl ⟨h1, rfl⟩⟩
    · refine ⟨[(I, itO l)], fun q hq => ?_, .inr ⟨h1, rfl⟩⟩
      rcases List.mem_cons.mp hq with rfl | hq
      · exact NC _ (.head _)
      · rcases List.mem_cons.mp hq with rfl | hq
        · exact n2
        · rw [List.mem_singleton.mp hq]
          exact ⟨(kh _ _ h3).1, Nat.ne_of_lt (kh _ _ h3).2, ng _ (by rw [h2]; simp)⟩
  have hgl : g.IsList l vs.toArray := by
    obtain ⟨ol, hol, hol2⟩ := hl
    exact ⟨ol, kg.get _ _ hlds hol, hol2⟩
  clear NC
  walk_at "run"
  by_cases h1 : n = 1
  · subst h1
    walk_at "auto"
    refine iterArg F N hrest hgl fun J h2 F2 N2 k2 => ?_
    clear F N
    walk_at "auto"
    refine objArg ‹_› ‹_› fun S h3 F3 N3 k3 => ?_
    clear F2 N2
    walk_at "auto"
    rename_i h4 F4 N4
    have nJ := N4 (J, itO l) (by simp)
    have nS := N4 (S, objO) (by simp)
    have hlJ : l ≠ J := fun e => by
      obtain ⟨ol, hol, _⟩ := hgl
      rw [e, nJ.2.2] at hol; cases hol
    have hl4 : h4.IsList l vs.toArray := by
      obtain ⟨ol, hol, hol2⟩ := hgl
      exact ⟨ol, F4.keep _ _ hol, hol2⟩
    have hJL : L ≠ J := fun e => nJ.2.1 e.symm
    show wpAny _ _ (call (.builtin "max") [.ref J] [(Str.ofString "default", .ref S), (Str.ofString "key", Value.none)]) _ _ _
    refine max_none hh (by simp only [units_deeper]; omega) (by simp only [depth_deeper]; omega) F4 C0 hlJ hJL nJ.2.2 hl4 ⟨_, nJ.1, rfl, rfl⟩ (by omega) fun i v s4 hv hbest k5 F5 g5 o5 => ?_
    have nc4 := N4 (L + 1, oc) (by simp)
    have nw4 := N4 (Lw, ow) (by simp)
    have N5 : News g L s4.heap [(L + 1, oc), (S, objO), (Lw, ow)] := newsB ⟨k5 _ _ (neData nc4.1 nJ.1 (by rw [hoc']; intro e; cases e)) nc4.1, nc4.2⟩ (newsB ⟨k5 _ _ (neData nS.1 nJ.1 (by intro e; cases e)) nS.1, nS.2⟩ (newsB ⟨k5 _ _ (neData nw4.1 nJ.1 (by rw [hdw]; intro e; cases e)) nw4.1, nw4.2⟩ News.nil))
    clear F3 N3 F4 N4
    walk_at "auto"
    rename_i h6 F6 N6
    have hvm : v ∈ vs := List.mem_of_getElem? hv
    refine is_sentinel ((hth v hvm).mono (fun b o e => F6.keep _ _ (kb.get b o (by simp) e))) (N6 (S, objO) (by simp)).1 ?_
    walk_at "auto"
    rename_i D h7 F7 N7 n7
    have hi : i < vs.length := (List.getElem?_eq_some_iff.mp hv).1
    have e1 : P.take 1 = [i] := take_one (flt_swn false _) hP hi hbest
    have e2 : ((P.take (1 : Int).toNat).map fun i => vs.getD i Value.none) = [v] := by
      rw [show (1 : Int).toNat = 1 from rfl, e1]
      simp [List.getD_eq_getElem?_getD, hv]
    exact hR0 _ _ ⟨⟨_, F7⟩, fun k => hq _ D 0 ow.slots k (N7 (Lw, ow) (by simp)).1 (by rw [e2]; exact (N7 (D, _) (.head _)).1), g5, o5⟩

  · walk_at "auto"
    refine wpAny_mono (Q := fun fl s' => match fl with
      | .ret v => ∃ D c sl, v = .ref D ∧ (∃ m', Fr g L s'.heap m') ∧ s'.heap.get? Lw = some { ow with slots := sl } ∧ s'.heap.get? D = some (listOf ((P.take n.toNat).map fun i => vs.getD i Value.none).toArray c) ∧ s'.gens = s.gens ∧ s'.os = s.os
      | .next => ∃ m' sl, Fr g L s'.heap m' ∧ News g L s'.heap ((L + 1, oc) :: (Lw, { ow with slots := sl }) :: rest) ∧ m' (Str.ofString "n") = some (.int n tn) ∧ m' (Str.ofString "iterable") = some (.ref arg) ∧ s'.gens = s.gens ∧ s'.os = s.os
      | _ => False) ?_ ?_ (fun _ _ h => h)
    · refine absQ fun R1 hR1 => ?_
      rcases hrest with ⟨rfl, rfl⟩ | ⟨rfl, rfl⟩
      · refine wpAny_Try_except ?_
        walk_at "auto"
        have hl1 : h₁.IsList arg vs.toArray := by
          obtain ⟨ol, hol, hol2⟩ := hgl
          exact ⟨ol, F.keep _ _ hol, hol2⟩
        refine len_nat (l := vs) hl1 (by omega) ?_
        by_cases h2 : (vs.length : Int) ≤ n
        · walk_at "auto"
          rename_i h2 F2 N2
          show wpAny _ _ (call (.builtin "sorted") [.ref arg] [(Str.ofString "key", Value.none), (Str.ofString "reverse", .bool true)]) _ _ _
          have hl2 : h2.IsList arg vs.toArray := by
            obtain ⟨ol, hol, hol2⟩ := hgl
            exact ⟨ol, F2.keep _ _ hol, hol2⟩
          refine sortedN_ (bs := vs.map kf) F2 N2 hl2 (ba_of C0) (by omega) (by omega) fun D c pp h3 hst F3 N3 nD => ?_
          rw [rev_vals (stable_lt hst)] at N3
          have epp : (pp.map fun i => vs.length - 1 - i).reverse = P := stable_unique (flt_swn false _) hP (by have := stable_rev (ks := vs.map kf) (p := pp) (by simpa using hst); simp only [List.length_map] at this; exact this)
          rw [epp] at N3
          have g3 : s.gens = s.gens := rfl
          have o3 : s.os = s.os := rfl
          clear F N F2 N2
          walk_at "auto"
          refine kba_turn (value' := .Name (Str.ofString "_") ⟨0, 0, 0, 0⟩) (fun _ => rfl) ?_
          refine slice_list F3 N3 (items := (P.map fun i => vs.getD i Value.none).toArray) (PySem.IsL.isList (n := c) (N3 _ (.head _)).1) .none (.int n _) (fun h4 F4 N4 => ?_) (hsz := by rw [sizeLine_eq]; simp [stable_len hP]; omega)
          have hpl := stable_len hP
          have e1 : slicePick (P.map fun i => vs.getD i Value.none).toArray none (some n) none = ((P.take n.toNat).map fun i => vs.getD i Value.none).toArray := by
            rw [slice_all (by simp [hpl]; omega), List.take_of_length_le (by omega)]
          rw [e1] at N4
          exact hR1 _ _ ⟨_, 0, ow.slots, rfl, ⟨_, F4⟩, (N4 (Lw, ow) (by simp)).1, (N4 _ (.head _)).1, g3, o3⟩
        · walk_at "auto"
          rename_i h2 F2 N2
          exact hR1 _ _ ⟨_, ow.slots, F2, N2, by walk_at "lv", by walk_at "lv", rfl, rfl⟩
      · have nI := (N (arg, itO l) (by simp)).2.2
        obtain ⟨ol, h1', _⟩ := hgl
        rw [← harg0.1, nI] at h1'
        cases h1'
    · intro fl s' hfl
      cases fl with
      | ret v => 
        (refine keepGoal fun kgP kgk => ?_; rcases hfl with ⟨D, c, sl, rfl, F', h1, h2, h3, h4⟩; refine kgk ?_; clear kgk kgP)
        exact hR0 _ _ ⟨F', fun k => hq _ D c sl k h1 h2, h3, h4⟩
      | next =>
        (refine keepGoal fun kgP kgk => ?_; rcases hfl with ⟨m', sl, F', N', m1', m2', hg', ho'⟩; refine kgk ?_; clear kgk kgP)
        clear F N m1 m2
        generalize hwo : ({ ow with slots := sl } : Obj) = ow' at *
        have hdw' : ow'.data = .dict es ep := by rw [← hwo]; exact hdw
        walk_at "auto"
        refine iterArg F' N' hrest hgl fun J h2 F2 N2 k2 => ?_
        clear F' N'
        refine storeX_L F2 N2 ?_
        intro h3 F3 N3
        clear F2 N2
        refine wpAny_execs_cons (compA_ (L := L) (cl := []) (by kernel_rfl) rfl rfl rfl rfl (by decide) rfl (by decide) ?_)
        walk_at "runf"
        refine range3_ (by omega) F3 N3 ?_
        intro r h4 tk4 t1 t2 F4 N4 nr
        clear F3 N3
        walk_at "runf"
        have nJ := N4 (J, itO l) (by simp)
        have nc := N4 (L + 1, oc) (by simp)
        have nw := N4 (Lw, ow') (by simp)
        obtain ⟨ol, hol, hol2⟩ := id hgl
        refine zipCall (l := l) (vs := vs.toArray) (N4 _ (.head _)).1 ⟨_, nJ.1, rfl, rfl⟩ ⟨ol, F4.keep _ _ hol, hol2⟩ (hsmall3_ (by omega)) fun z TI TO i1 h5 hZA hlJ hlTI hz5 hTI5 hTO5 hr5 k5 => ?_
        refine wpAny_pyIter_zip hz5 ?_
        rw [rsize3_ n] at hr5
        have F5 : Fr g L h5 _ := frK F4 (ds := []) (fun b o _ e => (k5 b o e).1) (by simp) (by simp)
        have hcJ : L + 1 ≠ J := neData nc.1 nJ.1 (by rw [hoc']; intro e; cases e)
        have hwJ : Lw ≠ J := neData nw.1 nJ.1 (by rw [hdw']; intro e; cases e)
        (refine keepGoal fun kgP kgk => ?_; rcases id F4.ns with ⟨oL4, _, _, hoL4, _⟩; refine kgk ?_; clear kgk kgP)
        have nL5 := (k5 _ _ hoL4).2
        refine ⟨[z, TO, i1, J], _, ?_, F5.ns, zipComp (Sp := fun k it => it.key = (vs.map kf).getD k [] ∧ it.ord = -(k : Int) ∧ it.more = [] ∧ Value.bytes it.key.toArray it.t = vs.getD k Value.none) hh hZA hlJ hlTI hz5 hTI5 hTO5 hr5 ⟨_, (k5 _ _ nJ.1).1, rfl, rfl⟩ ⟨ol, F5.keep _ _ hol, hol2⟩ (by omega) (fun _ => rfl) (fun _ => rfl) (fun _ => rfl) ?_ ?_⟩
        · exact notC nL5.1 (notC nL5.2.2.1 (notC nL5.2.2.2 (notC (Ne.symm nJ.2.1) noneIn)))
        · intro gc C m s' k v t Q' kc Fc mi me hv hQ'
          obtain ⟨tv, etv⟩ := C0 v (List.mem_of_getElem? hv)
          rw [etv] at me
          refine eltW rfl rfl rfl rfl Fc mi me ?_
          intro it s'' h1 h2 h3 h3t h4 h5 h6 h7 h8
          refine hQ' it s'' ⟨?_, ?_, h3, ?_⟩ h4 h5 h6 h7 h8
          · rw [h1]; simp [List.getD_eq_getElem?_getD, hv]
          · rw [h2]; omega
          · rw [h1, h3t, ← etv]; simp [List.getD_eq_getElem?_getD, hv]
        intro D its s6 k6 hD6 hDn hlen6 hok6 hnod6 hnew6 hJ6 h7 tk7 hn7 hs7
        have gz : ∀ x, x = z ∨ x = TI ∨ x = TO ∨ x = i1 ∨ x = J → g.get? x = none := fun x hx => by
          cases e : g.get? x with
          | none => rfl
          | some o =>
            have := (k5 _ _ (F4.keep _ _ e)).2
            rcases hx with rfl | rfl | rfl | rfl | rfl
            · exact absurd rfl this.1
            · exact absurd rfl this.2.1
            · exact absurd rfl this.2.2.1
            · exact absurd rfl this.2.2.2
            · rw [nJ.2.2] at e; cases e
        have F6 : Fr g L s6.heap _ := frKeep F5 k6.keep (notC (nL5.1) (notC (nL5.2.2.1) (notC (nL5.2.2.2) (notC (Ne.symm nJ.2.1) noneIn)))) (allC (gz _ (.inl rfl)) (allC (gz _ (.inr (.inr (.inl rfl)))) (allC (gz _ (.inr (.inr (.inr (.inl rfl))))) (allC (gz _ (.inr (.inr (.inr (.inr rfl))))) allNil))))
        have F7 : Fr g L h7 _ := F6.set hn7 hs7
        have up7 : ∀ x o, x ≠ L → x ≠ J → h4.get? x = some o → h7.get? x = some o := fun x o hx hJ e => by
          have k := k5 _ _ e
          exact (hs7.2 x hx).trans (k6.keep.get _ _ (notC (k.2.1) (notC (k.2.2.2.1) (notC (k.2.2.2.2) (notC (hJ) noneIn)))) k.1)
        have nc7 := up7 _ _ nc.2.1 hcJ nc.1
        have nw7 := up7 _ _ nw.2.1 hwJ nw.1
        (refine keepGoal fun kgP kgk => ?_; rcases id F5.ns with ⟨oL5, _, _, hoL5, _⟩; refine kgk ?_; clear kgk kgP)
        have hDL : D ≠ L := fun e => by rw [e, hoL5] at hDn; cases hDn
        have hD7 := (hs7.2 D hDL).trans hD6
        have hgD : g.get? D = none := by
          cases e : g.get? D with
          | none => rfl
          | some o => have := F5.keep _ _ e; rw [hDn] at this; cases this
        have hi7 : ∀ x ∈ its, h7.get? x.adr = some x.obj ∧ x.adr ≠ L ∧ g.get? x.adr = none := fun x hx => by
          have hxL : x.adr ≠ L := fun e => by have := (hnew6 x hx).2; rw [e, hoL5] at this; cases this
          obtain ⟨j, hj⟩ := List.getElem?_of_mem hx
          refine ⟨(hs7.2 _ hxL).trans (hok6 j x hj).2, hxL, ?_⟩
          cases e : g.get? x.adr with
          | none => rfl
          | some o => have := F5.keep _ _ e; rw [(hnew6 x hx).2] at this; cases this
        have hJ7 : if vs.length < (max n 0).toNat then Gone h7 J else h7.IsListIter J l its.length := by
          split
          · rename_i hc; rw [if_pos hc] at hJ6; exact hJ6.at fun o e => (hs7.2 J nJ.2.1).trans e
          · rename_i hc; rw [if_neg hc] at hJ6
            obtain ⟨oj, hoj, hoj2⟩ := hJ6
            exact ⟨oj, (hs7.2 J nJ.2.1).trans hoj, hoj2⟩
        have hok7 : ∀ (k : Nat) (it : Itm), its[k]? = some it → it.key = (vs.map kf).getD k [] ∧ it.ord = -(k : Int) ∧ it.more = [] ∧ Value.bytes it.key.toArray it.t = vs.getD k Value.none := fun k it e => (hok6 k it e).1
        have g7 : s6.gens = s.gens := k6.gens.trans hg'
        have o7 : s6.os = s.os := k6.os.trans ho'
        have mn7 : (fun y => if y = Str.ofString "result" then some (Value.ref D) else if y = Str.ofString "it" then some (Value.ref J) else m' y) (Str.ofString "n") = some (Value.int n tn) := by walk_at "lv"
        have mr7 : (fun y => if y = Str.ofString "result" then some (Value.ref D) else if y = Str.ofString "it" then some (Value.ref J) else m' y) (Str.ofString "result") = some (Value.ref D) := by walk_at "lv"
        have mi7 : (fun y => if y = Str.ofString "result" then some (Value.ref D) else if y = Str.ofString "it" then some (Value.ref J) else m' y) (Str.ofString "it") = some (Value.ref J) := by walk_at "lv"
        revert F7 mn7 mr7 mi7
        generalize (fun y => if y = Str.ofString "result" then some (Value.ref D) else if y = Str.ofString "it" then some (Value.ref J) else m' y) = m7
        intro F7 mn7 mr7 mi7
        have hnJ := nJ.2
        have hnc := nc.2
        have hnw := nw.2
        clear hok6 hnew6 hJ6 up7 gz F6 F5 F4 k5 nL5 hs7 hn7 k6 N4 nJ nc nw hD6 hDn m1' m2' k2 hz5 hTI5 hTO5 hr5 hZA hlTI nr hg' ho' hoL4 hoL5 
        generalize hS : ({ s6 with heap := h7, toks := tk7 } : Shared) = s7
        have e7 : s7.heap = h7 := by rw [← hS]
        have ge7 : s7.gens = s.gens := by rw [← hS]; exact g7
        have os7 : s7.os = s.os := by rw [← hS]; exact o7
        subst e7
        clear hS g7 o7
        have N7 : News g L s7.heap ((L + 1, oc) :: (Lw, ow') :: (D, listOf (its.map Itm.val).toArray its.length) :: its.map fun x => (x.adr, x.obj)) :=
          newsCons nc7 hnc.1 hnc.2 (newsCons nw7 hnw.1 hnw.2 (newsCons hD7 hDL hgD fun q hq => by obtain ⟨x, hx, rfl⟩ := List.mem_map.mp hq; exact hi7 x hx))
        have hD7' := hD7
        walk_at "runf"
        refine wpAny_truthy_list (PySem.IsL.isList (n := its.length) hD7) (by simp; omega) ?_
        by_cases hn0 : n ≤ 0
        · have e0 : its = [] := List.eq_nil_of_length_eq_zero (by omega)
          subst e0
          walk_at "auto"
          have e1 : n.toNat = 0 := by omega
          exact hR0 _ _ ⟨⟨_, F7⟩, fun k => hq _ D 0 sl k (by rw [hwo]; exact nw7) (by rw [e1]; exact hD7), ge7, os7⟩
        · have hlen : its.length = min n.toNat vs.length := by rw [hlen6]; congr 1; omega
          have hl2 : 2 ≤ its.length := by omega
          have e2 : (!(its.map Itm.val).toArray.isEmpty) = true := by
            cases its with
            | nil => simp at hl2
            | cons a b => rfl
          rw [e2]
          walk_at "auto"
          have ovt : ∀ x : Int, ov false x = -x := fun x => rfl
          have IG : ItsG s7 its := ⟨fun i hi => (hi7 i hi).1, fun i hi => by obtain ⟨k, hk⟩ := List.getElem?_of_mem hi; exact .inl (hok7 k i hk).2.2.1, hnod6, ord_nodup (σ := false) fun k it e => by rw [ovt, (hok7 k it e).2.1]; omega⟩
          refine hpMinI (its := its) (e := its.length) (m := m7) Gg F7 hD7 hgD ⟨IG.ob, IG.mr, IG.adr, IG.ord⟩ (by omega) (by simp only [depth_deeper]; omega) (by simp only [units_deeper]; omega) hh ?_
          intro s8 its8 k8 hD8 p8 hs8
          replace k8 : KeepS [D] s7 s8 := ⟨k8.keep, k8.gens, k8.os⟩
          obtain ⟨tg, e8, H8⟩ := Hst.start (σ := false) (bs := vs.map kf) (R := fun k it => it.key = (vs.map kf).getD k [] ∧ it.more = [] ∧ Value.bytes it.key.toArray it.t = vs.getD k Value.none) (n := -n) (fun k it e => ⟨⟨(hok7 k it e).1, (hok7 k it e).2.2⟩, by rw [ovt, (hok7 k it e).2.1]; omega⟩) (by rw [ovt]; omega) hnod6 p8 hs8
          have hdD : ∀ x ∈ its, x.adr ≠ D := fun x hx e => by have := (hi7 x hx).1; rw [e, hD7] at this; exact listNeItm (Option.some.inj this)
          have hcD : L + 1 ≠ D := neData nc7 hD7 (by rw [hoc']; intro e; cases e)
          have hwD : Lw ≠ D := neData nw7 hD7 (by rw [hdw']; intro e; cases e)
          have F8 : Fr g L s8.heap m7 := frKeep F7 k8.keep (notC (Ne.symm hDL) noneIn) (allC hgD allNil)
          have hi8 : ∀ x ∈ tg, s8.heap.get? x.2.adr = some x.2.obj ∧ x.2.adr ≠ L ∧ g.get? x.2.adr = none := fun x hx => by
            have hx' : x.2 ∈ its := p8.mem_iff.mp (e8 ▸ List.mem_map.mpr ⟨x, hx, rfl⟩)
            exact ⟨k8.keep.get _ _ (notC (hdD _ hx') noneIn) (hi7 _ hx').1, (hi7 _ hx').2⟩
          have htl : tg.length = its.length := by have := congrArg List.length e8; rw [p8.length_eq] at this; simpa using this
          obtain ⟨r0, rest0, etg⟩ : ∃ r0 rest0, tg = r0 :: rest0 := by
            cases tg with
            | nil => simp at htl; omega
            | cons a b => exact ⟨a, b, rfl⟩
          have nc8 := k8.keep.get _ _ (notC hcD noneIn) nc7
          have nw8 := k8.keep.get _ _ (notC hwD noneIn) nw7
          have hJD : J ≠ D := fun e => by
            split at hJ7
            · obtain ⟨o, vs', h1, h2, h3, h4⟩ := hJ7; rw [e, hD7] at h1; have := Option.some.inj h1; subst this; cases h3
            · obtain ⟨o, h1, h2, h3⟩ := hJ7; rw [e, hD7] at h1; have := Option.some.inj h1; subst this; cases h3
          have N8 : News g L s8.heap [(L + 1, oc), (Lw, ow')] := newsCons nc8 hnc.1 hnc.2 (newsCons nw8 hnw.1 hnw.2 News.nil)
          rw [← e8] at hD8
          clear N7
          walk_at "auto"
          refine item_nat (k := 0) (PySem.IsL.isList (n := its.length) hD8) (by simp; omega) (by simp; omega) ?_
          subst etg
          walk1
          show wpAny _ _ (subscriptTail _ _ (Value.ref r0.2.adr) (Value.int 0 _)) _ _ _
          refine itm_first (i := r0.2) (hi8 _ (.head _)).1 ?_
          have hD8' := hD8
          obtain ⟨oJ, hoJ, hcJ', hJ8⟩ : ∃ oJ, s8.heap.get? J = some oJ ∧ oJ.cls = .type "list_iterator" ∧ ∀ h : Heap, h.get? J = some oJ → if vs.length < (max n 0).toNat then Gone h J else h.IsListIter J l its.length := by
            by_cases hc : vs.length < (max n 0).toNat
            · rw [if_pos hc] at hJ7
              (refine keepGoal fun kgP kgk => ?_; rcases hJ7 with ⟨o, vs', h1, h2, h3⟩; refine kgk ?_; clear kgk kgP)
              exact ⟨o, k8.keep.get _ _ (notC hJD noneIn) h1, h2, fun h e => by rw [if_pos hc]; exact ⟨o, vs', e, h2, h3⟩⟩
            · rw [if_neg hc] at hJ7
              (refine keepGoal fun kgP kgk => ?_; rcases hJ7 with ⟨o, h1, h2, h3⟩; refine kgk ?_; clear kgk kgP)
              exact ⟨o, k8.keep.get _ _ (notC hJD noneIn) h1, h2, fun h e => by rw [if_neg hc]; exact ⟨o, e, h2, h3⟩⟩
          have N9 : News g L s8.heap ((L + 1, oc) :: (Lw, ow') :: (J, oJ) :: (D, _) :: (r0 :: rest0).map fun x => (x.2.adr, x.2.obj)) := newsCons nc8 hnc.1 hnc.2 (newsCons nw8 hnw.1 hnw.2 (newsCons hoJ hnJ.1 hnJ.2 (newsCons hD8 hDL hgD fun q hq => by obtain ⟨x, hx, rfl⟩ := List.mem_map.mp hq; exact hi8 x hx)))
          clear N8
          walk_at "auto"
          refine for_ ?_
          walk_at "auto"
          rename_i h9 F9 N9
          have hoJ9 := (N9 (J, oJ) (by simp)).1
          refine pyIter_li hoJ9 hcJ' ?_
          refine forB (I := fun nn s' => ∃ j tg order m, nn = vs.length + 1 - j ∧ LpSt g L Lw D J l oc ow' false (vs.map kf) (fun k it => it.key = (vs.map kf).getD k [] ∧ it.more = [] ∧ Value.bytes it.key.toArray it.t = vs.getD k Value.none) vs.length its.length (vs.length < (max n 0).toNat) 21 s j tg order m s') (n₀ := vs.length + 1 - its.length) ⟨its.length, r0 :: rest0, -n, _, rfl, F9, (N9 (L + 1, oc) (by simp)).1, (N9 (Lw, ow') (by simp)).1, ⟨_, (N9 (D, _) (.tail _ (.tail _ (.tail _ (.head _))))).1⟩, fun x hx => N9 (x.2.adr, x.2.obj) (.tail _ (.tail _ (.tail _ (.tail _ (List.mem_map.mpr ⟨x, hx, rfl⟩))))), fun hc => ⟨by have := hJ8 _ hoJ9; rw [if_pos hc] at this; exact this, by omega⟩, fun hc => by have := hJ8 _ hoJ9; rw [if_neg hc] at this; exact this, H8, htl, by walk_at "lv", ⟨_, by walk_at "lv"⟩, ⟨_, by walk_at "lv"⟩, by walk_at "lv", by omega, k8.gens.trans ge7, k8.os.trans os7⟩ ?_
          clear hD8 hD8' hi8 hJ8 hoJ hoJ9 N9 F9 F8 H8 nc8 nw8 e8 htl k8 p8 hs8 hi7 hok7 hdD hD7 hD7' hnod6 nc7 nw7 hJ7 hlen6 IG
          intro T2 Z2 nn hT2 hZ2 s1 kgI
          (refine keepGoal fun kgP kgk => ?_; rcases kgI with ⟨j, tg, order, m1, rfl, Z⟩; refine kgk ?_; clear kgk kgP)
          obtain ⟨r0, rest0, etg⟩ : ∃ r0 rest0, tg = r0 :: rest0 := by
            have := Z.len
            cases tg with
            | nil => simp at this; omega
            | cons a b => exact ⟨a, b, rfl⟩
          subst etg
          obtain ⟨eD, hlst⟩ := Z.lst
          obtain ⟨tt, htop⟩ := Z.mtop
          obtain ⟨ot, hord⟩ := Z.mord
          have hres := Z.mres
          have hhr := Z.mhr
          have hcJ1 := Z.neJ Z.cell (fun fs => by rw [hoc']; intro e; cases e)
          have hwJ1 := Z.neJ Z.low (fun fs => by rw [hdw']; intro e; cases e)
          have hDJ1 := Z.neJ hlst (fun fs => by intro e; cases e)
          have hiJ1 : ∀ x ∈ r0 :: rest0, x.2.adr ≠ J := fun x hx => Z.neJ (Z.its x hx).1 (fun fs => by intro e; cases e)
          refine Z.next hh hgl (fun ej h' k' => ?_) (fun v h' hng hv hit hsb => ?_)
          · dsimp only
            have F1 : Fr g L h' m1 := frK Z.fr (ds := [J]) (fun b o hb e => k' b o (notOf hb) e) (notC (Ne.symm hnJ.1) noneIn) (allC hnJ.2 allNil)
            have hcD : L + 1 ≠ D := neData Z.cell hlst (by rw [hoc']; intro e; cases e)
            have hwD : Lw ≠ D := neData Z.low hlst (by rw [hdw']; intro e; cases e)
            have hi1 : ∀ x ∈ r0 :: rest0, h'.get? x.2.adr = some x.2.obj ∧ x.2.adr ≠ L ∧ g.get? x.2.adr = none := fun x hx => ⟨k' _ _ (hiJ1 x hx) (Z.its x hx).1, (Z.its x hx).2⟩
            have hD1 := k' _ _ hDJ1 hlst
            have N1 : News g L h' ((D, listOf (((r0 :: rest0).map Prod.snd).map Itm.val).toArray eD) :: (Lw, ow') :: ((r0 :: rest0).map Prod.snd).map fun x => (x.adr, x.obj)) := newsCons hD1 hDL hgD (newsCons (k' _ _ hwJ1 Z.low) hnw.1 hnw.2 fun q hq => by
              obtain ⟨y, hy, rfl⟩ := List.mem_map.mp hq
              obtain ⟨x, hx, rfl⟩ := List.mem_map.mp hy
              exact hi1 x hx)
            refine hZ2 _ ?_
            dsimp only
            walk_at "runf"
            refine callWith_sortR ?_
            refine sortTR (its := (r0 :: rest0).map Prod.snd) F1 N1 ?_ ?_ Z.hst.ords ?_ ?_ ?_
            · intro q hq
              rcases List.mem_cons.mp hq with rfl | hq
              · exact hwD
              · obtain ⟨y, hy, rfl⟩ := List.mem_map.mp hq
                obtain ⟨x, hx, rfl⟩ := List.mem_map.mp hy
                exact neData (hi1 x hx).1 hD1 (by intro e; cases e)
            · intro i hi
              exact .tail _ (List.mem_map.mpr ⟨i, hi, rfl⟩)
            · have := Z.len; simp at this ⊢; omega
            · have := Z.len; simp at this ⊢; omega
            intro h2 c2 p2 hst2 F2 N2
            clear F1 N1
            have ltl : ((r0 :: rest0).map Prod.snd).length = (r0 :: rest0).length := by simp
            rw [ltl] at hst2
            have H1 := Z.hst
            rw [ej] at H1
            have LO := H1.lastMin (fun i it h => h.1) hP hst2
            rw [LO.2, LO.1.vals] at N2
            replace LO := LO.1
            walk_at "runf"
            refine comp_ (cl := []) rfl (by decide) rfl (by decide) ?_
            walk_at "runf"
            refine wpAny_pyIter_list (PySem.IsL.isList (n := c2) (N2 _ (.head _)).1) ?_
            have up3 : ∀ b o, h2.get? b = some o → (h2.push (itO D)).get? b = some o := fun b o e => Heap.get?_push_of_some _ e
            have F3 : Fr g L (h2.push (itO D)) _ := frK F2 (ds := []) (fun b o _ e => up3 b o e) (by simp) (by simp)
            refine ⟨[h2.objs.size], lastComp2 (out := fun it => Value.bytes it.key.toArray it.t) ⟨fun C x hx => ?_, fun C => rfl⟩ hh ⟨_, Heap.get?_push_size _ rfl, rfl, rfl⟩ (up3 _ _ (N2 _ (.head _)).1) ?_ ?_ ?_ ?_⟩
            · simp at hx
              rcases hx with rfl | rfl <;> rfl
            · rw [LO.len, Z.len]; omega
            · intro i hi
              obtain ⟨x, hx, rfl⟩ := LO.mem i hi
              exact up3 _ _ (N2 (x.2.adr, x.2.obj) (.tail _ (.tail _ (List.mem_map.mpr ⟨x.2, List.mem_map.mpr ⟨x, hx, rfl⟩, rfl⟩)))).1
            · intro i hi
              obtain ⟨x, hx, rfl⟩ := LO.mem i hi
              exact ⟨(H1.tag x hx).2.1, rfl⟩
            · intro D' s4 k4 hD4 hn4
              have F4 : Fr g L s4.heap _ := frKeep F3 k4.keep (notC (Nat.ne_of_lt F2.ns.lt) noneIn) (allC (Heap.get?_none_of_le (Nat.le_trans F2.above (Nat.le_of_lt F2.ns.lt))) allNil)
              have hw4 : s4.heap.get? Lw = some ow' := k4.keep.get _ _ (notC (Nat.ne_of_lt (Heap.lt_size (N2 (Lw, ow') (by simp)).1)) noneIn) (up3 _ _ (N2 (Lw, ow') (by simp)).1)
              refine hR0 _ _ ⟨⟨_, F4⟩, fun k => hq _ D' (r0 :: rest0).length sl k (by rw [hwo]; exact hw4) ?_, k4.gens.trans Z.gens, k4.os.trans Z.os⟩
              have e5 : P.take (r0 :: rest0).length = P.take n.toNat := by
                rw [Z.len, hlen]
                rcases Nat.le_total n.toNat vs.length with h | h
                · rw [Nat.min_eq_left h]
                · rw [Nat.min_eq_right h, List.take_of_length_le (by rw [stable_len hP]; exact Nat.le_refl _), List.take_of_length_le (by rw [stable_len hP]; exact h)]
              rw [LO.out (vs := vs) (fun x hx => (H1.tag x hx).2.2), e5, LO.len] at hD4
              exact hD4
          · dsimp only
            refine wpAny_assign_Name ?_
            obtain ⟨oJ1, hoJ1, hoJ2⟩ := hit
            have F1 : Fr g L h' m1 := Z.fr.change hsb hnJ.1 hnJ.2
            have N1 : News g L h' ((L + 1, oc) :: (Lw, ow') :: (J, oJ1) :: (D, _) :: (r0 :: rest0).map fun x => (x.2.adr, x.2.obj)) := newsCons ((hsb.2 _ hcJ1).trans Z.cell) hnc.1 hnc.2 (newsCons ((hsb.2 _ hwJ1).trans Z.low) hnw.1 hnw.2 (newsCons hoJ1 hnJ.1 hnJ.2 (newsCons ((hsb.2 _ hDJ1).trans hlst) hDL hgD fun q hq => by obtain ⟨x, hx, rfl⟩ := List.mem_map.mp hq; exact ⟨(hsb.2 _ (hiJ1 x hx)).trans (Z.its x hx).1, (Z.its x hx).2⟩)))
            have hvm : v ∈ vs := List.mem_of_getElem? hv
            have hjN : j < vs.length := (List.getElem?_eq_some_iff.mp hv).1
            have hkj : (vs.map kf).getD j [] = kf v := by simp [List.getD_eq_getElem?_getD, hv]
            have hvj : vs.getD j Value.none = v := by simp [List.getD_eq_getElem?_getD, hv]
            obtain ⟨tk2, etv⟩ := C0 v hvm
            rw [etv]
            walk_at "auto"
            rename_i h4 F4 N4
            clear F1 N1
            refine lt_bytes ?_
            have hflt : flt false (vs.map kf) j r0.1 = blt ((r0 :: rest0).getD 0 tg0).2.key.toArray.toList (kf v).toArray.toList := by
              show blt ((vs.map kf).getD r0.1 []) ((vs.map kf).getD j []) = _
              rw [hkj, ← (Z.hst.tag r0 (.head _)).1]; rfl
            cases hb : blt ((r0 :: rest0).getD 0 tg0).2.key.toArray.toList (kf v).toArray.toList with
            | false =>
              rw [hb] at hflt
              walk_at "auto"
              exact hT2 _ _ ⟨vs.length + 1 - (j + 1), by omega, j + 1, r0 :: rest0, order, _, rfl, F4, (N4 (L + 1, oc) (by simp)).1, (N4 (Lw, ow') (by simp)).1, ⟨eD, (N4 (D, _) (.tail _ (.tail _ (.tail _ (.head _))))).1⟩, fun x hx => N4 (x.2.adr, x.2.obj) (.tail _ (.tail _ (.tail _ (.tail _ (List.mem_map.mpr ⟨x, hx, rfl⟩))))), fun hc => absurd hc hng, fun _ => ⟨oJ1, (N4 (J, oJ1) (by simp)).1, hoJ2⟩,
                Z.hst.skip (fun i it h => h.1) hflt, Z.len, by walk_at "lv", ⟨tt, by walk_at "lv"⟩, ⟨ot, by walk_at "lv"⟩, by walk_at "lv", by omega, Z.gens, Z.os⟩
            | true =>
              rw [hb] at hflt
              walk_at "auto"
              rename_i r' h5 F5 N5 n5
              clear F4 N4
              have hDm : (D, listOf (((r0 :: rest0).map Prod.snd).map Itm.val).toArray eD) ∈ (L + 1, oc) :: (Lw, ow') :: (J, oJ1) :: (D, listOf (((r0 :: rest0).map Prod.snd).map Itm.val).toArray eD) :: (r0 :: rest0).map fun x => (x.2.adr, x.2.obj) := .tail _ (.tail _ (.tail _ (.head _)))
              have him : ∀ x ∈ r0 :: rest0, (x.2.adr, x.2.obj) ∈ (L + 1, oc) :: (Lw, ow') :: (J, oJ1) :: (D, listOf (((r0 :: rest0).map Prod.snd).map Itm.val).toArray eD) :: (r0 :: rest0).map fun x => (x.2.adr, x.2.obj) := fun x hx => .tail _ (.tail _ (.tail _ (.tail _ (List.mem_map.mpr ⟨x, hx, rfl⟩))))
              have nr5 := N5 _ (.head _)
              have hDr : D ≠ r' := n5 _ hDm
              have had : ∀ x ∈ r0 :: rest0, x.2.adr ≠ r' := fun x hx => n5 _ (him x hx)
              refine repMinI (r := r0.2) (nw := ⟨r', kf v, order, tk2, ot, []⟩) (rest := rest0.map Prod.snd) (e := eD) Gg F5 (N5 _ (.tail _ hDm)).1 hgD
                (Z.hst.itsG (fun i it h => .inl h.2.1) (fun x hx => (N5 _ (.tail _ (him x hx))).1) nr5.1 (.inl rfl) rfl had) Z.hst.hs (by have := Z.len; simp at this ⊢; omega) (by simp only [depth_deeper]; omega) (by simp only [units_deeper]; omega) ?_
              intro s6 its6 k6 hD6 p6 hs6
              obtain ⟨tg6, ptg, etg⟩ := perm_map (f := Prod.snd) (l := (j, (⟨r', kf v, order, tk2, ot, []⟩ : Itm)) :: rest0) (ys := its6) p6
              subst etg
              have H6 := Z.hst.swap (order' := order - 1) (fun i it h => h.1) hflt (nw := ⟨r', kf v, order, tk2, ot, []⟩) ⟨hkj.symm, rfl, by rw [hvj]; exact etv.symm⟩ rfl (by show -order < -(order - 1); omega) had ptg hs6
              have F6 := frKeep F5 k6.keep (notC (Ne.symm hDL) noneIn) (allC hgD allNil)
              have hit6 : ∀ x ∈ tg6, s6.heap.get? x.2.adr = some x.2.obj ∧ x.2.adr ≠ L ∧ g.get? x.2.adr = none := fun x hx => by
                rcases List.mem_cons.mp (ptg.mem_iff.mp hx) with rfl | hx
                · exact ⟨k6.keep.get _ _ (notC (Ne.symm hDr) noneIn) nr5.1, nr5.2⟩
                · have nx := N5 _ (.tail _ (him x (.tail _ hx)))
                  exact ⟨k6.keep.get _ _ (notC (neData nx.1 (N5 _ (.tail _ hDm)).1 (by intro e; cases e)) noneIn) nx.1, nx.2⟩
              have nk : ∀ a o, (a, o) ∈ (L + 1, oc) :: (Lw, ow') :: (J, oJ1) :: (D, listOf (((r0 :: rest0).map Prod.snd).map Itm.val).toArray eD) :: (r0 :: rest0).map (fun x => (x.2.adr, x.2.obj)) → a ≠ D → s6.heap.get? a = some o ∧ a ≠ L ∧ g.get? a = none := fun a o hm hne => ⟨k6.keep.get _ _ (notC hne noneIn) (N5 _ (.tail _ hm)).1, (N5 _ (.tail _ hm)).2⟩
              have hcD : L + 1 ≠ D := neData Z.cell hlst (by rw [hoc']; intro e; cases e)
              have hwD : Lw ≠ D := neData Z.low hlst (by rw [hdw']; intro e; cases e)
              have N6 : News g L s6.heap ((L + 1, oc) :: (Lw, ow') :: (J, oJ1) :: (D, listOf ((tg6.map Prod.snd).map Itm.val).toArray eD) :: tg6.map fun x => (x.2.adr, x.2.obj)) := newsCons (nk _ _ (by simp) hcD).1 hnc.1 hnc.2 (newsCons (nk _ _ (by simp) hwD).1 hnw.1 hnw.2 (newsCons (nk J oJ1 (by simp) (Ne.symm hDJ1)).1 hnJ.1 hnJ.2 (newsCons hD6 hDL hgD fun q hq => by obtain ⟨x, hx, rfl⟩ := List.mem_map.mp hq; exact hit6 x hx)))
              clear F5 N5 nr5 nk
              have hlen6 : tg6.length = its.length := by rw [ptg.length_eq, ← Z.len]; rfl
              obtain ⟨a6, b6, etg⟩ : ∃ a6 b6, tg6 = a6 :: b6 := by
                cases tg6 with
                | nil => simp at hlen6; omega
                | cons a b => exact ⟨a, b, rfl⟩
              subst etg
              walk_at "auto"
              refine item_nat (k := 0) (PySem.IsL.isList (n := eD) hD6) (by simp) (by have := hlen6; simp at this ⊢; omega) ?_
              have ho6 := hit6 a6 (.head _)
              have hm6 := (H6.tag a6 (.head _)).2.1
              show wpAny _ _ (assign _ _ (Value.ref a6.2.adr)) _ _ _
              refine kcp_assign (x := .bytes a6.2.key.toArray a6.2.t) (y := .int a6.2.ord a6.2.u) hh ⟨_, ho6.1, rfl, _, by show Data.seq _ _ = _; rw [hm6]⟩ rfl rfl rfl F6.ns ?_
              intro h7 tk7 hn7 k7
              have F7 := frSetNs F6 hn7 k7
              have N7 : News g L h7 _ := fun q hq => ⟨k7 _ _ (N6 q hq).2.1 (N6 q hq).1, (N6 q hq).2⟩
              clear F6 N6
              walk_at "auto"
              refine wpAny_loadName_local rfl rfl F7.ns (by walk_at "lv") ?_
              walk_at "auto"
              refine isubOne ?_
              walk_at "auto"
              rename_i h8 F8 N8
              exact hT2 _ _ ⟨vs.length + 1 - (j + 1), by omega, j + 1, a6 :: b6, order - 1, _, rfl, F8, (N8 (L + 1, oc) (by simp)).1, (N8 (Lw, ow') (by simp)).1, ⟨eD, (N8 (D, _) (.tail _ (.tail _ (.tail _ (.head _))))).1⟩, fun x hx => N8 (x.2.adr, x.2.obj) (.tail _ (.tail _ (.tail _ (.tail _ (List.mem_map.mpr ⟨x, hx, rfl⟩))))), fun hc => absurd hc hng, fun _ => ⟨oJ1, (N8 (J, oJ1) (by simp)).1, hoJ2⟩,
                H6, hlen6, by walk_at "lv", ⟨_, by walk_at "lv"⟩, ⟨_, by walk_at "lv"⟩, by walk_at "lv", by omega, k6.gens.trans Z.gens, k6.os.trans Z.os⟩
      | _ => exact hfl.elim
end
end
end
section
local macro_rules | `(tactic| walk_at "eval Name") => `(tactic| (k_dflt (first | refine nameX_L (by assumption) (by walk_at "lv") ?_ | refine nameX_C (by assumption) rfl (.head _) (by assumption) ?_ | refine nameX_C (by assumption) rfl (.tail _ (.head _)) (by assumption) ?_)))
section
variable {prog : Program} {w : World} {A : Around} {E : Value → Shared → Prop} {s : Shared} {p : Program} {loose : List Str} {mg mb : Str → Option Value}

theorem kf_of : ∀ {its : List Value} {ns : List Int}, IntsAre its ns → kf_ints its = true
  | [], _, _ => rfl
  | _ :: r, _, h => by
    cases h with
    | cons _ _ h => exact (kf_of h : kf_ints r = true)
theorem index_ints {D : Addr} {n : Nat} {its : List Value} {ns : List Int} {k : Int} {t : Tok} {j : Nat} {Q : Value → Shared → Prop} (hD : s.heap.get? D = some (listOf its.toArray n)) (hi : IntsAre its ns) (hj : ns[j]? = some k) (hlt : ∀ i, i < j → ns[i]? ≠ some k) (hz : its.length < 1000)
    (h : Q (.int (j : Nat) s.toks) { s with toks := s.toks + 1 }) : wpAny (model prog w) A (call (.builtin "list.index") [.ref D, .int k t]) Q E s := by
  have hl := hi.length
  have hjl : j < ns.length := (List.getElem?_eq_some_iff.mp hj).1
  have hjs : j < its.length := by omega
  have hk : kf_ints its = true := kf_of hi
  refine call_meets PySem.F.slot_list_index ⟨_, hD, rfl⟩ PySem.F.entry_list_index (PySem.F.args_list_index_2 _ _)
    (MeetsSeq.list_index D its.toArray n (.int k t) (isInt k) (fun y hy => kf_eq hk y (by simpa using hy)) j (by simpa using hjs) (by simp; omega) ?_ ?_) ⟨hD, h⟩
  · (refine keepGoal fun kgP kgk => ?_; rcases hi.at j its[j] (List.getElem?_eq_getElem hjs) with ⟨m, tt, e, e2⟩; refine kgk ?_; clear kgk kgP)
    rw [hj] at e2
    have e3 := Option.some.inj e2
    show isInt k its[j] = true
    rw [e, ← e3]; simp [isInt]
  · intro i hi2 hlt2
    have hi3 : i < its.length := by simpa using hi2
    (refine keepGoal fun kgP kgk => ?_; rcases hi.at i its[i] (List.getElem?_eq_getElem hi3) with ⟨m, tt, e, e2⟩; refine kgk ?_; clear kgk kgP)
    show isInt k its[i] = false
    rw [e]
    have := hlt i hlt2
    rw [e2] at this
    simp [isInt]
    intro q
    exact this (by rw [q])
theorem rangeIt_ {g : Heap} {L r : Addr} {m : Str → Option Value} {news : List (Addr × Obj)} {n : Nat} {t1 t t2 : Tok} {Q : Value → Shared → Prop} (F : Fr g L s.heap m) (N : News g L s.heap ((r, { cls := .type "range", data := .fields #[.int 0 t1, .int (n : Int) t, .int 1 t2] }) :: news)) (hn : n < 1000)
    (h : ∀ it h', Fr g L h' m → News g L h' ((it, rangeIt ((0 : Nat) : Int) ((n : Int) - ((0 : Nat) : Int)) 1) :: news) → (∀ q ∈ news, q.1 ≠ it) → Q (.ref it) { s with heap := h' }) : wpAny (model prog w) A (pyIter (.ref r)) Q E s := by
  refine wpAny_pyIter_range (N _ (.head _)).1 (hsmall_ (by omega)) ?_
  have e : Builtin.Range.rangeSize 0 (n : Int) 1 = (n : Int) - ((0 : Nat) : Int) := by rw [rsize_]; omega
  rw [e]
  exact h _ _ (F.push _) (News.push F (newsSub N fun _ hq => .tail _ hq) _) (fun q hq => newsNe N q (.tail _ hq))
theorem nameZ_L {M : Model} {gc : Heap} {C : Addr} {m : Str → Option Value} {scope : Scope} {cl : List (Str × Addr)} {env : Env} {x : Str} {pos : Pos} {v : Value} {Q : Value → Shared → Prop} (F : Fr gc C s.heap m) (hv : m x = some v) (h : Q v s)
    (hk : (compEnvC scope cl C env).scope.kind = .function := by rfl) (hx : (compEnvC scope cl C env).kindOf x = some .local := by rfl) (hd : (x == ("__debug__" : Str)) = false := by decide) : wpAny M A (eval (.Name x pos) (compEnvC scope cl C env)) Q E s :=
  wpAny_Name (wpAny_loadName_local hk hx F.ns hv h) hd
theorem nameZ_C {M : Model} {gc : Heap} {C c : Addr} {o : Obj} {m : Str → Option Value} {scope : Scope} {cl : List (Str × Addr)} {env : Env} {x : Str} {pos : Pos} {v : Value} {Q : Value → Shared → Prop} (F : Fr gc C s.heap m) (hc : cl.lookup x = some c) (ho : gc.get? c = some o) (hdt : o.data = .cell (some v)) (h : Q v s)
    (hk : (compEnvC scope cl C env).scope.kind = .function := by rfl) (hx : (compEnvC scope cl C env).kindOf x = some .cell := by rfl) (hd : (x == ("__debug__" : Str)) = false := by decide) : wpAny M A (eval (.Name x pos) (compEnvC scope cl C env)) Q E s :=
  wpAny_Name (wpAny_loadName_cell hk hx hc ⟨o, F.keep _ _ ho, hdt⟩ h) hd
/-- the sides: a table of ints -/
noncomputable def SidesAt (h : Heap) (Sd : Addr) (N : Nat) (sd : Nat → Nat → Int) : Prop :=
  ∃ rows : List Addr, rows.length = N ∧ h.IsList Sd (rows.map Value.ref).toArray ∧ ∀ j a, rows[j]? = some a → ∃ vs : List Value, h.IsList a vs.toArray ∧ IntsAre vs ((List.range N).map fun i => sd j i)
noncomputable def sg (g : Bool) (x : Int) : Int := if g = true then -x else x
local macro_rules | `(tactic| walk_at "eval Name") => `(tactic| (k_dflt (first | refine nameZ_L (by assumption) (by walk_at "lv") ?_ | refine nameZ_C (by assumption) rfl (by assumption) (by assumption) ?_)))
theorem due_call {h₀ : Heap} {T Sd : Addr} {tvs : List Value} {n : Int} {tn : Tok} {gr : Bool} {sd : Nat → Nat → Int} {lt : Nat → Nat → Bool} {P : List Nat} {Q : Value → Shared → Prop}
    (G : Gd (hd.heap_1 w.params) p loose mg mb h₀) (st : Keep [] h₀ s.heap) (hT : s.heap.IsList T tvs.toArray) (hS : SidesAt s.heap Sd tvs.length sd) (O : SWN lt) (hP : Stable lt tvs.length P)
    (hprec : ∀ i j, i < tvs.length → j < tvs.length → ((sg gr (sd j i) < 0 ∨ (sg gr (sd j i) = 0 ∧ j < i)) ↔ prec lt j i)) (hz : 3 ≤ tvs.length ∧ tvs.length < 64) (hn : -10 ≤ n ∧ n ≤ 100)
    (hroom : A.depth + 2 < recursionLimit) (hh : A.handled = none) (hu : A.units + 100 < cLine)
    (hq : ∀ s' D c, KeepS [] s s' → s.heap.get? D = none → s'.heap.get? D = some (listOf ((P.take n.toNat).map fun i => tvs.getD i Value.none).toArray c) → Q (.ref D) s') :
    wpAny (model prog w) A (call (.ref 129) [.ref T, .int n tn, .ref Sd, .bool gr]) Q E s := by
  refine enterC (binds := [(Str.ofString "things", Value.ref T), (Str.ofString "wish", Value.int n tn), (Str.ofString "sides", Value.ref Sd), (Str.ofString "greatest", Value.bool gr)]) [] G st (by simp) rfl rfl (by omega) (BindsTo.of_eq rfl) rfl (by decide +kernel) ?_
  intro g L h₁ tk cells F NC CA kg Gg kh ng kb
  refine absQ fun R0 hR0 => ?_
  obtain ⟨oc2, oc1, rfl, hoc2, hoc1⟩ := CellsAre.two (show CellsAre _ [(Str.ofString "ranks", L + 1 + 1), (Str.ofString "things", L + 1)] cells from CA)
  replace hoc1 : oc1.data = .cell (some (.ref T)) := hoc1
  replace hoc2 : oc2.data = .cell none := hoc2
  clear CA
  obtain ⟨m, F2, m1, m2, m3⟩ : ∃ m, Fr g L h₁ m ∧ m (Str.ofString "wish") = some (.int n tn) ∧ m (Str.ofString "sides") = some (.ref Sd) ∧ m (Str.ofString "greatest") = some (.bool gr) := ⟨_, F, rfl, rfl, rfl⟩
  clear F
  have kgs : ∀ b o, s.heap.get? b = some o → g.get? b = some o := fun b o e => kg.get b o (by simp) e
  have hTg : g.IsList T tvs.toArray := by
    obtain ⟨ol, hol, hol2⟩ := hT
    exact ⟨ol, kgs _ _ hol, hol2⟩
  obtain ⟨rows, hrl, hSl, hrow⟩ : SidesAt g Sd tvs.length sd := by
    (refine keepGoal fun kgP kgk => ?_; rcases hS with ⟨rows, h1, ⟨ol, h2, h3⟩, h4⟩; refine kgk ?_; clear kgk kgP)
    refine ⟨rows, h1, ⟨ol, kgs _ _ h2, h3⟩, fun j a e => ?_⟩
    (refine keepGoal fun kgP kgk => ?_; rcases h4 j a e with ⟨vs, ⟨o5, h5, h6⟩, h7⟩; refine kgk ?_; clear kgk kgP)
    exact ⟨vs, ⟨o5, kgs _ _ h5, h6⟩, h7⟩
  have up : ∀ {l : Addr} {a : Array Value} {h : Heap}, g.IsList l a → (∀ b o, g.get? b = some o → h.get? b = some o) → h.IsList l a := fun ⟨o, h1, h2⟩ k => ⟨o, k _ _ h1, h2⟩
  refine wpAny_execs_cons (wpAny_Assign_Name (List_ (spliced_none ?_)))
  refine newList_ F2 NC (by simp) ?_
  intro R h2 F3 N3 n3
  clear F2 NC
  refine storeX_C F3 N3 rfl (.tail (Ne.symm (n3 (L + 1 + 1, oc2) (by simp))) (.head (by simp))) hoc2 ?_
  intro h3 oc3 F4 N4 hoc3
  replace N4 : News g L h3 [(L + 1, oc1), (L + 1 + 1, oc3), (R, listOf ([] : List Value).toArray 0)] := newsSub N4 (by walk_at "sub")
  clear F3 N3 hoc2
  have hcR : L + 1 ≠ R ∧ L + 1 + 1 ≠ R := ⟨n3 (L + 1, oc1) (by simp), n3 (L + 1 + 1, oc2) (by simp)⟩
  refine wpAny_execs_cons (for_ ?_)
  walk_at "auto"
  refine len_nat (l := tvs) (up hTg F4.keep) (by omega) ?_
  walk_at "auto"
  refine range1_ F4 N4 ?_
  intro r4 h4 tk4 t41 t42 F5 N5 nr5
  clear F4 N4
  refine rangeIt_ (n := tvs.length) F5 N5 (by omega) ?_
  intro it h6 F6 N6 ni6
  clear F5 N5
  refine forB (I := fun nn s' => ∃ i m vals e, nn = tvs.length + 1 - i ∧ i ≤ tvs.length ∧ Fr g L s'.heap m ∧ News g L s'.heap [(L + 1, oc1), (L + 1 + 1, oc3), (R, listOf (vals : List Value).toArray e), (it, rangeIt (i : Nat) ((tvs.length : Int) - (i : Nat)) 1)]
    ∧ IntsAre vals ((List.range i).map fun k => ((rk lt tvs.length k : Nat) : Int)) ∧ m (Str.ofString "wish") = some (.int n tn) ∧ m (Str.ofString "sides") = some (.ref Sd) ∧ m (Str.ofString "greatest") = some (.bool gr) ∧ s'.gens = s.gens ∧ s'.os = s.os) (n₀ := tvs.length + 1)
    ⟨0, m, [], 0, rfl, by omega, F6, newsSub N6 (by walk_at "sub"), .nil, m1, m2, m3, rfl, rfl⟩ ?_
  have nit := (N6 _ (.head _)).2
  have nRi : R ≠ it := ni6 (R, _) (.tail _ (.tail _ (.head _)))
  have nci : L + 1 ≠ it ∧ L + 1 + 1 ≠ it := ⟨ni6 (L + 1, oc1) (by simp), ni6 (L + 1 + 1, oc3) (by simp)⟩
  clear F6 N6 m1 m2 m3 ni6
  intro T0 Z0 nn hT0 hZ0 s1 kgI
  (refine keepGoal fun kgP kgk => ?_; rcases kgI with ⟨i, m, vals, e, rfl, hi, F1, N1, hv, m1, m2, m3, hg1, ho1⟩; refine kgk ?_; clear kgk kgP)
  have nI := N1 (it, rangeIt (i : Nat) ((tvs.length : Int) - (i : Nat)) 1) (by simp)
  have nRo := N1 (R, listOf vals.toArray e) (by simp)
  have nc1 := N1 (L + 1, oc1) (by simp)
  have nc2 := N1 (L + 1 + 1, oc3) (by simp)
  by_cases hend : i < tvs.length
  · refine wpAny_pyNext_range_item (show IsRangeIter s1.heap it (i : Nat) ((tvs.length : Int) - (i : Nat)) 1 from nI.1) (by omega) fun h2 hit2 hsb2 => ?_
    dsimp only
    have F2 : Fr g L h2 m := F1.change hsb2 nI.2.1 nI.2.2
    have N2 : News g L h2 [(L + 1, oc1), (L + 1 + 1, oc3), (R, listOf vals.toArray e), (it, rangeIt ((i + 1 : Nat)) ((tvs.length : Int) - ((i + 1 : Nat) : Int)) 1)] := by
      refine newsCons ((hsb2.2 _ nci.1).trans nc1.1) nc1.2.1 nc1.2.2 (newsCons ((hsb2.2 _ nci.2).trans nc2.1) nc2.2.1 nc2.2.2 (newsCons ((hsb2.2 _ nRi).trans nRo.1) nRo.2.1 nRo.2.2 (newsCons ?_ nI.2.1 nI.2.2 News.nil)))
      have e1 : ((i + 1 : Nat) : Int) = (i : Int) + 1 := by omega
      have e2 : (tvs.length : Int) - ((i : Int) + 1) = tvs.length - i - 1 := by omega
      rw [e1, e2]; exact hit2
    clear F1 N1 hit2 nI nRo nc1 nc2
    refine wpAny_assign_Name ?_
    walk_at "auto"
    rename_i h3 F3 N3 h4 F4 N4
    clear F2 N2 F3 N3
    refine wpAny_mono (Q := fun f s' => f = .next ∧ ∃ m, Fr g L s'.heap m ∧ News g L s'.heap [(L + 1, oc1), (L + 1 + 1, oc3), (R, listOf vals.toArray e), (it, rangeIt ((i + 1 : Nat)) ((tvs.length : Int) - ((i + 1 : Nat) : Int)) 1)] ∧ (∃ ta, m (Str.ofString "ahead") = some (.int (rk lt tvs.length i : Nat) ta)) ∧ m (Str.ofString "wish") = some (.int n tn) ∧ m (Str.ofString "sides") = some (.ref Sd) ∧ m (Str.ofString "greatest") = some (.bool gr) ∧ s'.gens = s.gens ∧ s'.os = s.os) ?_ ?_ (fun _ _ h => h)
    · refine for_ ?_
      walk_at "auto"
      refine len_nat (l := tvs) (up hTg F4.keep) (by omega) ?_
      walk_at "auto"
      refine range1_ F4 N4 ?_
      intro r5 h5 tk5 t51 t52 F5 N5 nr5
      clear F4 N4
      refine rangeIt_ (n := tvs.length) F5 N5 (by omega) ?_
      intro jt h6 F6 N6 ni6
      clear F5 N5
      refine forB (I := fun nn s' => ∃ j m ta ti, nn = tvs.length + 1 - j ∧ j ≤ tvs.length ∧ Fr g L s'.heap m ∧ News g L s'.heap [(L + 1, oc1), (L + 1 + 1, oc3), (R, listOf (vals : List Value).toArray e), (it, rangeIt ((i + 1 : Nat)) ((tvs.length : Int) - ((i + 1 : Nat) : Int)) 1), (jt, rangeIt (j : Nat) ((tvs.length : Int) - (j : Nat)) 1)]
        ∧ m (Str.ofString "ahead") = some (.int (rk lt j i : Nat) ta) ∧ m (Str.ofString "i") = some (.int (i : Nat) ti) ∧ m (Str.ofString "wish") = some (.int n tn) ∧ m (Str.ofString "sides") = some (.ref Sd) ∧ m (Str.ofString "greatest") = some (.bool gr) ∧ s'.gens = s.gens ∧ s'.os = s.os) (n₀ := tvs.length + 1)
        ⟨0, _, _, _, rfl, by omega, F6, newsSub N6 (by walk_at "sub"), by walk_at "lv", by walk_at "lv", by walk_at "lv", by walk_at "lv", by walk_at "lv", hg1, ho1⟩ ?_
      have njt := (N6 _ (.head _)).2
      have nall : ∀ q ∈ [(L + 1, oc1), (L + 1 + 1, oc3), (R, listOf vals.toArray e), (it, rangeIt ((i + 1 : Nat)) ((tvs.length : Int) - ((i + 1 : Nat) : Int)) 1)], q.1 ≠ jt := ni6
      clear F6 N6 ni6
      intro T1 Z1 nn hT1 hZ1 s2 kgI
      (refine keepGoal fun kgP kgk => ?_; rcases kgI with ⟨j, m', ta, ti, rfl, hj, F1, N1, ma, mi, m1', m2', m3', hg2, ho2⟩; refine kgk ?_; clear kgk kgP)
      have nJ := N1 (jt, rangeIt (j : Nat) ((tvs.length : Int) - (j : Nat)) 1) (by simp)
      by_cases hjend : j < tvs.length
      · refine wpAny_pyNext_range_item (show IsRangeIter s2.heap jt (j : Nat) ((tvs.length : Int) - (j : Nat)) 1 from nJ.1) (by omega) fun h2 hit2 hsb2 => ?_
        dsimp only
        have F2 : Fr g L h2 m' := F1.change hsb2 nJ.2.1 nJ.2.2
        have N2 : News g L h2 [(L + 1, oc1), (L + 1 + 1, oc3), (R, listOf vals.toArray e), (it, rangeIt ((i + 1 : Nat)) ((tvs.length : Int) - ((i + 1 : Nat) : Int)) 1), (jt, rangeIt ((j + 1 : Nat)) ((tvs.length : Int) - ((j + 1 : Nat) : Int)) 1)] := by
          have ej : h2.get? jt = some (rangeIt ((j + 1 : Nat)) ((tvs.length : Int) - ((j + 1 : Nat) : Int)) 1) := by
            have e1 : ((j + 1 : Nat) : Int) = (j : Int) + 1 := by omega
            have e2 : (tvs.length : Int) - ((j : Int) + 1) = tvs.length - j - 1 := by omega
            rw [e1, e2]; exact hit2
          have N0 : News g L h2 [(L + 1, oc1), (L + 1 + 1, oc3), (R, listOf vals.toArray e), (it, rangeIt ((i + 1 : Nat)) ((tvs.length : Int) - ((i + 1 : Nat) : Int)) 1)] := newsSet (newsSub N1 (by walk_at "sub")) hsb2 nall
          exact newsSub (newsB ⟨ej, nJ.2⟩ N0) (by walk_at "sub")
        clear F1 N1 hit2 nJ
        obtain ⟨aj, haj⟩ : ∃ aj, rows[j]? = some aj := ⟨_, List.getElem?_eq_getElem (by omega)⟩
        obtain ⟨rv, hrv, hri⟩ := hrow j aj haj
        obtain ⟨vij, hvij⟩ : ∃ v, rv[i]? = some v := ⟨_, List.getElem?_eq_getElem (by have := hri.length; simp at this; omega)⟩
        (refine keepGoal fun kgP kgk => ?_; rcases hri.at i vij hvij with ⟨xij, txij, rfl, hxij⟩; refine kgk ?_; clear kgk kgP)
        have exij : xij = sd j i := by simp [hend] at hxij; exact hxij.symm
        subst exij
        refine wpAny_assign_Name ?_
        have hrvl : rv.length = tvs.length := by have := hri.length; simpa using this
        have erow : (rows.map Value.ref).getD j Value.none = .ref aj := by simp [List.getD_eq_getElem?_getD, haj]
        have ecell : rv.getD i Value.none = .int (sd j i) txij := by simp [List.getD_eq_getElem?_getD, hvij]
        have hp := hprec i j hend hjend
        walk_at "auto"
        rename_i h5 F5 N5
        clear F2 N2
        refine ite_join (P := fun v s' => ∃ t tk, v = .int (sg gr (sd j i)) t ∧ s' = { s2 with heap := h5, toks := tk }) (fun hgr => ?_) (fun hgr => ?_) ?_
        · walk_at "auto"
          refine item_nat (l := rows.map Value.ref) (k := j) (up hSl (Fr.keep (by assumption))) (by simp; omega) (by simp; omega) ?_
          rw [erow]
          walk_at "auto"
          refine kba_turn (value' := .Name (Str.ofString "_") ⟨0, 0, 0, 0⟩) (fun _ => rfl) ?_
          refine item_nat (l := rv) (k := i) (up hrv (Fr.keep (by assumption))) (by omega) (by omega) ?_
          rw [ecell]
          walk_at "auto"
          exact ⟨_, _, (by simp only [sg, if_pos hgr]; rfl), rfl⟩
        · walk_at "auto"
          refine item_nat (l := rows.map Value.ref) (k := j) (up hSl (Fr.keep (by assumption))) (by simp; omega) (by simp; omega) ?_
          rw [erow]
          walk_at "auto"
          refine kba_turn (value' := .Name (Str.ofString "_") ⟨0, 0, 0, 0⟩) (fun _ => rfl) ?_
          refine item_nat (l := rv) (k := i) (up hrv (Fr.keep (by assumption))) (by omega) (by omega) ?_
          rw [ecell]
          exact ⟨_, _, (by simp only [sg, if_neg hgr]; rfl), rfl⟩
        clear erow ecell hri hrv hrvl
        generalize sg gr (sd j i) = x0 at hp
        intro v6 _ kgI
        (refine keepGoal fun kgP kgk => ?_; rcases kgI with ⟨tx, tk6, rfl, rfl⟩; refine kgk ?_; clear kgk kgP)
        dsimp only
        walk_at "run"
        rename_i h7 F7 N7
        clear F5 N5
        walk1
        refine wpAny_mono (Q := fun b s' => ∃ tk, (b = true ↔ prec lt j i) ∧ s' = { s2 with heap := h7, toks := tk }) ?_ ?_ (fun _ _ h => h)
        · by_cases c1 : x0 < 0
          · walk_at "auto"
            exact ⟨_, ⟨fun _ => hp.mp (.inl c1), fun _ => rfl⟩, rfl⟩
          · by_cases c2 : x0 = 0 ∧ j < i
            · have c3 := c2.1
              have c4 := c2.2
              walk_at "auto"
              exact ⟨_, ⟨fun _ => hp.mp (.inr c2), fun _ => rfl⟩, rfl⟩
            · have c5 : ¬ prec lt j i := fun q => (hp.mpr q).elim c1 c2
              by_cases c3 : x0 = 0
              · have c4 : ¬ j < i := fun q => c2 ⟨c3, q⟩
                walk_at "auto"
                exact ⟨_, ⟨(fun q => by cases q), fun q => absurd q c5⟩, rfl⟩
              · walk_at "auto"
                exact ⟨_, ⟨(fun q => by cases q), fun q => absurd q c5⟩, rfl⟩
        · rintro b _ ⟨tk7, hb, rfl⟩
          try dsimp only
          by_cases hpr : prec lt j i
          · refine ite_pos (hb.mpr hpr) ?_
            walk_at "auto"
            refine wpAny_loadName_local rfl rfl F7.ns (by walk_at "lv") ?_
            walk_at "auto"
            refine iadd1 ?_
            walk_at "auto"
            rename_i h8 F8 N8
            have er : rk lt (j + 1) i = rk lt j i + 1 := by rw [rk_succ, if_pos (pb_iff.mpr hpr)]
            exact hT1 _ _ ⟨tvs.length + 1 - (j + 1), by omega, j + 1, _, _, _, rfl, by omega, F8, N8, by rw [er]; walk_at "lv", by walk_at "lv", by walk_at "lv", by walk_at "lv", by walk_at "lv", hg2, ho2⟩
          · refine ite_neg (fun q => hpr (hb.mp q)) ?_
            walk_at "auto"
            have er : rk lt (j + 1) i = rk lt j i := by rw [rk_succ, if_neg (fun q => hpr (pb_iff.mp q))]; rfl
            exact hT1 _ _ ⟨tvs.length + 1 - (j + 1), by omega, j + 1, _, _, _, rfl, by omega, F7, N7, by rw [er]; walk_at "lv", by walk_at "lv", by walk_at "lv", by walk_at "lv", by walk_at "lv", hg2, ho2⟩
      · have ej : j = tvs.length := by omega
        refine wpAny_pyNext_range_end hh (show IsRangeIter s2.heap jt (j : Nat) ((tvs.length : Int) - (j : Nat)) 1 from nJ.1) (by omega) fun h' he => ?_
        dsimp only
        exact hZ1 _ ⟨rfl, _, frExt F1 he nJ.2.1 nJ.2.2, newsExt (newsSub N1 (by walk_at "sub")) he nall, ⟨ta, by rw [← ej]; exact ma⟩, m1', m2', m3', hg2, ho2⟩
    · intro f s2 kgI
      (refine keepGoal fun kgP kgk => ?_; rcases kgI with ⟨rfl, m', F1, N1, ⟨ta, ma⟩, m1', m2', m3', hg2, ho2⟩; refine kgk ?_; clear kgk kgP)
      dsimp only
      walk_at "auto"
      show wpAny _ _ (call (Value.builtin "list.append") [Value.ref R, Value.int _ _]) _ _ _
      refine append_1 (xs := vals) (e := e) (news := [(L + 1, oc1), (L + 1 + 1, oc3), (it, rangeIt ((i + 1 : Nat)) ((tvs.length : Int) - ((i + 1 : Nat) : Int)) 1)]) F1 (newsSub N1 (by walk_at "sub")) (allC hcR.1 (allC hcR.2 (allC (Ne.symm nRi) allNil))) (by have := hv.length; simp at this; omega) ?_
      intro h5 F5 N5
      dsimp only
      walk_at "auto"
      exact hT0 _ _ ⟨tvs.length + 1 - (i + 1), by omega, i + 1, _, vals ++ [.int (rk lt tvs.length i : Nat) ta], e + 1, rfl, by omega, F5, newsSub N5 (by walk_at "sub"), by rw [List.range_succ, List.map_append]; exact ints_snoc hv, m1', m2', m3', hg2, ho2⟩
  · have ei : i = tvs.length := by omega
    refine wpAny_pyNext_range_end hh (show IsRangeIter s1.heap it (i : Nat) ((tvs.length : Int) - (i : Nat)) 1 from nI.1) (by omega) fun h' he => ?_
    dsimp only
    have F2 : Fr g L h' m := frExt F1 he nI.2.1 nI.2.2
    have N2 : News g L h' [(L + 1, oc1), (L + 1 + 1, oc3), (R, listOf vals.toArray e)] := newsExt (newsSub N1 (by walk_at "sub")) he (allC nci.1 (allC nci.2 (allC nRi allNil)))
    clear F1 N1
    rw [ei] at hv
    have hvl : vals.length = tvs.length := by have := hv.length; simpa using this
    refine hZ0 _ ?_
    dsimp only
    walk_at "runf"
    refine comp_ (cl := [(Str.ofString "things", L + 1), (Str.ofString "ranks", L + 1 + 1)]) rfl (by decide) rfl (by decide) ?_
    walk_at "runf"
    refine len_nat (l := tvs) (up hTg F2.keep) (by omega) ?_
    walk_at "runf"
    refine min_two_N hh F2 N2 ?_
    intro h3 tk3 F3 N3
    clear F2 N2
    walk_at "runf"
    refine max0_ hh F3 N3 ?_
    intro h4 tk4 tv4 F4 N4
    clear F3 N3
    obtain ⟨cn, hcn, hcn2⟩ : ∃ cn : Nat, cn = (if (tvs.length : Int) < n then (tvs.length : Int) else n).toNat ∧ cn ≤ tvs.length := ⟨_, rfl, by split <;> omega⟩
    rw [← hcn]
    walk_at "runf"
    refine range1_ F4 N4 ?_
    intro r5 h5 tk5 t51 t52 F5 N5 nr5
    clear F4 N4
    refine rangeIt_ (n := cn) F5 N5 (by omega) ?_
    intro jt h6 F6 N6 ni6
    clear F5 N5
    have etk : P.take n.toNat = P.take cn := by
      rw [hcn]
      split
      · rw [List.take_of_length_le (by rw [stable_len hP]; omega), List.take_of_length_le (by rw [stable_len hP]; omega)]
      · rfl
    have hRj : R ≠ jt := ni6 (R, _) (.tail _ (.tail _ (.head _)))
    have hcj : L + 1 ≠ jt ∧ L + 1 + 1 ≠ jt := ⟨ni6 (L + 1, oc1) (by simp), ni6 (L + 1 + 1, oc3) (by simp)⟩
    have hr6 := (N6 (R, listOf vals.toArray e) (by simp)).1
    have hc61 := (N6 (L + 1, oc1) (by simp)).1
    have hc62 := (N6 (L + 1 + 1, oc3) (by simp)).1
    have nj6 := N6 _ (.head _)
    refine ⟨[jt], listComp (N := cn) (Src := fun k h => IsRangeIter h jt (0 + (k : Nat)) ((cn : Int) - (k : Nat)) 1) (V := fun k v => ∃ t, v = .int (0 + (k : Nat)) t) (Ok := fun k x _ => x = tvs.getD (P.getD k 0) Value.none) nj6.1 (by omega) nj6.1 (fun gc kg => rangeTurns hh) (fun _ _ _ _ h _ => h) (fun s' Q' hs hq' => wpAny_pyIter_rangeiter hs hq') ?_ ?_⟩
    · intro gc C mc sc k v Q' kc Fc hsc hV hk hQ'
      obtain ⟨tv, rfl⟩ := hV
      show wpAny _ _ (pure ()) _ _ _
      refine wpAny_pure ?_
      refine wpAny_assign_Name (wpAny_storeName_local rfl Fc.ns (fun h7 hn7 hs7 => ?_) rfl)
      have F7 : Fr gc C h7 _ := Fc.set hn7 hs7
      have hgc1 : gc.get? (L + 1) = some oc1 := kc.get _ _ (notC hcj.1 noneIn) hc61
      have hgc2 : gc.get? (L + 1 + 1) = some oc3 := kc.get _ _ (notC hcj.2 noneIn) hc62
      have hgR : gc.get? R = some (listOf vals.toArray e) := kc.get _ _ (notC hRj noneIn) hr6
      have hgT : gc.IsList T tvs.toArray := by
        obtain ⟨ol, h8, h9⟩ := hTg
        exact ⟨ol, kc.get _ _ (by simp; intro q; rw [q, nj6.2.2] at h8; cases h8) (F6.keep _ _ h8), h9⟩
      walk_at "runf"
      have hR7 := F7.keep _ _ hgR
      refine getMethod_builtin ⟨_, hR7, rfl⟩ PySem.F.plainAttrs_list PySem.F.slot_list_index PySem.F.type_list_index (fun a e => by cases e; exact ⟨_, hR7, rfl⟩) ?_
      dsimp only
      walk_at "runf"
      have hkN : k < tvs.length := by omega
      have hkP : k < P.length := by rw [stable_len hP]; exact hkN
      have hPk : P.getD k 0 < tvs.length := stable_lt hP (by simp [hkP])
      refine index_ints (its := vals) (j := P.getD k 0) hR7 hv ?_ ?_ (by omega) ?_
      · rw [List.getElem?_map, List.getElem?_range hPk]
        simp only [Option.map_some]
        rw [rank_at O hP hkN]
        simp
      · intro i' hi' q
        have hi2 : i' < tvs.length := by omega
        rw [List.getElem?_map, List.getElem?_range hi2] at q
        simp only [Option.map_some] at q
        have q2 := Option.some.inj q
        have := rank_lt O hP hkN hi2 (by omega)
        omega
      walk_at "runf"
      refine item_nat (l := tvs) (k := P.getD k 0) (by obtain ⟨ol, h8, h9⟩ := hgT; exact ⟨ol, F7.keep _ _ h8, h9⟩) hPk (by omega) ?_
      exact hQ' _ _ _ F7 (fun b o hb e => (hs7.2 b hb).trans e) rfl rfl (fun _ _ => rfl)
    · intro D' outs s8 k8 hD8 hn8 hl8 hok8
      have eo : outs = (P.take n.toNat).map fun i => tvs.getD i Value.none := by
        rw [etk]
        refine List.ext_getElem (by simp [hl8, stable_len hP]; omega) fun k hk1 hk2 => ?_
        have := hok8 k _ (List.getElem?_eq_getElem hk1)
        rw [this]
        have hkP : k < P.length := by rw [stable_len hP]; omega
        simp [hkP]
      subst eo
      have F8 : Fr g L s8.heap _ := frKeep F6 k8.keep (notC (Ne.symm nj6.2.1) noneIn) (allC nj6.2.2 allNil)
      refine hR0 _ _ ⟨⟨_, F8⟩, fun k => hq _ D' cn k ?_ hD8, k8.gens.trans hg1, k8.os.trans ho1⟩
      cases z : s.heap.get? D' with
      | none => rfl
      | some o =>
        have := F6.keep _ _ (kgs _ _ z)
        rw [hn8] at this; cases this
end
end
section
section
variable {prog : Program} {w : World} {A : Around} {E : Value → Shared → Prop} {s : Shared}
theorem eqAt_self (v : Value) : EqAt A s v v true := fun prog w E Q hq => by
  unfold eqBool
  refine wpAny_holding ?_
  have hv : (v == v) = true := by simp
  simp only [hv, if_true]
  exact wpAny_bind (wpAny_rule (wpAny_pure hq))
/-- values that are alike: the same, or words with the same letters -/
noncomputable def Alike (v u : Value) : Prop := v = u ∨ ∃ b t1 t2, v = .bytes b t1 ∧ u = .bytes b t2
theorem Alike.eqAt {v u : Value} (h : Alike v u) : EqAt A s v u true := by
  rcases h with rfl | ⟨b, t1, t2, rfl, rfl⟩
  · exact eqAt_self v
  · intro prog w E Q hq
    exact eqBool_bytes (by simpa using hq)
theorem ne_same {a b : Addr} {vs us : List Value} {Q : Value → Shared → Prop} (hl : s.heap.IsList a vs.toArray) (hb : s.heap.IsList b us.toArray) (hlen : vs.length = us.length) (he : ∀ (j : Nat) v u, vs[j]? = some v → us[j]? = some u → Alike v u) (hu : A.units + 10 < cLine)
    (h : Q (.bool false) s) : wpAny (model prog w) A (compareOp .NotEq (.ref a) (.ref b)) Q E s := by
  have := RcNeAt.lists (A := A) (e := fun _ => true) hl hb (by simpa using hlen) (by omega) (fun j h1 h2 => (he j _ _ (List.getElem?_eq_getElem (by simpa using h1)) (List.getElem?_eq_getElem (by simpa using h2))).eqAt)
  refine this prog w E Q ?_
  have e : (!(List.range vs.toArray.size).all fun _ => true) = false := by simp
  rw [e]; exact h
end
noncomputable def sideB (b : Bool) (x y : Nat) : Int := if b = true then sideM x y else sideD x y
theorem sideB_spec (b : Bool) (x y : Int) : (sideB b x.natAbs y.natAbs < 0 ↔ blt (keyW b x) (keyW b y) = true) ∧ (sideB b x.natAbs y.natAbs = 0 ↔ keyW b x = keyW b y) := by
  unfold sideB keyW
  cases b
  · simpa using sideD_spec _ _
  · simpa using sideM_spec _ _
theorem side_prec {b : Bool} {ns : List Int} {i j : Nat} (hi : i < ns.length) (hj : j < ns.length) :
    ((sg false (sideB b (ns.getD j 0).natAbs (ns.getD i 0).natAbs) < 0 ∨ (sg false (sideB b (ns.getD j 0).natAbs (ns.getD i 0).natAbs) = 0 ∧ j < i)) ↔ prec (flt true (ns.map (keyW b))) j i) ∧
    ((sg true (sideB b (ns.getD j 0).natAbs (ns.getD i 0).natAbs) < 0 ∨ (sg true (sideB b (ns.getD j 0).natAbs (ns.getD i 0).natAbs) = 0 ∧ j < i)) ↔ prec (flt false (ns.map (keyW b))) j i) := by
  obtain ⟨h1, h2⟩ := sideB_spec b (ns.getD j 0) (ns.getD i 0)
  have e1 : (ns.map (keyW b)).getD i [] = keyW b (ns.getD i 0) := by simp [hi]
  have e2 : (ns.map (keyW b)).getD j [] = keyW b (ns.getD j 0) := by simp [hj]
  have f1 : ∀ x y, flt true (ns.map (keyW b)) x y = blt ((ns.map (keyW b)).getD x []) ((ns.map (keyW b)).getD y []) := fun _ _ => rfl
  have f2 : ∀ x y, flt false (ns.map (keyW b)) x y = blt ((ns.map (keyW b)).getD y []) ((ns.map (keyW b)).getD x []) := fun _ _ => rfl
  have g1 : ∀ x, sg false x = x := fun _ => rfl
  have g2 : ∀ x, sg true x = -x := fun _ => rfl
  unfold prec
  rw [f1, f1, f2, f2, e1, e2, g1, g2]
  generalize sideB b (ns.getD j 0).natAbs (ns.getD i 0).natAbs = x at h1 h2
  generalize keyW b (ns.getD j 0) = kj at h1 h2
  generalize keyW b (ns.getD i 0) = ki at h1 h2
  have tri : ¬ blt kj ki = true → ¬ kj = ki → blt ki kj = true := fun q1 q2 => by
    cases q : blt ki kj with
    | true => rfl
    | false => exact absurd (bo.total _ _ (by simpa using q1) q) q2
  constructor
  · constructor
    · rintro (q | ⟨q, q'⟩)
      · exact .inl (h1.mp q)
      · have := h2.mp q; subst this; exact .inr ⟨bo.irrefl _, q'⟩
    · rintro (q | ⟨q, q'⟩)
      · exact .inl (h1.mpr q)
      · by_cases z : blt kj ki = true
        · exact .inl (h1.mpr z)
        · exact .inr ⟨h2.mpr (bo.total _ _ (by simpa using z) q), q'⟩
  · constructor
    · rintro (q | ⟨q, q'⟩)
      · exact .inl (tri (fun z => by have := h1.mpr z; omega) (fun z => by have := h2.mpr z; omega))
      · have := h2.mp (by omega); subst this; exact .inr ⟨bo.irrefl _, q'⟩
    · rintro (q | ⟨q, q'⟩)
      · refine .inl ?_
        have n1 : ¬ x < 0 := fun z => by have := bo.asymm _ _ (h1.mp z); rw [q] at this; cases this
        have n2 : ¬ x = 0 := fun z => by have := h2.mp z; subst this; rw [bo.irrefl] at q; cases q
        omega
      · by_cases z : kj = ki
        · exact .inr ⟨by have := h2.mpr z; omega, q'⟩
        · exact .inl (by
            have n1 : ¬ x < 0 := fun y => by have := h1.mp y; rw [q] at this; cases this
            have n2 : ¬ x = 0 := fun y => z (h2.mp y)
            omega)
end
section
noncomputable abbrev cellN : Obj := { cls := .type "cell", data := .cell none }
section
variable {prog : Program} {w : World} {A : Around} {E : Value → Shared → Prop} {s : Shared} {env : Env}
/-- the block of a comprehension with one cell -/
theorem newEnv_one {M : Model} {scope : Scope} {globals : Addr} {cl : List (Str × Addr)} {n0 x n2 n3 : Str} {qual : Str} {Q : Env → Shared → Prop} (hn : scope.names = [(n0, .local), (x, .cell), (n2, .free), (n3, .free)])
    (h : Q { scope, locals := s.heap.objs.size, globals, cells := (x, s.heap.objs.size + 1) :: cl, qual, func := none, code := env.code, frame := env.frame, builtins := env.builtins }
      { s with heap := (s.heap.push { cls := .type "dict", data := .dict #[] }).push cellN }) :
    wpAny M A (newFunctionEnv scope globals cl [] qual none .none (some env)) Q E s := by
  unfold newFunctionEnv
  simp only [Option.isSome_some, if_true]
  refine wpAny_bind (wpAny_alloc ?_)
  rw [hn]
  simp only [List.forIn_cons, List.forIn_nil]
  refine wpAny_bind ?_
  simp only [show (NameKind.local == NameKind.cell) = false from rfl, show (NameKind.cell == NameKind.cell) = true from rfl, show (NameKind.free == NameKind.cell) = false from rfl, Bool.false_eq_true, if_false, if_true]
  refine wpAny_bind (wpAny_pure ?_)
  refine wpAny_bind (wpAny_bind (wpAny_alloc (wpAny_pure ?_)))
  refine wpAny_bind (wpAny_pure ?_)
  refine wpAny_bind (wpAny_pure ?_)
  refine wpAny_pure ?_
  refine wpAny_bind (wpAny_pure ?_)
  refine wpAny_pure ?_
  have e : (s.heap.push { cls := .type "dict", data := .dict #[] }).objs.size = s.heap.objs.size + 1 := Heap.size_push ..
  dsimp only
  rw [e]
  exact h
noncomputable def CompX (prog : Program) (w : World) (A : Around) (elt target : Expr) (scope : Scope) (x : Str) (cl : List (Str × Addr)) (env : Env) (Q : Value → Shared → Prop) (it : Value) (s₂ : Shared) (ds : List Addr) : Prop :=
  (∀ d ∈ ds, (s₂.heap.get? d).isSome) ∧ ∀ gc D C h₁, Fr gc C h₁ (fun _ => none) → h₁.get? D = some (listOf #[] 0) → D ≠ C → gc.get? D = none → h₁.get? (C + 1) = some cellN → C + 1 ≠ C → C + 1 ≠ D → gc.get? (C + 1) = none → (∀ d ∈ ds, gc.get? d = none ∧ d ≠ C ∧ d ≠ D ∧ d ≠ C + 1) →
    Keep ds s₂.heap gc → (∀ b o, s₂.heap.get? b = some o → h₁.get? b = some o ∧ b ≠ C ∧ b ≠ D ∧ b ≠ C + 1) →
    ∃ (I : Nat → Shared → Prop) (n₀ : Nat), I n₀ { s₂ with heap := h₁ } ∧ (∀ Q', Q' it { s₂ with heap := h₁ } → wpAny (model prog w) A (pyIter it) Q' NoE { s₂ with heap := h₁ }) ∧
      ∀ n s, I n s → wpAny (model prog w) A (pyNext it) (fun r s₁ => match r with
        | none => (∃ m, Fr gc C s₁.heap m) ∧ s₁.gens = s₂.gens ∧ s₁.os = s₂.os ∧ (∀ s', KeepS ds s₂ s' → (∀ b, b ≠ C → s'.heap.get? b = s₁.heap.get? b) → Q (.ref D) s')
        | some v => wpAny (model prog w) A (letOwnedTupleGo target it v) (fun _ s₅ => wpAny (model prog w) A (assign target (compEnvC scope ((x, C + 1) :: cl) C env) v) (fun _ s₂ => wpAny (model prog w) A (eval elt (compEnvC scope ((x, C + 1) :: cl) C env)) (fun x s₃ =>
            wpAny (model prog w) A (call (.builtin "list.append") [.ref D, x]) (fun _ s₄ => ∃ m, m < n ∧ I m s₄) NoE s₃) NoE s₂) NoE s₅) NoE s₁) NoE s
/-- y = [comprehension], its block with one cell -/
theorem compX_ {elt target iter : Expr} {scope : Scope} {n0 x n2 n3 : Str} {cl : List (Str × Addr)} {pos spos py : Pos} {y : Str} {L : Addr} {Q : Flow → Shared → Prop}
    (hsw : swapsWith (.ListComp elt [⟨target, iter, [], 0⟩] scope pos) (some (.Name y py)) spos.line env = pure true) (hy : env.kindOf y = some .local) (hp : (env.scope.kind == .class || (env.scope.kind == .module && env.locals != env.globals)) = false) (hL : env.locals = L)
    (hclos : closureFor scope env = pure cl) (hn : scope.names = [(n0, .local), (x, .cell), (n2, .free), (n3, .free)]) (hkind : scope.kind = .function) (hnames : ∀ x ∈ scope.names, x.2 = .local → scope.names.lookup x.1 = some .local)
    (h : wpAny (model prog w) A (eval iter env) (fun xv s₁ => wpAny (model prog w) A (pyIter xv) (fun it s₂ => ∃ ds m, L ∉ ds ∧ s₂.heap.Ns L m ∧ CompX prog w A elt target scope x cl env (fun v s' => ∀ h'' tk, h''.Ns L (fun z => if z = y then some v else m z) → Heap.SameBut L s'.heap h'' → Q .next { s' with heap := h'', toks := tk }) it s₂ ds) NoE s₁) NoE s)
    (hs : ∀ x, foldedSetIterable iter env x = pure x := by intro _; rfl) :
    wpAny (model prog w) A (exec (.Assign [.Name y py] (.ListComp elt [⟨target, iter, [], 0⟩] scope pos) spos) env) Q NoE s := by
  rw [exec_Assign_Name_used _ _ _ _ hsw]
  refine wpAny_bind (wpAny_standAt (wpAny_bind ?_))
  show wpAny _ A (do let _ ← comprehension (.ListComp elt [⟨target, iter, [], 0⟩] scope pos) scope env _ (newList []) false (eval iter env) (some (assign (.Name y py) env))) _ _ s
  refine wpAny_bind (wpAny_mono (wpAny_comprehension_free (g := ⟨target, iter, [], 0⟩) (gs := []) (cl := cl) (use := some (assign (.Name y py) env)) (Q := fun _ s' => Q .next s') rfl hs hclos hkind hnames ?_) (fun _ s' hq => wpAny_pure (wpAny_pure hq)) fun _ _ e => e)
  show wpAny _ _ (eval iter env) _ _ s
  refine wpAny_mono h (fun xv s₁ h₁ => wpAny_mono h₁ (fun it s₂ hB => ?_) fun _ _ e => e) fun _ _ e => e
  obtain ⟨ds, mL, hLds, hnL, hds, hB⟩ := hB
  refine wpAny_newObj_type (newEnv_one hn ?_)
  dsimp only
  generalize hH2 : s₂.heap.push { cls := .type "list", dict := none, data := .seq ([] : List Value).toArray } = H2
  have hC : H2.objs.size = s₂.heap.objs.size + 1 := by rw [← hH2, Heap.size_push]
  generalize hH3 : (H2.push { cls := .type "dict", data := .dict #[] }).push cellN = h₁
  have hDC : s₂.heap.objs.size ≠ H2.objs.size := by rw [hC]; exact Nat.ne_of_lt (Nat.lt_succ_self _)
  have below : ∀ b, b < s₂.heap.objs.size → b ≠ H2.objs.size ∧ b ≠ s₂.heap.objs.size ∧ b ≠ H2.objs.size + 1 := fun b hb => ⟨by rw [hC]; exact Nat.ne_of_lt (Nat.lt_succ_of_lt hb), Nat.ne_of_lt hb, by rw [hC]; exact Nat.ne_of_lt (Nat.lt_succ_of_lt (Nat.lt_succ_of_lt hb))⟩
  have hps : (H2.push { cls := .type "dict", data := .dict #[] }).objs.size = H2.objs.size + 1 := Heap.size_push ..
  have up1 : ∀ b o, H2.get? b = some o → h₁.get? b = some o := fun b o e => hH3 ▸ Heap.get?_push_of_some _ (Heap.get?_push_of_some _ e)
  have old : ∀ b o, s₂.heap.get? b = some o → h₁.get? b = some o := fun b o e => up1 b o (hH2 ▸ Heap.get?_push_of_some _ e)
  have hacc : h₁.get? s₂.heap.objs.size = some (listOf #[] 0) := up1 _ _ (hH2 ▸ Heap.get?_push_size _ rfl)
  have hns₁ : h₁.Ns H2.objs.size (fun _ => none) := by
    have := (Heap.Ns.new H2 (.type "dict")).keeps (fun b o e => Heap.get?_push_of_some cellN e)
    rw [hH3] at this
    exact this
  have hcell1 : h₁.get? (H2.objs.size + 1) = some cellN := by rw [← hH3, ← hps]; exact Heap.get?_push_size _ rfl
  have fresh : ∀ a, s₂.heap.objs.size ≤ a → s₂.heap.get? a = none := fun a ha => by
    cases e : s₂.heap.get? a with
    | none => rfl
    | some o' => exact absurd (Heap.lt_size e) (Nat.not_lt.mpr ha)
  have hfree : ∀ a, s₂.heap.objs.size ≤ a → (hideAll s₂.heap ds).get? a = none := fun a ha => by
    cases e : (hideAll s₂.heap ds).get? a with
    | none => rfl
    | some o => have := of_hideAll _ e; rw [fresh _ ha] at this; cases this
  obtain ⟨I, n₀, hI, hself, turn⟩ := hB (hideAll s₂.heap ds) s₂.heap.objs.size H2.objs.size h₁
    ⟨hns₁, fun b o e => old b o (of_hideAll _ e), by rw [hideAll_size, hC]; exact Nat.le_succ _⟩ hacc hDC
    (hfree _ (Nat.le_refl _)) hcell1 (Nat.ne_of_gt (Nat.lt_succ_self _)) (by rw [hC]; exact Nat.ne_of_gt (Nat.lt_succ_of_lt (Nat.lt_succ_self _))) (hfree _ (by rw [hC]; exact Nat.le_succ_of_le (Nat.le_succ _)))
    (fun d hd => ⟨hideAll_none _ hd, by obtain ⟨o, ho⟩ := Option.isSome_iff_exists.mp (hds d hd); exact below d (Heap.lt_size ho)⟩)
    ⟨fun b o hb e => hideAll_get _ e hb, by rw [hideAll_size]; exact Nat.le_refl _⟩ (fun b o e => ⟨old b o e, below b (Heap.lt_size e)⟩)
  have loop : codeAny (model prog w) A (.compLoop (.ListComp elt [⟨target, iter, [], 0⟩] scope pos) 0 it (.ref s₂.heap.objs.size) (compEnvC scope ((x, H2.objs.size + 1) :: cl) H2.objs.size env))
        (compPost (model prog w) A NoE (some (assign (.Name y py) env)) (fun _ s' => Q .next s') (.ref s₂.heap.objs.size) H2.objs.size) { s₂ with heap := h₁ } := by
    refine compLoop_ I (fun n s hI => wpAny_mono (turn n s hI) (fun r s₁ hr => ?_) fun _ _ e => e) n₀ hI
    cases r with
    | some v => exact hr
    | none =>
      obtain ⟨⟨m, F⟩, hg, hos, hq⟩ := hr
      obtain ⟨oL, es, ep, hoL, hdL, rL⟩ := id hnL
      have hLC : L ≠ H2.objs.size := (below L (Heap.lt_size hoL)).1
      have hL1 : s₁.heap.get? L = some oL := F.keep _ _ (hideAll_get _ hoL hLds)
      have hn1 : s₁.heap.Ns L mL := ⟨oL, es, ep, hL1, hdL, rL⟩
      show wpAny _ A (assign (.Name y py) env (.ref s₂.heap.objs.size)) _ _ _
      refine wpAny_assign_Name (wpAny_storeName_local hy (hL.symm ▸ hn1) (fun h₂ hn₂ hs₂ => ?_) hp)
      rw [hL] at hn₂ hs₂
      refine ⟨m, F.ns.sameBut hs₂ (Ne.symm hLC), fun h₃ hs₃ => ?_⟩
      have hfree : oL.isFreed = false := by
        obtain ⟨c', d', dt', sl'⟩ := oL
        obtain rfl : dt' = _ := hdL
        rfl
      obtain ⟨o3, _, _, ho3, _⟩ := hn₂.sameBut hs₃ hLC
      have hself : (h₃.update L (fun _ => oL)).get? L = some oL := Heap.get?_update_self _ ho3 hfree
      have hoth : ∀ b, b ≠ L → (h₃.update L (fun _ => oL)).get? b = h₃.get? b := fun b hb => Heap.get?_update_other _ _ (Ne.symm hb)
      have hall : ∀ b, b ≠ H2.objs.size → (h₃.update L (fun _ => oL)).get? b = s₁.heap.get? b := fun b hb => by
        by_cases e : b = L
        · rw [e, hself, hL1]
        · rw [hoth b e, hs₃.2 b hb, hs₂.2 b e]
      have hsz : (h₃.update L (fun _ => oL)).objs.size = s₁.heap.objs.size := by rw [Heap.size_update, hs₃.1, hs₂.1]
      refine hq { s₁ with heap := h₃.update L (fun _ => oL) } ⟨⟨fun b ob hb e => ?_, ?_⟩, hg, hos⟩ hall h₃ _ (hn₂.sameBut hs₃ hLC) ⟨?_, fun b hb => (hoth b hb).symm⟩
      · rw [hall b (below b (Heap.lt_size e)).1]
        exact F.keep b ob (hideAll_get _ e hb)
      · obtain ⟨oC, _, _, hoC, _⟩ := F.ns
        have h3 : H2.objs.size < s₁.heap.objs.size := Heap.lt_size hoC
        show s₂.heap.objs.size ≤ (h₃.update L (fun _ => oL)).objs.size
        rw [hsz]; omega
      · rw [Heap.size_update]
  refine codeAny_compStart_list loop (wpAny_mono (hself _ loop) (fun _ _ x => x) fun _ _ e => e.elim)
end
end
section
section
variable {prog : Program} {w : World} {A : Around} {E : Value → Shared → Prop} {s : Shared}
structure XSt (gc : Heap) (C D It : Addr) (Src : Nat → Heap → Prop) (Ok : Nat → Value → Heap → Prop) (s₂ : Shared) (k : Nat) (outs : List Value) (s : Shared) : Prop where
  fr : ∃ m, Fr gc C s.heap m
  lst : s.heap.get? D = some (listOf outs.toArray k)
  cell : ∃ oc v0, s.heap.get? (C + 1) = some oc ∧ oc.data = .cell v0
  src : Src k s.heap
  len : outs.length = k
  ok : ∀ j x, outs[j]? = some x → Ok j x (hideAll s.heap [It, C, D, C + 1])
  gens : s.gens = s₂.gens
  os : s.os = s₂.os
theorem listCompX {elt : Expr} {px : Pos} {scope : Scope} {x : Str} {cl : List (Str × Addr)} {env : Env} {It : Addr} {oI : Obj} {N : Nat} {Src : Nat → Heap → Prop} {V : Nat → Value → Prop} {Ok : Nat → Value → Heap → Prop} {Q : Value → Shared → Prop} {s₂ : Shared}
    (hI : s₂.heap.get? It = some oI) (hN : N < 900) (h0 : Src 0 s₂.heap) (T : ∀ gc, Keep [It] s₂.heap gc → Turns prog w A gc It N Src V)
    (hmono : ∀ k x h h', Ok k x h → (∀ b o, h.get? b = some o → h'.get? b = some o) → Ok k x h')
    (hself : ∀ s' Q', Src 0 s'.heap → Q' (.ref It) s' → wpAny (model prog w) A (pyIter (.ref It)) Q' NoE s')
    (hkf : ∀ C, (compEnvC scope ((x, C + 1) :: cl) C env).scope.kind = .function) (hkx : ∀ C, (compEnvC scope ((x, C + 1) :: cl) C env).kindOf x = some .cell) (hcl : ∀ C, (compEnvC scope ((x, C + 1) :: cl) C env).cells.lookup x = some (C + 1))
    (helt : ∀ gc C m (s' : Shared) k v oc (Q' : Value → Shared → Prop), Keep [It] s₂.heap gc → Fr gc C s'.heap m → s'.heap.get? (C + 1) = some oc → oc.data = .cell (some v) → V k v → k < N →
      (∀ y (s'' : Shared), KeepS [] s' s'' → (∀ bad : List Addr, (∀ b ∈ bad, (s'.heap.get? b).isSome) → Ok k y (hideAll s''.heap bad)) → Q' y s'') →
      wpAny (model prog w) A (eval elt (compEnvC scope ((x, C + 1) :: cl) C env)) Q' NoE s')
    (hQ : ∀ D' (outs : List Value) s', KeepS [It] s₂ s' → s'.heap.get? D' = some (listOf outs.toArray N) → s₂.heap.get? D' = none → outs.length = N → (∀ j x, outs[j]? = some x → Ok j x (hideAll s'.heap [D'])) → Q (.ref D') s') :
    CompX prog w A elt (.Name x px) scope x cl env Q (.ref It) s₂ [It] := by
  refine ⟨by simp [hI], ?_⟩
  intro gc Da C h₁ F hD hDC gD hcell hcC hcD gcell hds kg old
  have hIt := hds It (by simp)
  have TT := T gc kg
  refine ⟨fun n s' => ∃ k outs, n = N + 1 - k ∧ k ≤ N ∧ XSt gc C Da It Src Ok s₂ k outs s', N + 1, ?_, ?_, ?_⟩
  · exact ⟨0, [], rfl, by omega, ⟨_, F⟩, hD, ⟨_, _, hcell, rfl⟩, TT.keep 0 _ _ h0 (fun o e => (old _ _ e).1), rfl, fun j x e => by simp at e, rfl, rfl⟩
  · intro Q' hQ'
    exact hself _ _ (TT.keep 0 _ _ h0 (fun o e => (old _ _ e).1)) hQ'
  · rintro n s' ⟨k, outs, rfl, hk, Z⟩
    obtain ⟨m, Fm⟩ := Z.fr
    obtain ⟨oc, v0, hoc, hocd⟩ := Z.cell
    by_cases hend : k < N
    · refine TT.item k s' _ hend Z.src Fm.keep fun v h' tk hv hs' sb => ?_
      have F' : Fr gc C h' m := frK Fm (ds := [It]) (fun b o hb e => (sb.2 b (by simpa using hb)).trans e) (by simpa using Ne.symm hIt.2.1) (by simpa using hIt.1)
      have hoc' : h'.get? (C + 1) = some oc := (sb.2 _ (Ne.symm hIt.2.2.2)).trans hoc
      dsimp only
      show wpAny _ _ (pure ()) _ _ _
      refine wpAny_pure (wpAny_assign_Name (wpAny_storeName_cell (hkf C) (hkx C) (hcl C) ⟨oc, hoc', hocd⟩ fun h2 hv2 hs2 => ?_))
      obtain ⟨oc2, hoc2, hocd2⟩ := hv2
      have F2 : Fr gc C h2 m := frK F' (ds := [C + 1]) (fun b o hb e => (hs2.2 b (by simpa using hb)).trans e) (by simpa using Ne.symm hcC) (by simpa using gcell)
      refine helt gc C m { s' with heap := h2, toks := tk } k v oc2 _ kg F2 hoc2 hocd2 hv hend fun y s3 k3 hok => ?_
      have up3 : ∀ b o, h2.get? b = some o → s3.heap.get? b = some o := fun b o e => k3.keep.get b o (by simp) e
      have F3 : Fr gc C s3.heap m := frK F2 (ds := []) (fun b o _ e => up3 b o e) (by simp) (by simp)
      have hD1 : h2.get? Da = some (listOf outs.toArray k) := (hs2.2 _ (Ne.symm hcD)).trans ((sb.2 _ (Ne.symm hIt.2.2.1)).trans Z.lst)
      have hD3 := up3 _ _ hD1
      obtain ⟨oC, _, _, hoC, _⟩ := F2.ns
      have hI2 : ∀ o, h'.get? It = some o → h2.get? It = some o := fun o e => (hs2.2 _ hIt.2.2.2).trans e
      obtain ⟨oI', hoI'⟩ := Option.isSome_iff_exists.mp (TT.there _ _ hs')
      refine append_at (its := outs.toArray) (n := k) hD3 (fun h8 hs8 ho8 => ?_) (hsz := by rw [sizeLine_eq]; have := Z.len; simp; omega)
      have F8 : Fr gc C h8 m := F3.change hs8 hDC gD
      refine ⟨N + 1 - (k + 1), by omega, k + 1, outs ++ [y], rfl, by omega, ⟨_, F8⟩, by simpa using ho8, ⟨oc2, _, (hs8.2 _ hcD).trans (up3 _ _ hoc2), hocd2⟩, TT.keep _ _ _ hs' (fun o e => (hs8.2 _ hIt.2.2.1).trans (up3 _ _ (hI2 o e))), by simp [Z.len], fun j z hj => ?_, k3.gens.trans Z.gens, k3.os.trans Z.os⟩
      have up : ∀ b o, (hideAll s3.heap [It, C, Da, C + 1]).get? b = some o → (hideAll h8 [It, C, Da, C + 1]).get? b = some o := fun b o e => by
        have hb : b ∉ [It, C, Da, C + 1] := fun hb => by rw [hideAll_none _ hb] at e; cases e
        have hb' := hb
        simp at hb'
        exact hideAll_get _ ((hs8.2 b hb'.2.2.1).trans (of_hideAll _ e)) hb
      by_cases hjk : j < outs.length
      · rw [List.getElem?_append_left hjk] at hj
        refine hmono j z _ _ (Z.ok j z hj) fun b o e => up b o ?_
        have hb : b ∉ [It, C, Da, C + 1] := fun hb => by rw [hideAll_none _ hb] at e; cases e
        have hb' := hb
        simp at hb'
        exact hideAll_get _ (up3 b o ((hs2.2 b hb'.2.2.2).trans ((sb.2 b hb'.1).trans (of_hideAll _ e)))) hb
      · have hjl : j < (outs ++ [y]).length := (List.getElem?_eq_some_iff.mp hj).1
        have ej : j = outs.length := by simp at hjl; omega
        subst ej
        simp at hj
        subst hj
        rw [Z.len]
        refine hmono k y _ _ (hok [It, C, Da, C + 1] fun b hb => ?_) up
        simp at hb
        rcases hb with rfl | rfl | rfl | rfl
        · show (h2.get? _).isSome = true
          rw [hI2 _ hoI']; rfl
        · show (h2.get? _).isSome = true
          rw [hoC]; rfl
        · show (h2.get? _).isSome = true
          rw [hD1]; rfl
        · show (h2.get? _).isSome = true
          rw [hoc2]; rfl
    · have ek : k = N := by omega
      subst ek
      refine TT.stop s' _ Z.src Fm.keep fun h' he => ?_
      refine ⟨⟨m, frExt Fm he (hIt.2.1) hIt.1⟩, Z.gens, Z.os, fun s3 k3 sb => ?_⟩
      refine hQ Da outs s3 k3 ((sb _ hDC).trans (he _ _ (Ne.symm hIt.2.2.1) Z.lst)) ?_ Z.len fun j x hj => ?_
      · cases q : s₂.heap.get? Da with
        | none => rfl
        | some o => exact absurd rfl (old _ _ q).2.2.1
      · refine hmono j x _ _ (Z.ok j x hj) fun b o e => ?_
        have hb : b ∉ [It, C, Da, C + 1] := fun hb => by rw [hideAll_none _ hb] at e; cases e
        simp at hb
        refine hideAll_get _ ((sb b hb.2.1).trans (he b o hb.1 (of_hideAll _ e))) (by simpa using hb.2.2.1)
variable {K : Frag} {p : Program} {loose : List Str} {mg mb : Str → Option Value}
theorem nameZ_K {M : Model} {gc : Heap} {C : Addr} {m : Str → Option Value} {scope : Scope} {cl : List (Str × Addr)} {env : Env} {x : Str} {pos : Pos} {v : Value} {Q : Value → Shared → Prop} (F : Fr gc C s.heap m) (X : K.In gc) (T : TopRead p loose mg mb gc) (e : nsIn K mainGlobals x = some (some v)) (h : Q v s)
    (hg : env.globals = mainGlobals := by rfl) (hk : (compEnvC scope cl C env).scope.kind = .function := by rfl) (hx : (compEnvC scope cl C env).kindOf x = some .globalImplicit := by rfl) (hd : (x == ("__debug__" : Str)) = false := by decide) :
    wpAny M A (eval (.Name x pos) (compEnvC scope cl C env)) Q E s :=
  Name_function_global hk hx (loadGlobal_global (env := compEnvC scope cl C env) (show s.heap.Ns env.globals mg from hg ▸ T.g.keeps F.keep) (mg_of X T.g e) h) hd
theorem nameZ_B {M : Model} {gc : Heap} {C : Addr} {m : Str → Option Value} {scope : Scope} {cl : List (Str × Addr)} {env : Env} {x : Str} {pos : Pos} {v : Value} {Q : Value → Shared → Prop} (F : Fr gc C s.heap m) (X : K.In gc) (T : TopRead p loose mg mb gc) (e : nsIn K mainGlobals x = some none) (hv : bootBuiltins x = some v) (hn : x ≠ "__name__") (h : Q v s)
    (hg : env.globals = mainGlobals := by rfl) (hb : env.builtins = builtinsNs := by rfl) (hk : (compEnvC scope cl C env).scope.kind = .function := by rfl) (hx : (compEnvC scope cl C env).kindOf x = some .globalImplicit := by rfl) (hd : (x == ("__debug__" : Str)) = false := by decide) :
    wpAny M A (eval (.Name x pos) (compEnvC scope cl C env)) Q E s :=
  Name_function_global hk hx (loadGlobal_builtin (env := compEnvC scope cl C env) (show s.heap.Ns env.globals mg from hg ▸ T.g.keeps F.keep) (mg_none_of X T.g e) (show s.heap.Ns env.builtins mb from hb ▸ T.b.keeps F.keep) ((T.builtins x hn).trans hv) h) hd
end
end
section
noncomputable def numOf (o : Obj) : Int := match o.data with
  | .seq a _ => (match (a[0]? : Option Value) with | some (Value.int n _) => n | _ => 0)
  | _ => 0
noncomputable def numAt (t : Heap) (v : Value) : Int := match v with
  | .ref a => (match t.get? a with | some o => numOf o | none => 0)
  | _ => 0
theorem ThObj.num {q : Addr × Obj} (h : ThObj q) : ∃ t1 k, q.2 = listOf #[.int (numOf q.2) t1, k] 0 ∧ (numOf q.2).natAbs < 1000000 := by
  obtain ⟨n, t1, k, e, hn⟩ := h
  have : numOf q.2 = n := by rw [e]; rfl
  rw [this]
  exact ⟨t1, k, e, hn⟩
theorem numAt_of {t : Heap} {q : Addr × Obj} (h : t.get? q.1 = some q.2) : numAt t (.ref q.1) = numOf q.2 := by
  unfold numAt; simp only [h]
noncomputable abbrev refs (ths : List (Addr × Obj)) : List Value := ths.map fun q => Value.ref q.1
noncomputable abbrev nums (ths : List (Addr × Obj)) : List Int := ths.map fun q => numOf q.2
noncomputable def kfOf (b : Bool) (t : Heap) (v : Value) : List UInt8 := keyW b (numAt t v)
theorem kf_map {b : Bool} {t : Heap} {ths : List (Addr × Obj)} (h : ∀ q ∈ ths, t.get? q.1 = some q.2) : (refs ths).map (kfOf b t) = (nums ths).map (keyW b) := by
  rw [List.map_map, List.map_map]
  refine List.map_congr_left fun q hq => ?_
  show keyW b (numAt t (.ref q.1)) = _
  rw [numAt_of (h q hq)]; rfl
section
variable {prog : Program} {w : World} {A : Around} {E : Value → Shared → Prop} {s : Shared} {p : Program} {loose : List Str} {mg mb : Str → Option Value}
theorem frSlots {g h h' : Heap} {L : Addr} {m : Str → Option Value} {ow : Obj} {sl : Array (Option Value)} {ds : List Addr} (F : Fr g L h m) (how : h.get? L = some ow) (hL : h'.get? L = some { ow with slots := sl }) (k : ∀ b o, b ∉ ds → h.get? b = some o → h'.get? b = some o) (hg : ∀ d ∈ ds, g.get? d = none) : Fr g L h' m := by
  obtain ⟨o2, es, ep, ho2, hd2, r⟩ := F.ns
  rw [how] at ho2
  have := Option.some.inj ho2
  subst this
  exact ⟨⟨_, es, ep, hL, hd2, r⟩, fun b o e => k b o (fun q => by rw [hg b q] at e; cases e) (F.keep b o e), F.above⟩

theorem nsK_law {g : Heap} {L T I arg f c : Addr} {m : Str → Option Value} {news ths : List (Addr × Obj)} {e : Nat} {of oc : Obj} {hh0 : Heap} {b : Bool} {n : Int} {tn : Tok} {P : List Nat} {lenv : Env} {Q : Value → Shared → Prop}
    (F : Fr g L s.heap m) (N : News g L s.heap news) (G0 : Gd (hd.heap_1 w.params) p loose mg mb g) (hths : ∀ q ∈ ths, q ∈ news ∧ ThObj q) (hT : (T, listOf (refs ths).toArray e) ∈ news) (hf : (f, of) ∈ news) (hc : (c, oc) ∈ news)
    (KM : KeyMaker prog w p loose mg mb f c hh0 b) (hf0 : hh0.get? f = some of) (hc0 : hh0.get? c = some oc) (hfn : FnAt f hh0)
    (harg : arg = T ∨ (arg = I ∧ s.heap.get? I = some (itO T) ∧ g.get? I = none ∧ ∀ q ∈ news, q.1 ≠ I))
    (hfr : A.frames = some [lenv]) (hfw : lenv.frame = some L) (hkw : lenv.scope.kind = .function)
    (hn : -1 ≤ n ∧ n ≤ ths.length + 1) (hvs : 3 ≤ ths.length ∧ ths.length < 64) (hroom : A.depth + 20 < recursionLimit) (hu : A.units + 400 < cLine) (hh : A.handled = none)
    (hP : Stable (flt true ((nums ths).map (keyW b))) ths.length P)
    (hq : ∀ s' D c', Fr g L s'.heap m → News g L s'.heap news → s'.heap.get? D = some (listOf ((P.take n.toNat).map fun i => (refs ths).getD i Value.none).toArray c') → s'.gens = s.gens → s'.os = s.os → Q (.ref D) s') :
    wpAny (model prog w) A (call (.ref 76) [.int n tn, .ref arg] [(Str.ofString "key", .ref f)]) Q E s := by
  obtain ⟨ow, es, ep, how, hdw, _⟩ := id F.ns
  have hLg : g.get? L = none := Heap.get?_none_of_le F.above
  obtain ⟨ds, harg', hds, hdn⟩ : ∃ ds : List Addr, ((arg = T ∧ ds = [L]) ∨ (arg = I ∧ ds = [I, L] ∧ s.heap.get? I = some (itO T))) ∧ (∀ d ∈ ds, g.get? d = none) ∧ (∀ q ∈ news, q.1 ∉ ds) := by
    rcases harg with rfl | ⟨rfl, h1, h2, h3⟩
    · exact ⟨[L], .inl ⟨rfl, rfl⟩, by simpa using hLg, fun q hq => by simpa using (N q hq).2.1⟩
    · exact ⟨[arg, L], .inr ⟨rfl, rfl, h1⟩, by simp; exact ⟨h2, hLg⟩, fun q hq => by simp; exact ⟨h3 q hq, (N q hq).2.1⟩⟩
  have tg : ∀ q ∈ news, (hideAll s.heap ds).get? q.1 = some q.2 := fun q hq => hideAll_get _ (N q hq).1 (hdn q hq)
  have ht : ∀ q ∈ ths, (hideAll s.heap ds).get? q.1 = some q.2 := fun q hq => tg q (hths q hq).1
  have Gt : Gd (hd.heap_1 w.params) p loose mg mb (hideAll s.heap ds) := G0.keeps fun b o e => hideAll_get _ (F.keep _ _ e) (fun q => by rw [hds b q] at e; cases e)
  have hvl : (refs ths).length = ths.length := by simp
  refine nsK_call (h₀ := hideAll s.heap ds) (vs := refs ths) (kf := kfOf b (hideAll s.heap ds)) (P := P) (l := T) (I := I) (Lw := L) (ow := ow) Gt
    (KM _ Gt (fun o e => by rw [hf0] at e; rw [← Option.some.inj e]; exact tg _ hf) (fun o e => by rw [hc0] at e; rw [← Option.some.inj e]; exact tg _ hc) _ _ fun v hv => ?_) ?_
    ⟨fun b o _ q => of_hideAll _ q, by rw [hideAll_size]; exact Nat.le_refl _⟩ (fun d hd => hideAll_none _ hd) harg' (PySem.IsL.isList (n := e) (N _ hT).1) (hdn _ hT) hfr hfw hkw how hdw (by rw [hvl]; exact hn) (by rw [hvl]; exact hvs) hroom hu hh ?_ (fun v hv => ?_) ?_
  · obtain ⟨q, hq', rfl⟩ := List.mem_map.mp hv
    obtain ⟨t1, k, e1, h1⟩ := (hths q hq').2.num
    refine ⟨numOf q.2, ⟨q.1, t1, k, 0, rfl, ?_⟩, h1, ?_⟩
    · rw [← e1]; exact ht q hq'
    · show keyW b (numAt _ (.ref q.1)) = _
      rw [numAt_of (ht q hq')]
  · obtain ⟨x1, x2, x3, x4, x5⟩ := hfn
    rw [hf0] at x5
    have x6 := Option.some.inj x5
    subst x6
    exact ⟨x1, x2, x3, x4, tg _ hf⟩
  · rw [kf_map ht, hvl]; exact hP
  · obtain ⟨q, hq', rfl⟩ := List.mem_map.mp hv
    obtain ⟨t1, k, e1, h1⟩ := (hths q hq').2.num
    exact .inl ⟨q.1, q.2, rfl, ht q hq', by rw [e1]⟩
  · intro s' D c' sl k' hL' hD'
    exact hq s' D c' (frSlots F how hL' (fun b o hb e => k'.keep.get b o hb e) hds) (newsKeep N k'.keep hdn) hD' k'.gens k'.os

theorem nlK_law {g : Heap} {L T I arg f c : Addr} {m : Str → Option Value} {news ths : List (Addr × Obj)} {e : Nat} {of oc : Obj} {hh0 : Heap} {b : Bool} {n : Int} {tn : Tok} {P : List Nat} {lenv : Env} {Q : Value → Shared → Prop}
    (F : Fr g L s.heap m) (N : News g L s.heap news) (G0 : Gd (hd.heap_1 w.params) p loose mg mb g) (hths : ∀ q ∈ ths, q ∈ news ∧ ThObj q) (hT : (T, listOf (refs ths).toArray e) ∈ news) (hf : (f, of) ∈ news) (hc : (c, oc) ∈ news)
    (KM : KeyMaker prog w p loose mg mb f c hh0 b) (hf0 : hh0.get? f = some of) (hc0 : hh0.get? c = some oc) (hfn : FnAt f hh0)
    (harg : arg = T ∨ (arg = I ∧ s.heap.get? I = some (itO T) ∧ g.get? I = none ∧ ∀ q ∈ news, q.1 ≠ I))
    (hfr : A.frames = some [lenv]) (hfw : lenv.frame = some L) (hkw : lenv.scope.kind = .function)
    (hn : -1 ≤ n ∧ n ≤ ths.length + 1) (hvs : 3 ≤ ths.length ∧ ths.length < 64) (hroom : A.depth + 20 < recursionLimit) (hu : A.units + 400 < cLine) (hh : A.handled = none)
    (hP : Stable (flt false ((nums ths).map (keyW b))) ths.length P)
    (hq : ∀ s' D c', Fr g L s'.heap m → News g L s'.heap news → s'.heap.get? D = some (listOf ((P.take n.toNat).map fun i => (refs ths).getD i Value.none).toArray c') → s'.gens = s.gens → s'.os = s.os → Q (.ref D) s') :
    wpAny (model prog w) A (call (.ref 82) [.int n tn, .ref arg] [(Str.ofString "key", .ref f)]) Q E s := by
  obtain ⟨ow, es, ep, how, hdw, _⟩ := id F.ns
  have hLg : g.get? L = none := Heap.get?_none_of_le F.above
  obtain ⟨ds, harg', hds, hdn⟩ : ∃ ds : List Addr, ((arg = T ∧ ds = [L]) ∨ (arg = I ∧ ds = [I, L] ∧ s.heap.get? I = some (itO T))) ∧ (∀ d ∈ ds, g.get? d = none) ∧ (∀ q ∈ news, q.1 ∉ ds) := by
    rcases harg with rfl | ⟨rfl, h1, h2, h3⟩
    · exact ⟨[L], .inl ⟨rfl, rfl⟩, by simpa using hLg, fun q hq => by simpa using (N q hq).2.1⟩
    · exact ⟨[arg, L], .inr ⟨rfl, rfl, h1⟩, by simp; exact ⟨h2, hLg⟩, fun q hq => by simp; exact ⟨h3 q hq, (N q hq).2.1⟩⟩
  have tg : ∀ q ∈ news, (hideAll s.heap ds).get? q.1 = some q.2 := fun q hq => hideAll_get _ (N q hq).1 (hdn q hq)
  have ht : ∀ q ∈ ths, (hideAll s.heap ds).get? q.1 = some q.2 := fun q hq => tg q (hths q hq).1
  have Gt : Gd (hd.heap_1 w.params) p loose mg mb (hideAll s.heap ds) := G0.keeps fun b o e => hideAll_get _ (F.keep _ _ e) (fun q => by rw [hds b q] at e; cases e)
  have hvl : (refs ths).length = ths.length := by simp
  refine nlK_call (h₀ := hideAll s.heap ds) (vs := refs ths) (kf := kfOf b (hideAll s.heap ds)) (P := P) (l := T) (I := I) (Lw := L) (ow := ow) Gt
    (KM _ Gt (fun o e => by rw [hf0] at e; rw [← Option.some.inj e]; exact tg _ hf) (fun o e => by rw [hc0] at e; rw [← Option.some.inj e]; exact tg _ hc) _ _ fun v hv => ?_) ?_
    ⟨fun b o _ q => of_hideAll _ q, by rw [hideAll_size]; exact Nat.le_refl _⟩ (fun d hd => hideAll_none _ hd) harg' (PySem.IsL.isList (n := e) (N _ hT).1) (hdn _ hT) hfr hfw hkw how hdw (by rw [hvl]; exact hn) (by rw [hvl]; exact hvs) hroom hu hh ?_ (fun v hv => ?_) ?_
  · obtain ⟨q, hq', rfl⟩ := List.mem_map.mp hv
    obtain ⟨t1, k, e1, h1⟩ := (hths q hq').2.num
    refine ⟨numOf q.2, ⟨q.1, t1, k, 0, rfl, ?_⟩, h1, ?_⟩
    · rw [← e1]; exact ht q hq'
    · show keyW b (numAt _ (.ref q.1)) = _
      rw [numAt_of (ht q hq')]
  · obtain ⟨x1, x2, x3, x4, x5⟩ := hfn
    rw [hf0] at x5
    have x6 := Option.some.inj x5
    subst x6
    exact ⟨x1, x2, x3, x4, tg _ hf⟩
  · rw [kf_map ht, hvl]; exact hP
  · obtain ⟨q, hq', rfl⟩ := List.mem_map.mp hv
    obtain ⟨t1, k, e1, h1⟩ := (hths q hq').2.num
    exact .inl ⟨q.1, q.2, rfl, ht q hq', by rw [e1]⟩
  · intro s' D c' sl k' hL' hD'
    exact hq s' D c' (frSlots F how hL' (fun b o hb e => k'.keep.get b o hb e) hds) (newsKeep N k'.keep hdn) hD' k'.gens k'.os

noncomputable def bytesOf (v : Value) : List UInt8 := match v with | .bytes b _ => b.toList | _ => []
theorem ba_map : ∀ {ws : List Value} {bs : List (List UInt8)}, BA ws bs → ws.map bytesOf = bs
  | [], [], _ => rfl
  | [], _ :: _, h => h.elim
  | _ :: _, [], h => h.elim
  | _ :: ws, _ :: bs, h => by
    obtain ⟨⟨t, rfl⟩, h2⟩ := h
    rw [List.map_cons, ba_map h2]
    simp [bytesOf]

theorem nsW_law {g : Heap} {L T I arg : Addr} {m : Str → Option Value} {news : List (Addr × Obj)} {ws : List Value} {bs : List (List UInt8)} {e : Nat} {n : Int} {tn : Tok} {P : List Nat} {lenv : Env} {Q : Value → Shared → Prop}
    (F : Fr g L s.heap m) (N : News g L s.heap news) (G0 : Gd (hd.heap_1 w.params) p loose mg mb g) (hT : (T, listOf ws.toArray e) ∈ news) (hws : BA ws bs)
    (harg : arg = I ∧ s.heap.get? I = some (itO T) ∧ g.get? I = none ∧ ∀ q ∈ news, q.1 ≠ I)
    (hfr : A.frames = some [lenv]) (hfw : lenv.frame = some L) (hkw : lenv.scope.kind = .function)
    (hn : -1 ≤ n ∧ n ≤ ws.length + 1) (hvs : 3 ≤ ws.length ∧ ws.length < 64) (hroom : A.depth + 20 < recursionLimit) (hu : A.units + 400 < cLine) (hh : A.handled = none)
    (hP : Stable (flt true bs) ws.length P)
    (hq : ∀ s' D c', Fr g L s'.heap m → News g L s'.heap news → s'.heap.get? D = some (listOf ((P.take n.toNat).map fun i => ws.getD i Value.none).toArray c') → s'.gens = s.gens → s'.os = s.os → Q (.ref D) s') :
    wpAny (model prog w) A (call (.ref 76) [.int n tn, .ref arg]) Q E s := by
  obtain ⟨ow, es, ep, how, hdw, _⟩ := id F.ns
  have hLg : g.get? L = none := Heap.get?_none_of_le F.above
  obtain ⟨ds, harg', hds, hdn⟩ : ∃ ds : List Addr, (arg = I ∧ ds = [I, L] ∧ s.heap.get? I = some (itO T)) ∧ (∀ d ∈ ds, g.get? d = none) ∧ (∀ q ∈ news, q.1 ∉ ds) := by
    obtain ⟨rfl, h1, h2, h3⟩ := harg
    exact ⟨[arg, L], ⟨rfl, rfl, h1⟩, by simp; exact ⟨h2, hLg⟩, fun q hq => by simp; exact ⟨h3 q hq, (N q hq).2.1⟩⟩
  have Gt : Gd (hd.heap_1 w.params) p loose mg mb (hideAll s.heap ds) := G0.keeps fun b o e => hideAll_get _ (F.keep _ _ e) (fun q => by rw [hds b q] at e; cases e)
  have hkm : ws.map bytesOf = bs := ba_map hws
  refine nsW_call (h₀ := hideAll s.heap ds) (vs := ws) (kf := bytesOf) (P := P) (l := T) (I := I) (Lw := L) (ow := ow) Gt (fun v hv => ?_)
    ⟨fun b o _ q => of_hideAll _ q, by rw [hideAll_size]; exact Nat.le_refl _⟩ (fun d hd => hideAll_none _ hd) harg' (PySem.IsL.isList (n := e) (N _ hT).1) (hdn _ hT) hfr hfw hkw how hdw hn hvs hroom hu hh ?_ (fun v hv => ?_) ?_
  · obtain ⟨x, t, rfl⟩ := hws.all v hv
    exact ⟨t, by simp [bytesOf]⟩
  · rw [hkm]; exact hP
  · obtain ⟨x, t, rfl⟩ := hws.all v hv
    exact .inr ⟨x, t, rfl⟩
  · intro s' D c' sl k' hL' hD'
    exact hq s' D c' (frSlots F how hL' (fun b o hb e => k'.keep.get b o hb e) hds) (newsKeep N k'.keep hdn) hD' k'.gens k'.os

theorem nlW_law {g : Heap} {L T arg : Addr} {m : Str → Option Value} {news : List (Addr × Obj)} {ws : List Value} {bs : List (List UInt8)} {e : Nat} {n : Int} {tn : Tok} {P : List Nat} {lenv : Env} {Q : Value → Shared → Prop}
    (F : Fr g L s.heap m) (N : News g L s.heap news) (G0 : Gd (hd.heap_1 w.params) p loose mg mb g) (hT : (T, listOf ws.toArray e) ∈ news) (hws : BA ws bs)
    (harg : arg = T)
    (hfr : A.frames = some [lenv]) (hfw : lenv.frame = some L) (hkw : lenv.scope.kind = .function)
    (hn : -1 ≤ n ∧ n ≤ ws.length + 1) (hvs : 3 ≤ ws.length ∧ ws.length < 64) (hroom : A.depth + 20 < recursionLimit) (hu : A.units + 400 < cLine) (hh : A.handled = none)
    (hP : Stable (flt false bs) ws.length P)
    (hq : ∀ s' D c', Fr g L s'.heap m → News g L s'.heap news → s'.heap.get? D = some (listOf ((P.take n.toNat).map fun i => ws.getD i Value.none).toArray c') → s'.gens = s.gens → s'.os = s.os → Q (.ref D) s') :
    wpAny (model prog w) A (call (.ref 82) [.int n tn, .ref arg]) Q E s := by
  obtain ⟨ow, es, ep, how, hdw, _⟩ := id F.ns
  have hLg : g.get? L = none := Heap.get?_none_of_le F.above
  obtain ⟨ds, harg', hds, hdn⟩ : ∃ ds : List Addr, (arg = T ∧ ds = [L]) ∧ (∀ d ∈ ds, g.get? d = none) ∧ (∀ q ∈ news, q.1 ∉ ds) := by
    exact ⟨[L], ⟨harg, rfl⟩, by simpa using hLg, fun q hq => by simpa using (N q hq).2.1⟩
  have Gt : Gd (hd.heap_1 w.params) p loose mg mb (hideAll s.heap ds) := G0.keeps fun b o e => hideAll_get _ (F.keep _ _ e) (fun q => by rw [hds b q] at e; cases e)
  have hkm : ws.map bytesOf = bs := ba_map hws
  refine nlW_call (h₀ := hideAll s.heap ds) (vs := ws) (kf := bytesOf) (P := P) (l := T) (I := 0) (Lw := L) (ow := ow) Gt (fun v hv => ?_)
    ⟨fun b o _ q => of_hideAll _ q, by rw [hideAll_size]; exact Nat.le_refl _⟩ (fun d hd => hideAll_none _ hd) harg' (PySem.IsL.isList (n := e) (N _ hT).1) (hdn _ hT) hfr hfw hkw how hdw hn hvs hroom hu hh ?_ (fun v hv => ?_) ?_
  · obtain ⟨x, t, rfl⟩ := hws.all v hv
    exact ⟨t, by simp [bytesOf]⟩
  · rw [hkm]; exact hP
  · obtain ⟨x, t, rfl⟩ := hws.all v hv
    exact .inr ⟨x, t, rfl⟩
  · intro s' D c' sl k' hL' hD'
    exact hq s' D c' (frSlots F how hL' (fun b o hb e => k'.keep.get b o hb e) hds) (newsKeep N k'.keep hdn) hD' k'.gens k'.os
end
end
section
section
variable {prog : Program} {w : World} {A : Around} {E : Value → Shared → Prop} {s : Shared} {p : Program} {loose : List Str} {mg mb : Str → Option Value}
theorem pick_len (a : Array Value) : (slicePick a (some 1) (some 7) none).size ≤ 6 := by
  unfold slicePick sliceBounds sliceRange
  dsimp only [Option.getD_none]
  refine Nat.le_trans (by simp only [List.size_toArray]; exact List.length_filterMap_le _ _) ?_
  simp only [List.length_map, List.length_range]
  rw [if_pos (by decide)]
  split <;> lia
theorem fmod_b (x : Int) {M : Int} (hM : 0 < M) : 0 ≤ x.fmod M ∧ x.fmod M < M := by
  rw [Int.fmod_eq_emod_of_nonneg _ (by lia)]
  exact ⟨Int.emod_nonneg _ (by lia), Int.emod_lt_of_pos _ hM⟩
theorem wlow {x M : Int} (hM : 0 < M) : -1 ≤ x.fmod M - 1 := by have := fmod_b x hM; lia
theorem whigh {x M K : Int} (h : M = K + 3) (hK : 0 ≤ K) : x.fmod M - 1 ≤ K + 1 := by have := fmod_b x (M := M) (by lia); lia
theorem listTurnsN {gc : Heap} {It l : Addr} {vs : List Value} {N : Nat} (hN : vs.length = N) (hh : A.handled = none) (hl : gc.IsList l vs.toArray) :
    Turns prog w A gc It N (fun k h => h.IsListIter It l k) (fun k v => vs[k]? = some v) := hN ▸ listTurns hh hl
theorem ints_of : ∀ {outs : List Value} {N : Nat} {f : Nat → Int}, outs.length = N → (∀ j x, outs[j]? = some x → ∃ t, x = Value.int (f j) t) → IntsAre outs ((List.range N).map f) := by
  intro outs
  induction outs with
  | nil => intro N f hN _; subst hN; exact .nil
  | cons x xs ih =>
    intro N f hN h
    subst hN
    obtain ⟨t, rfl⟩ := h 0 x (by simp)
    rw [List.length_cons, List.range_succ_eq_map, List.map_cons, List.map_map]
    exact .cons _ _ (ih (f := f ∘ Nat.succ) rfl fun j y e => h (j + 1) y (by simpa using e))
theorem sidesAt_of {h : Heap} {Sd : Addr} {outs : List Value} {e N : Nat} {sd : Nat → Nat → Int} (hSd : h.get? Sd = some (listOf outs.toArray e)) (hol : outs.length = N)
    (hok : ∀ j x, outs[j]? = some x → ∃ a vs e, x = .ref a ∧ h.get? a = some (listOf (vs : List Value).toArray e) ∧ IntsAre vs ((List.range N).map fun i => sd j i)) : SidesAt h Sd N sd := by
  refine ⟨outs.map fun v => match v with | .ref a => a | _ => 0, by simpa using hol, ?_, fun j a e' => ?_⟩
  · have : (outs.map fun v => match v with | .ref a => a | _ => 0).map Value.ref = outs := by
      rw [List.map_map]
      refine List.ext_getElem (by simp) fun i h1 h2 => ?_
      obtain ⟨a, vs, e2, q, _⟩ := hok i outs[i] (List.getElem?_eq_getElem h2)
      simp [q]
    rw [this]
    exact PySem.IsL.isList (n := e) hSd
  · rw [List.getElem?_map] at e'
    cases z : outs[j]? with
    | none => rw [z] at e'; cases e'
    | some v =>
      rw [z] at e'
      obtain ⟨a', vs, e2, rfl, q2, q3⟩ := hok j v z
      have := Option.some.inj e'
      simp only at this
      subst this
      exact ⟨vs, PySem.IsL.isList (n := e2) q2, q3⟩
theorem SidesAt.mono {h h' : Heap} {Sd : Addr} {N : Nat} {sd : Nat → Nat → Int} (S : SidesAt h Sd N sd) (k : ∀ b o, h.get? b = some o → h'.get? b = some o) : SidesAt h' Sd N sd := by
  obtain ⟨rows, h1, ⟨ol, h2, h3⟩, h4⟩ := S
  refine ⟨rows, h1, ⟨ol, k _ _ h2, h3⟩, fun j a e => ?_⟩
  obtain ⟨vs, ⟨o5, h5, h6⟩, h7⟩ := h4 j a e
  exact ⟨vs, ⟨o5, k _ _ h5, h6⟩, h7⟩
theorem callWith_Gkw {K : Frag} {env : Env} {pos : Pos} {f : Value} {Q : Value → Shared → Prop} {g : Heap} {e : Expr} {rest : List Expr} {kws : List Keyword} (G : Gd K p loose mg mb g) (hk : keepIn K f = true) (hall : (backToKw pos (keywordEach kws env)).all (·.1.isSome) = true)
    (h : wpAny (model prog w) A (spliced (backTo pos (starEach (e :: rest) env))) (fun vs s₁ => wpAny (model prog w) A (evalAll ((backToKw pos (keywordEach kws env)).map (·.2)))
      (fun ks s₂ => KeptAnd g s₂ (wpAny (model prog w) A (call f ([] ++ vs) (((backToKw pos (keywordEach kws env)).filterMap (·.1)).zip ks)) Q E s₂)) E s₁) E s)
    (hplain : ((backTo pos (starEach (e :: rest) env)).any (·.1) || (backToKw pos (keywordEach kws env)).any (·.1.isNone)) = false := by rfl) (he : starEach (e :: rest) env = (false, eval e env) :: starEach rest env := by rfl) :
    wpAny (model prog w) A (callWith pos f [] (backTo pos (starEach (e :: rest) env)) (backToKw pos (keywordEach kws env))) Q E s :=
  callWith_KW G.X hk hall (wpAny_mono h (fun _ _ h1 => wpAny_mono h1 (fun _ _ x => ⟨G.X.keeps x.1, x.2⟩) fun _ _ x => x) fun _ _ x => x) hplain he
theorem newsRot {g h : Heap} {L : Addr} {a b x : Addr × Obj} {r : List (Addr × Obj)} (N : News g L h (x :: a :: b :: r)) : News g L h (a :: b :: x :: r) := newsSub N (by
  intro q hq
  simp only [List.mem_cons] at hq ⊢
  rcases hq with h | h | h | h
  · exact .inr (.inl h)
  · exact .inr (.inr (.inl h))
  · exact .inl h
  · exact .inr (.inr (.inr h)))
theorem freshN {g h : Heap} {L : Addr} {m : Str → Option Value} (F : Fr g L h m) {a : Addr} (ha : h.get? a = none) : a ≠ L ∧ g.get? a = none := by
  refine ⟨fun e => ?_, ?_⟩
  · obtain ⟨oL, _, _, hoL, _⟩ := F.ns
    rw [e, hoL] at ha; cases ha
  · cases q : g.get? a with
    | none => rfl
    | some o => have := F.keep _ _ q; rw [ha] at this; cases this
theorem hide_mono {h h' : Heap} {L : Addr} (k : ∀ b o, b ≠ L → h.get? b = some o → h'.get? b = some o) : ∀ b o, (hideAll h [L]).get? b = some o → (hideAll h' [L]).get? b = some o := fun b o e => by
  have hb : b ∉ [L] := fun hb => by rw [hideAll_none _ hb] at e; cases e
  exact hideAll_get _ (k b o (by simpa using hb) (of_hideAll _ e)) hb
theorem alike_refl {vs : List Value} : ∀ (j : Nat) v u, vs[j]? = some v → vs[j]? = some u → Alike v u := fun j v u h1 h2 => .inl (Option.some.inj (h1.symm.trans h2))
theorem nameX_L1 {M : Model} {h₀ : Heap} {L a : Addr} {m : Str → Option Value} {cn : Str} {cs : Scope} {ccd : Value} {cl : List (Str × Addr)} {x : Str} {pos : Pos} {v : Value} {Q : Value → Shared → Prop} (hx : (envX cn cs L a ccd cl).kindOf x = some .local) (F : Fr h₀ L s.heap m) (hv : m x = some v) (h : Q v s)
    (hk : cs.kind = .function := by rfl) (hd : (x == ("__debug__" : Str)) = false := by decide) : wpAny M A (eval (.Name x pos) (envX cn cs L a ccd cl)) Q E s := nameX_L F hv h hk hx hd
theorem nameX_C1 {M : Model} {h₀ : Heap} {L a c : Addr} {o : Obj} {news : List (Addr × Obj)} {cn : Str} {cs : Scope} {ccd : Value} {cl : List (Str × Addr)} {x : Str} {pos : Pos} {v : Value} {Q : Value → Shared → Prop} (hx : (envX cn cs L a ccd cl).kindOf x = some .cell) (N : News h₀ L s.heap news) (hc : cl.lookup x = some c) (hm : (c, o) ∈ news) (hdt : o.data = .cell (some v)) (h : Q v s)
    (hk : cs.kind = .function := by rfl) (hb : (x == ("__debug__" : Str)) = false := by decide) : wpAny M A (eval (.Name x pos) (envX cn cs L a ccd cl)) Q E s := nameX_C N hc hm hdt h hk hx hb
end
end
section
section
variable {prog : Program} {w : World} {A : Around} {E : Value → Shared → Prop} {s : Shared} {p : Program} {loose : List Str} {mg mb : Str → Option Value}
/-- [fn(thing[0]) for thing in things] -/
theorem wordComp {fn : Str} {fa : Addr} {p1 p2 p3 p4 p5 p6 : Pos} {scope : Scope} {cl : List (Str × Addr)} {env : Env} {J T : Addr} {vs : List Value} {e : Nat} {num : Nat → Int} {Q : Value → Shared → Prop} {s₂ : Shared}
    (hloc : ∀ C, (compEnvC scope cl C env).kindOf (Str.ofString "thing") = some .local) (hfn : ∀ C, (compEnvC scope cl C env).scope.kind = .function) (hkfn : ∀ C, (compEnvC scope cl C env).kindOf fn = some .globalImplicit)
    (hgl : nsIn (hd.heap_1 w.params) mainGlobals fn = some (some (.ref fa))) (hkp : keepIn (hd.heap_1 w.params) (.ref fa) = true) (hg : env.globals = mainGlobals) (hdb : (fn == ("__debug__" : Str)) = false) (hh : A.handled = none)
    (hcall : ∀ gc (s' : Shared) n t (Q' : Value → Shared → Prop), Gd (hd.heap_1 w.params) p loose mg mb gc → Keep [] gc s'.heap → n.natAbs < 1000000 → (∀ s'' tk, KeepS [] s' s'' → Q' (.bytes (word n.natAbs).toArray tk) s'') → wpAny (model prog w) A (call (.ref fa) [.int n t]) Q' NoE s')
    (hJ : s₂.heap.get? J = some (itO T)) (hT : s₂.heap.get? T = some (listOf vs.toArray e)) (hz : vs.length < 900) (hvs : ∀ k v, vs[k]? = some v → ThingAt s₂.heap v (num k) ∧ (num k).natAbs < 1000000) (hG : ∀ gc, Keep [J] s₂.heap gc → Gd (hd.heap_1 w.params) p loose mg mb gc)
    (hQ : ∀ D' outs s', KeepS [J] s₂ s' → s'.heap.get? D' = some (listOf (outs : List Value).toArray vs.length) → s₂.heap.get? D' = none → outs.length = vs.length → (∀ (k : Nat) x, outs[k]? = some x → ∃ t, x = .bytes (word (num k).natAbs).toArray t) → Q (.ref D') s') :
    CompD prog w A (.Call (.Name fn p1) [.Subscript (.Name (Str.ofString "thing") p2) (.Constant (.int 0) 0 p3) p4] [] p5) (.Name (Str.ofString "thing") p6) scope cl env Q (.ref J) s₂ [J] := by
  have hTJ : T ≠ J := neData hT hJ (by intro q; cases q)
  refine listComp (N := vs.length) (Src := fun k h => h.IsListIter J T k) (V := fun k v => vs[k]? = some v) (Ok := fun k x _ => ∃ t, x = .bytes (word (num k).natAbs).toArray t) hJ hz ⟨_, hJ, rfl, rfl⟩
    (fun gc kg => listTurns hh (PySem.IsL.isList (n := e) (kg.get _ _ (notC hTJ noneIn) hT))) (fun _ _ _ _ h _ => h) (fun s' Q' hs hq => wpAny_pyIter_listiter hs hq) (fun gc C m s' k v Q' kg F hs hv hk hq => ?_) (fun D' outs s' k' hD' hn' hlen hok => hQ D' outs s' k' hD' hn' hlen hok)
  obtain ⟨⟨a, t1, k1, e1, rfl, ha⟩, hb⟩ := hvs k v hv
  have G2 := hG gc kg
  have haJ : a ≠ J := neData ha hJ (by intro q; cases q)
  have hga := kg.get _ _ (notC haJ noneIn) ha
  show wpAny _ _ (pure ()) _ _ _
  refine wpAny_pure ?_
  refine wpAny_assign_Name (wpAny_storeName_local (hloc C) F.ns (fun h14 hn14 hs14 => ?_) (by rw [hfn C]; rfl))
  have F14 : Fr gc C h14 _ := F.set hn14 hs14
  refine Call_ (nameZ_K F14 G2.X G2.T hgl ?_ hg (hfn C) (hkfn C) hdb)
  refine callWith_G G2 hkp (spliced_more ?_)
  refine Subscript_ ?_
  refine nameZ_L F14 (if_pos rfl) ?_ (hfn C) (hloc C)
  walk1
  refine item_nat (l := [.int (num k) t1, k1]) (k := 0) (PySem.IsL.isList (n := e1) (F14.keep _ _ hga)) (by simp) (by simp) ?_
  rw [show ([.int (num k) t1, k1] : List Value).getD 0 Value.none = .int (num k) t1 from rfl]
  refine spliced_none ⟨F14.keep, ?_⟩
  refine hcall gc _ _ _ _ G2 (keepFr F14) hb fun s'' tk k'' => ?_
  exact hq _ _ _ (frKeep F14 k''.keep (by simp) (by simp)) (fun a o ha e => k''.keep.get _ _ (by simp) ((hs14.2 a ha).trans e)) k''.gens k''.os (fun _ _ => ⟨tk, rfl⟩)
end
theorem baOf : ∀ {outs : List Value} {bs : List (List UInt8)}, outs.length = bs.length → (∀ (k : Nat) x, outs[k]? = some x → ∃ t, x = Value.bytes (bs.getD k []).toArray t) → BA outs bs
  | [], [], _, _ => trivial
  | [], _ :: _, h, _ => by simp at h
  | _ :: _, [], h, _ => by simp at h
  | x :: xs, b :: bs, hl, h => ⟨by simpa using h 0 x (by simp), baOf (by simpa using hl) fun k y e => by simpa using h (k + 1) y (by simpa using e)⟩
theorem thing_at {ths : List (Addr × Obj)} {h : Heap} (hth : ∀ q ∈ ths, h.get? q.1 = some q.2 ∧ ThObj q) {i : Nat} (hi : i < ths.length) : ThingAt h ((refs ths).getD i Value.none) ((nums ths).getD i 0) ∧ ((nums ths).getD i 0).natAbs < 1000000 := by
  have hm : ths[i] ∈ ths := List.getElem_mem hi
  obtain ⟨h1, h2⟩ := hth _ hm
  obtain ⟨t1, k, e, hb⟩ := h2.num
  have e1 : (refs ths).getD i Value.none = .ref ths[i].1 := by simp [hi]
  have e2 : (nums ths).getD i 0 = numOf ths[i].2 := by simp [hi]
  rw [e1, e2]
  exact ⟨⟨_, t1, k, 0, rfl, by rw [← e]; exact h1⟩, hb⟩
theorem thingsAll {ths : List (Addr × Obj)} {h : Heap} (hth : ∀ q ∈ ths, h.get? q.1 = some q.2 ∧ ThObj q) : ∀ (k : Nat) v, (refs ths)[k]? = some v → ThingAt h v ((nums ths).getD k 0) ∧ ((nums ths).getD k 0).natAbs < 1000000 := fun k v e => by
  have hk : k < ths.length := by have := (List.getElem?_eq_some_iff.mp e).1; simpa using this
  have := thing_at hth hk
  rw [List.getD_eq_getElem?_getD, e] at this
  exact this
theorem take_getD {P : List Nat} {c k : Nat} (hk : k < (P.take c).length) : (P.take c)[k] = P.getD k 0 := by
  have : k < P.length := by simp at hk; omega
  simp [this]
theorem thingsR {ths : List (Addr × Obj)} {h : Heap} (hth : ∀ q ∈ ths, h.get? q.1 = some q.2 ∧ ThObj q) {P : List Nat} {c : Nat} (hP : ∀ i ∈ P, i < ths.length) :
    ∀ (k : Nat) v, ((P.take c).map fun i => (refs ths).getD i Value.none)[k]? = some v → ThingAt h v ((nums ths).getD (P.getD k 0) 0) ∧ ((nums ths).getD (P.getD k 0) 0).natAbs < 1000000 := fun k v e => by
  obtain ⟨hk, e2⟩ := List.getElem?_eq_some_iff.mp e
  have hk' : k < (P.take c).length := by simpa using hk
  rw [List.getElem_map, take_getD hk'] at e2
  have hkP : k < P.length := by simp at hk'; omega
  have := thing_at hth (hP (P.getD k 0) (by simp [hkP]))
  rw [e2] at this
  exact this
theorem alikeW {outs outs2 : List Value} {P : List Nat} {N c : Nat} {num : Nat → Int} (hP : ∀ i ∈ P, i < N) (hwl : outs.length = N) (hwo : ∀ (k : Nat) x, outs[k]? = some x → ∃ t, x = Value.bytes (word (num k).natAbs).toArray t)
    (hok2 : ∀ (k : Nat) x, outs2[k]? = some x → ∃ t, x = Value.bytes (word (num (P.getD k 0)).natAbs).toArray t) : ∀ (j : Nat) v u, ((P.take c).map fun i => outs.getD i Value.none)[j]? = some v → outs2[j]? = some u → Alike v u := fun j v u e1 e2 => by
  obtain ⟨t2, rfl⟩ := hok2 j u e2
  obtain ⟨hk, e3⟩ := List.getElem?_eq_some_iff.mp e1
  have hk' : j < (P.take c).length := by simpa using hk
  rw [List.getElem_map, take_getD hk'] at e3
  have hkP : j < P.length := by simp at hk'; omega
  have hlt : P.getD j 0 < outs.length := by rw [hwl]; exact hP _ (by simp [hkP])
  obtain ⟨t1, q⟩ := hwo (P.getD j 0) outs[P.getD j 0] (List.getElem?_eq_getElem hlt)
  have e4 : outs.getD (P.getD j 0) Value.none = outs[P.getD j 0] := by rw [List.getD_eq_getElem?_getD, List.getElem?_eq_getElem hlt]; rfl
  rw [e4, q] at e3
  exact .inr ⟨_, t1, t2, e3.symm, rfl⟩
end
section
local macro_rules | `(tactic| walk_at "stop") => `(tactic| with_reducible (first | refine st_acomp ?_ | refine st_refk ?_ | refine st_ne ?_ | refine st_iter ?_ | refine st_len ?_ | refine st_mod ?_))
local macro_rules | `(tactic| walk_at "callWith ref") => `(tactic| (k_dflt (first | refine callWith_Gkw (by assumption) (kp76 _) rfl ?_ | refine callWith_Gkw (by assumption) (kp82 _) rfl ?_)))
local macro_rules | `(tactic| walk_at "eval Name") => `(tactic| (k_dflt (first | refine nameZ_L (by assumption) (by walk_at "lv") ?_ | refine nameZ_C (by assumption) rfl (by assumption) (by assumption) ?_ | refine nameZ_K (by assumption) (Gd.X (by assumption)) (Gd.T (by assumption)) (by walk_at "gk") ?_ | refine nameZ_B (by assumption) (Gd.X (by assumption)) (Gd.T (by assumption)) (by walk_at "gb") (by boot_by_name) (by decide) ?_)))
local macro_rules | `(tactic| walk_at "eval Name") => `(tactic| (k_dflt (first | refine nameX_L1 (by rfl) (by assumption) (by walk_at "lv") ?_ | refine nameX_C1 (by rfl) (by assumption) rfl (.head _) (by assumption) ?_ | refine nameX_C1 (by rfl) (by assumption) rfl (.tail _ (.head _)) (by assumption) ?_)))
section
variable {prog : Program} {w : World} {A : Around} {E : Value → Shared → Prop} {s : Shared} {p : Program} {loose : List Str} {mg mb : Str → Option Value}

theorem tlaw : PySem.Challenge.rw_mr0270_01.Holds := hd (by
  k_go0
  rename_i w s₀ s₁ mg mb G Y fa o pm cd doc ho hcd hg X V T B TE TW ns hs hlay0 hLa hra hl2 a6 a5 sc sv a2 hLs rall w1 r0 hI hr hc1 hc2 hD h₁ tk₁ ocm oct hcm hct X0 XK TK BK F N l0
  replace hcm : ocm.data = .cell none := hcm
  replace hct : oct.data = .cell none := hct
  obtain ⟨m, F1, msc⟩ : ∃ m, Fr (ghostOf s₁.heap [(102, 98)]) s₁.heap.objs.size h₁ m ∧ m (Str.ofString "script") = some (.ref sc) := ⟨_, F, rfl⟩
  clear F X0 ho hcd hD G Y hs hlay0 hLa hra hl2 hLs rall w1 r0 hr hc2 T B TE TW X V hT8 hT9 BK
  have G0 := Gd.mk XK (topRead_of TK)
  revert G0
  generalize (looseW viewQ [Str.ofString "nsmallest", Str.ofString "nlargest"] ++ List.map (fun x => x.name) (recsOf viewQ) ++ List.map (fun x => x.fst) (litsOf viewQ) ++ List.map (fun x => x.name) (clssOf viewQ (looseW viewQ [Str.ofString "nsmallest", Str.ofString "nlargest"]))) = loose at TK
  intro G0
  (refine keepGoal fun kgP kgk => ?_; rcases TK.bmain with ⟨bm, ob, b1, b2, b3, b4, b5, b6⟩; refine kgk ?_; clear kgk kgP)
  have hb98 : bm ≠ 98 := fun q => by rw [q, (N (98, tabObj #[]) (by simp)).2.2] at b3; cases b3
  have hbG : bm ≠ mainGlobals := fun q => by
    (refine keepGoal fun kgP kgk => ?_; rcases TK.g with ⟨o, es, ep, e, hd, _⟩; refine kgk ?_; clear kgk kgP)
    rw [q, e] at b3; cases b3; rw [hd] at b6; cases b6
  have hBA : (ghostOf s₁.heap [(102, 98)]).BuiltinsAt mg 98 := ⟨bm, ob, b1, b2, hbG, hb98, b3, b4, b5, b6⟩
  clear b1 b2 b3 b4 b5 b6 hb98 hbG TK XK
  revert F1 N lifted codeHd G0 hBA l0
  generalize ghostOf s₁.heap [(102, 98)] = g
  generalize s₁.heap.objs.size = L
  intro lifted codeHd N l0 F1 G0 hBA
  replace codeHd : CodeHd g 102 98 := codeHd
  have hdep : ∀ env, (callerA.deeper env).depth + 40 < recursionLimit := fun env => by simp only [depth_deeper]; decide
  have huni : ∀ env, (callerA.deeper env).units + 800 < cLine := fun env => by simp only [units_deeper]; decide
  have hhan : ∀ env, (callerA.deeper env).handled = none := fun env => rfl
  refine wpAny_mono (E := NoE) (Q := fun f s' => f = .ret (.bool true) ∧ (∃ m', Fr g L s'.heap m') ∧ (∃ ps, s'.heap.get? 98 = some (tabObj ps)) ∧ s'.gens = s₁.gens ∧ s'.os = s₁.os) ?_ ?_ (fun _ _ h => h.elim)
  rotate_left
  · intro f s' kgI
    (refine keepGoal fun kgP kgk => ?_; rcases kgI with ⟨rfl, ⟨m', F'⟩, ⟨ps, hps⟩, hg', ho'⟩; refine kgk ?_; clear kgk kgP)
    refine ⟨⟨.inl ⟨.bool true, .bool true, [], rfl, ?_, ?_, ?_, ?_⟩, fun b o e => F'.keep b o e, ho', hg'.trans hg⟩, ⟨ps, hps⟩, trivial⟩
    · intro cls; rfl
    · exact ReadsW.bool true
    · first | with_unfolding_all rfl | kernel_rfl
    · exact fun _ => ⟨List.nodup_nil, by simp⟩
  clear hg
  refine absQ fun R0 hR0 => ?_
  dsimp only
  walk_at "runf"
  refine slice_list F1 N (items := sv.toArray) (by obtain ⟨ol, h1, h2⟩ := lifted; exact ⟨ol, F1.keep _ _ h1, h2⟩) (.int 1 _) (.int 7 _) (fun h2 F2 N2 => ?_) (hsz := by rw [sizeLine_eq]; have := hI.length; simp; omega)
  walk_at "runf"
  have hsl : (slicePick sv.toArray (some 1) (some 7) none).toList.length ≤ 6 := by have := pick_len sv.toArray; simpa using this
  refine law_things_call (h₀ := g) (vs := (slicePick sv.toArray (some 1) (some 7) none).toList) G0 (keepFr F2) (by have := PySem.IsL.isList (n := 0) (N2 _ (.head _)).1; simpa using this) (hI.pick (some 1) (some 7) none) (by omega) (by have := hdep (envOfC (Str.ofString "law") default L fa cd); simp only [depth_deeper] at this ⊢; omega) rfl fun s3 T eT ths k3 hT3 hTn hlen hths => ?_
  have hN3 : 3 ≤ ths.length ∧ ths.length ≤ 9 := by omega
  have F3 := frKeep F2 k3.keep (by simp) (by simp)
  have hTg : g.get? T = none := by
    cases q : g.get? T with
    | none => rfl
    | some o => have := F2.keep _ _ q; rw [hTn] at this; cases this
  have new3 : ∀ a : Addr, h2.get? a = none → ∀ q ∈ [(L + 1 + 1, ocm), (L + 1, oct), (98, tabObj #[])], a ≠ q.1 := fun a ha q hq e => by
    have := (N2 q (.tail _ hq)).1
    rw [← e, ha] at this; cases this
  have hLn : ∀ a : Addr, h2.get? a = none → a ≠ L ∧ g.get? a = none := fun a ha => by
    refine ⟨fun e => ?_, ?_⟩
    · (refine keepGoal fun kgP kgk => ?_; rcases F2.ns with ⟨oL, _, _, hoL, _⟩; refine kgk ?_; clear kgk kgP)
      rw [e, hoL] at ha; cases ha
    · cases q : g.get? a with
      | none => rfl
      | some o => have := F2.keep _ _ q; rw [ha] at this; cases this
  have N3 : News g L s3.heap ((L + 1 + 1, ocm) :: (L + 1, oct) :: (98, tabObj #[]) :: (T, listOf (refs ths).toArray eT) :: ths) := by
    have N0 := newsKeep (newsSub N2 (fun q hq => List.Mem.tail _ hq)) k3.keep (by simp)
    exact newsP (N0 _ (by simp)) (newsP (N0 _ (by simp)) (newsP (N0 _ (by simp)) (newsP ⟨hT3, hLn _ hTn⟩ fun q hq => ⟨(hths q hq).2.1, hLn _ (hths q hq).2.2.1⟩)))
  refine storeX_C F3 N3 rfl (.tail (by simp) (.head (allC (show 98 ≠ L + 1 by omega) (allC (new3 T hTn (L + 1, oct) (by simp)) fun q hq => new3 q.1 (hths q hq).2.2.1 (L + 1, oct) (by simp))))) hct ?_
  intro h4 oct4 F4 N4 hct4
  have hTO : ∀ q ∈ ths, ThObj q := fun q hq => (hths q hq).1
  have hTne : ∀ q ∈ ths, q.1 ≠ T := fun q hq => (hths q hq).2.2.2
  have gs4 : s3.gens = s₁.gens := k3.gens
  have os4 : s3.os = s₁.os := k3.os
  have hcT : L + 1 + 1 ≠ T ∧ L + 1 ≠ T ∧ 98 ≠ T := ⟨Ne.symm (new3 T hTn (L + 1 + 1, ocm) (by simp)), Ne.symm (new3 T hTn (L + 1, oct) (by simp)), Ne.symm (new3 T hTn (98, tabObj #[]) (by simp))⟩
  have hcq : ∀ q ∈ ths, q.1 ≠ L + 1 + 1 ∧ q.1 ≠ L + 1 ∧ q.1 ≠ 98 := fun q hq => ⟨new3 _ (hths q hq).2.2.1 (L + 1 + 1, ocm) (by simp), new3 _ (hths q hq).2.2.1 (L + 1, oct) (by simp), new3 _ (hths q hq).2.2.1 (98, tabObj #[]) (by simp)⟩
  clear new3 hLn hths N3 F3 N2 F2 N F1 hct hT3 hTn
  dsimp only
  have hsv : sv.length ≤ 63 := by have := hI.length; omega
  have hsc : ∀ {h : Heap}, (∀ b o, g.get? b = some o → h.get? b = some o) → h.IsList sc sv.toArray := fun k => by
    obtain ⟨ol, h1, h2⟩ := lifted
    exact ⟨ol, k _ _ h1, h2⟩
  have hTl : ∀ {h : Heap}, h.get? T = some (listOf (refs ths).toArray eT) → h.IsList T (refs ths).toArray := fun e => PySem.IsL.isList (n := eT) e
  have hrl : (refs ths).length = ths.length := by simp
  refine wpAny_execs_cons (wpAny_mono (Q := fun f s' => f = .next ∧ ∃ n tn m', -1 ≤ n ∧ n ≤ (ths.length : Int) + 1 ∧ Fr g L s'.heap m' ∧ News g L s'.heap ((L + 1 + 1, ocm) :: (L + 1, oct4) :: (98, tabObj #[]) :: (T, listOf (refs ths).toArray eT) :: ths) ∧ m' (Str.ofString "wish") = some (.int n tn) ∧ s'.gens = s₁.gens ∧ s'.os = s₁.os) ?_ ?_ (fun _ _ h => h))
  · refine absQ fun R1 hR1 => ?_
    walk_at "runf"
    refine len_nat (l := sv) (hsc F4.keep) (by omega) ?_
    walk_at "runf"
    split
    · walk_at "runf"
      obtain ⟨v0, hv0⟩ : ∃ v, sv[0]? = some v := ⟨_, List.getElem?_eq_getElem (by rename_i hpos; simpa using hpos)⟩
      (refine keepGoal fun kgP kgk => ?_; rcases hI.at 0 v0 hv0 with ⟨x0, t0, rfl, hx0⟩; refine kgk ?_; clear kgk kgP)
      have e0 : sv.getD 0 Value.none = .int x0 t0 := by simp [List.getD_eq_getElem?_getD, hv0]
      refine item_nat (l := sv) (k := 0) (hsc F4.keep) (by rename_i hpos; simpa using hpos) (by omega) ?_
      rw [e0]
      walk_at "runf"
      refine mod_int' (by decide) ?_
      walk_at "runf"
      refine len_nat (l := refs ths) (hTl (N4 (T, listOf (refs ths).toArray eT) (by simp)).1) (by simp; omega) ?_
      walk_at "runf"
      refine mod_int' (by simp; omega) ?_
      walk_at "runf"
      rename_i h5 F5 N5
      refine hR1 _ _ ⟨rfl, _, _, _, ?_, ?_, F5, N5, by walk_at "lv", gs4, os4⟩
      · exact wlow (by simp; omega)
      · exact whigh (by simp) (by omega)
    · walk_at "runf"
      refine len_nat (l := refs ths) (hTl (N4 (T, listOf (refs ths).toArray eT) (by simp)).1) (by simp; omega) ?_
      walk_at "runf"
      refine mod_int' (by simp; omega) ?_
      walk_at "runf"
      rename_i h5 F5 N5
      refine hR1 _ _ ⟨rfl, _, _, _, ?_, ?_, F5, N5, by walk_at "lv", gs4, os4⟩
      · exact wlow (by simp; omega)
      · exact whigh (by simp) (by omega)
  intro f s5 kgI
  (refine keepGoal fun kgP kgk => ?_; rcases kgI with ⟨rfl, n, tn, m5, hn1, hn2, F5, N5, mw, gs5, os5⟩; refine kgk ?_; clear kgk kgP)
  clear F4 N4 gs4 os4 lifted hsc
  dsimp only
  refine wpAny_execs_cons (wpAny_mono (Q := fun f s' => f = .next ∧ (∃ m', Fr g L s'.heap m') ∧ (∃ ps, s'.heap.get? 98 = some (tabObj ps)) ∧ s'.gens = s₁.gens ∧ s'.os = s₁.os) ?_ ?_ (fun _ _ h => h))
  rotate_left
  · intro f s6 kgI
    (refine keepGoal fun kgP kgk => ?_; rcases kgI with ⟨rfl, ⟨m6, F6⟩, hps, gs6, os6⟩; refine kgk ?_; clear kgk kgP)
    dsimp only
    walk_at "runf"
    exact hR0 _ _ ⟨rfl, ⟨_, F6⟩, hps, gs6, os6⟩
  refine for_ ?_
  walk_at "runf"
  rename_i LB h6 F6 N6 n6
  refine wpAny_pyIter_list (PySem.IsL.isList (n := 0) (N6 _ (.head _)).1) ?_
  dsimp only
  obtain ⟨It, hIt⟩ : ∃ It, It = h6.objs.size := ⟨_, rfl⟩
  rw [← hIt]
  have F7 : Fr g L (h6.push (itO LB)) _ := F6.push _
  have hIn : ∀ q ∈ (LB, listOf #[Value.bool false, Value.bool true] 0) :: (L + 1 + 1, ocm) :: (L + 1, oct4) :: (98, tabObj #[]) :: (T, listOf (refs ths).toArray eT) :: ths, q.1 ≠ It := fun q hq => by rw [hIt]; exact Nat.ne_of_lt (Heap.lt_size (N6 q hq).1)
  have N7 : News g L (h6.push (itO LB)) ((L + 1 + 1, ocm) :: (L + 1, oct4) :: (98, tabObj #[]) :: (T, listOf (refs ths).toArray eT) :: (It, itO LB) :: (LB, listOf #[Value.bool false, Value.bool true] 0) :: ths) := by
    have N0 := N6.grown (fun b o e => Heap.get?_push_of_some (itO LB) e)
    exact newsP (N0 _ (by simp)) (newsP (N0 _ (by simp)) (newsP (N0 _ (by simp)) (newsP (N0 _ (by simp)) (newsP ⟨hIt ▸ Heap.get?_push_size _ rfl, hIt ▸ Nat.ne_of_gt F6.ns.lt, hIt ▸ Heap.get?_none_of_le (Nat.le_trans F6.above (Nat.le_of_lt F6.ns.lt))⟩ (newsP (N0 _ (by simp)) fun q h => N0 q (by walk_at "mem"))))))
  have dIt : L + 1 + 1 ≠ It ∧ L + 1 ≠ It ∧ 98 ≠ It ∧ T ≠ It ∧ LB ≠ It ∧ ∀ q ∈ ths, q.1 ≠ It := ⟨hIn (L + 1 + 1, ocm) (by simp), hIn (L + 1, oct4) (by simp), hIn (98, tabObj #[]) (by simp), hIn (T, listOf (refs ths).toArray eT) (by simp), hIn (LB, listOf #[Value.bool false, Value.bool true] 0) (by simp), fun q hq => hIn q (by walk_at "mem")⟩
  have dLB : L + 1 + 1 ≠ LB ∧ L + 1 ≠ LB ∧ 98 ≠ LB ∧ T ≠ LB ∧ ∀ q ∈ ths, q.1 ≠ LB := ⟨n6 (L + 1 + 1, ocm) (by simp), n6 (L + 1, oct4) (by simp), n6 (98, tabObj #[]) (by simp), n6 (T, listOf (refs ths).toArray eT) (by simp), fun q hq => n6 q (by walk_at "mem")⟩
  refine forB (I := fun nn s' => ∃ j m' ocm' v0 ps oI, nn = 3 - j ∧ j ≤ 2 ∧ Fr g L s'.heap m' ∧ News g L s'.heap ((L + 1 + 1, ocm') :: (L + 1, oct4) :: (98, tabObj ps) :: (T, listOf (refs ths).toArray eT) :: (It, oI) :: (LB, listOf #[Value.bool false, Value.bool true] 0) :: ths) ∧ s'.heap.IsListIter It LB j
    ∧ ocm'.data = .cell v0 ∧ m' (Str.ofString "wish") = some (.int n tn) ∧ ((j = 0 ∧ ps = #[]) ∨ (j = 1 ∧ ∃ c, ps = #[rawInt 180, rawInt 11, .ref c]) ∨ j = 2) ∧ s'.gens = s₁.gens ∧ s'.os = s₁.os) (n₀ := 3)
    ⟨0, _, ocm, none, #[], itO LB, rfl, by omega, F7, N7, ⟨_, (N7 (It, itO LB) (by simp)).1, rfl, rfl⟩, hcm, by walk_at "lv", .inl ⟨rfl, rfl⟩, gs5, os5⟩ ?_
  clear F7 N7 hIn F6 N6 n6 F5 N5 mw gs5 os5 hIt hcm
  intro T9 Z9 nn hT9 hZ9 s6 kgI
  (refine keepGoal fun kgP kgk => ?_; rcases kgI with ⟨j, m6, ocm6, v6, ps, oI, rfl, hj, F6, N6, hit6, hcm6, mw, hps, gs6, os6⟩; refine kgk ?_; clear kgk kgP)
  have hLBl : s6.heap.IsList LB #[Value.bool false, Value.bool true] := PySem.IsL.isList (n := 0) (N6 (LB, listOf #[Value.bool false, Value.bool true] 0) (by simp)).1
  have nI := N6 (It, oI) (by simp)
  by_cases hend : j < 2
  · obtain ⟨b, hbv, hbj⟩ : ∃ b : Bool, #[Value.bool false, Value.bool true][j]? = some (.bool b) ∧ ((b = false ∧ j = 0) ∨ (b = true ∧ j = 1)) := by
      rcases Nat.lt_or_ge j 1 with h | h
      · have : j = 0 := by omega
        subst this; exact ⟨false, rfl, .inl ⟨rfl, rfl⟩⟩
      · have : j = 1 := by omega
        subst this; exact ⟨true, rfl, .inr ⟨rfl, rfl⟩⟩
    refine wpAny_pyNext_list_item hit6 hLBl hbv fun h7 hit7 hsb7 => ?_
    dsimp only
    obtain ⟨oI7, hoI7, hoI72⟩ := hit7
    have F7 : Fr g L h7 m6 := F6.change hsb7 nI.2.1 nI.2.2
    have N7 : News g L h7 ((L + 1 + 1, ocm6) :: (L + 1, oct4) :: (98, tabObj ps) :: (T, listOf (refs ths).toArray eT) :: (It, oI7) :: (LB, listOf #[Value.bool false, Value.bool true] 0) :: ths) := by
      have go : ∀ q, q ∈ (L + 1 + 1, ocm6) :: (L + 1, oct4) :: (98, tabObj ps) :: (T, listOf (refs ths).toArray eT) :: (It, oI) :: (LB, listOf #[Value.bool false, Value.bool true] 0) :: ths → q.1 ≠ It → h7.get? q.1 = some q.2 ∧ q.1 ≠ L ∧ g.get? q.1 = none := fun q hq hne => ⟨(hsb7.2 _ hne).trans (N6 q hq).1, (N6 q hq).2⟩
      exact newsP (go _ (by simp) dIt.1) (newsP (go _ (by simp) dIt.2.1) (newsP (go _ (by simp) dIt.2.2.1) (newsP (go _ (by simp) dIt.2.2.2.1) (newsP ⟨hoI7, nI.2⟩ (newsP (go _ (by simp) dIt.2.2.2.2.1) fun q h => go q (by walk_at "mem") (dIt.2.2.2.2.2 q h))))))
    clear F6 N6 nI hLBl hit6
    refine wpAny_assign_Name (storeX_C F7 N7 rfl (.head (allC (show L + 1 ≠ L + 1 + 1 by omega) (allC (show 98 ≠ L + 1 + 1 by omega) (allC (Ne.symm hcT.1) (allC (Ne.symm dIt.1) (allC (Ne.symm dLB.1) fun q h => (hcq q h).1)))))) hcm6 ?_)
    intro h8 ocm8 F8 N8 hcm8
    clear F7 N7 hcm6
    dsimp only
    walk_at "runf"
    have n98 := N8 (98, tabObj ps) (by simp)
    have htri : TriplesOk ps.toList ∧ codeAmong (if b = true then ⟨179, 15, 179, 51⟩ else ⟨180, 11, 180, 41⟩) ps.toList = none := by
      rcases hbj with ⟨rfl, rfl⟩ | ⟨rfl, rfl⟩
      · rcases hps with ⟨_, rfl⟩ | ⟨h, _⟩ | h
        · exact ⟨trivial, rfl⟩
        · omega
        · omega
      · rcases hps with ⟨h, _⟩ | ⟨_, c, rfl⟩ | h
        · omega
        · exact ⟨trivial, rfl⟩
        · omega
    refine law_key_call (h₀ := g) G0 (keepFr F8) codeHd hBA n98.2.2 n98.1 htri.1 htri.2 (by simp only [depth_deeper]; decide) ?_
    intro s9 f c k9 hf9 hc9 hfn9 hcs9 hcf KM9 h989
    replace k9 : Keep [98] h8 s9.heap ∧ s9.gens = s₁.gens ∧ s9.os = s₁.os := ⟨k9.keep, k9.gens.trans gs6, k9.os.trans os6⟩
    replace hf9 : h8.get? f = none := hf9
    replace hc9 : h8.get? c = none := hc9
    (refine keepGoal fun kgP kgk => ?_; rcases hfn9 with ⟨f1, f2, f3, f4, hof⟩; refine kgk ?_; clear kgk kgP)
    obtain ⟨occ, hocc⟩ := Option.isSome_iff_exists.mp hcs9
    have hLn : ∀ a : Addr, h8.get? a = none → a ≠ L ∧ g.get? a = none := fun a ha => by
      refine ⟨fun e => ?_, ?_⟩
      · (refine keepGoal fun kgP kgk => ?_; rcases F8.ns with ⟨oL, _, _, hoL, _⟩; refine kgk ?_; clear kgk kgP)
        rw [e, hoL] at ha; cases ha
      · cases q : g.get? a with
        | none => rfl
        | some o => have := F8.keep _ _ q; rw [ha] at this; cases this
    have F9 : Fr g L s9.heap m6 := frKeep F8 k9.1 (by simp; exact Nat.ne_of_gt l0) (by simpa using n98.2.2)
    generalize hps' : ps ++ #[rawInt (if b = true then 179 else 180), rawInt (if b = true then 15 else 11), .ref c] = ps9 at h989
    have N9 : News g L s9.heap ((L + 1 + 1, ocm8) :: (L + 1, oct4) :: (98, tabObj ps9) :: (T, listOf (refs ths).toArray eT) :: (It, oI7) :: (LB, listOf #[Value.bool false, Value.bool true] 0) :: (f, ⟨f1, f2, .func f3, f4⟩) :: (c, occ) :: ths) := by
      have go : ∀ q, q ∈ (L + 1 + 1, ocm8) :: (L + 1, oct4) :: (98, tabObj ps) :: (T, listOf (refs ths).toArray eT) :: (It, oI7) :: (LB, listOf #[Value.bool false, Value.bool true] 0) :: ths → q.1 ≠ 98 → s9.heap.get? q.1 = some q.2 ∧ q.1 ≠ L ∧ g.get? q.1 = none := fun q hq hne => ⟨k9.1.get _ _ (notC hne noneIn) (N8 q hq).1, (N8 q hq).2⟩
      exact newsP (go _ (by simp) (by show L + 1 + 1 ≠ 98; omega)) (newsP (go _ (by simp) (by show L + 1 ≠ 98; omega)) (newsP ⟨h989, n98.2⟩ (newsP (go _ (by simp) (Ne.symm hcT.2.2)) (newsP (go _ (by simp) (Ne.symm dIt.2.2.1)) (newsP (go _ (by simp) (Ne.symm dLB.2.2.1)) (newsP ⟨hof, hLn _ hf9⟩ (newsP ⟨hocc, hLn _ hc9⟩ fun q h => go q (by walk_at "mem") (hcq q h).2.2)))))))
    have hfn9 : FnAt f s9.heap := ⟨f1, f2, f3, f4, hof⟩
    refine storeX_L F9 N9 ?_
    intro h10 F10 N10
    clear F9 N9 F8 N8 n98 hLn htri h989
    dsimp only
    refine wpAny_execs_cons (compX_ (L := L) (n0 := Str.ofString ".0") (x := Str.ofString "one") (n2 := Str.ofString "mirrored") (n3 := Str.ofString "things") (cl := [(Str.ofString "things", L + 1), (Str.ofString "mirrored", L + 1 + 1)]) (by kernel_rfl) rfl rfl rfl rfl rfl rfl (by decide) ?_)
    walk_at "runf"
    have nT10 := N10 (T, listOf (refs ths).toArray eT) (by simp)
    refine wpAny_pyIter_list (hTl nT10.1) ?_
    dsimp only
    have up11 : ∀ b o, h10.get? b = some o → (h10.push (itO T)).get? b = some o := fun b o e => Heap.get?_push_of_some _ e
    have F11 : Fr g L (h10.push (itO T)) _ := F10.push _
    have N11 := N10.grown up11
    obtain ⟨J, hJ⟩ : ∃ J, J = h10.objs.size := ⟨_, rfl⟩
    rw [← hJ]
    have hJo : (h10.push (itO T)).get? J = some (itO T) := hJ ▸ Heap.get?_push_size _ rfl
    have hJn : ∀ b o, h10.get? b = some o → b ≠ J := fun b o e => by rw [hJ]; exact Nat.ne_of_lt (Heap.lt_size e)
    have hJL : L ≠ J := hJ ▸ Nat.ne_of_lt F10.ns.lt
    have hJg : g.get? J = none := hJ ▸ Heap.get?_none_of_le (Nat.le_trans F10.above (Nat.le_of_lt F10.ns.lt))
    have hthg : ∀ q ∈ ths, ∃ t1 k, q.2 = listOf #[.int (numOf q.2) t1, k] 0 ∧ (numOf q.2).natAbs < 1000000 := fun q hq => (hTO q hq).num
    refine ⟨[J], _, by simpa using hJL, F11.ns, listCompX (N := ths.length) (Src := fun k h => h.IsListIter J T k) (V := fun k v => (refs ths)[k]? = some v) (Ok := fun k y h => ∃ a vs e, y = .ref a ∧ h.get? a = some (listOf (vs : List Value).toArray e) ∧ IntsAre vs ((List.range ths.length).map fun i => sideB b ((nums ths).getD k 0).natAbs ((nums ths).getD i 0).natAbs)) hJo (by omega) ⟨_, hJo, rfl, rfl⟩
      (fun gc kg => listTurnsN (by simp) rfl (hTl (kg.get _ _ (notC (hJn _ _ nT10.1) noneIn) (up11 _ _ nT10.1))))
      (fun k x h h' ⟨a, vs, e, q1, q2, q3⟩ kk => ⟨a, vs, e, q1, kk _ _ q2, q3⟩) (fun s' Q' hs hq => wpAny_pyIter_listiter hs hq) (fun _ => rfl) (fun _ => rfl) (fun _ => rfl) ?_ ?_⟩
    · intro gc C mc s12 k v oc12 Q12 kc Fc hoc12 hocd12 hV hk hQ12
      have hgt : gc.get? (L + 1) = some oct4 := kc.get _ _ (notC (hJn _ _ (N10 (L + 1, oct4) (by simp)).1) noneIn) (up11 _ _ (N10 (L + 1, oct4) (by simp)).1)
      have hgm : gc.get? (L + 1 + 1) = some ocm8 := kc.get _ _ (notC (hJn _ _ (N10 (L + 1 + 1, ocm8) (by simp)).1) noneIn) (up11 _ _ (N10 (L + 1 + 1, ocm8) (by simp)).1)
      have hgT : gc.get? T = some (listOf (refs ths).toArray eT) := kc.get _ _ (notC (hJn _ _ nT10.1) noneIn) (up11 _ _ nT10.1)
      have hgq : ∀ q ∈ ths, gc.get? q.1 = some q.2 := fun q hq => kc.get _ _ (notC (hJn _ _ (N10 q (by walk_at "mem")).1) noneIn) (up11 _ _ (N10 q (by walk_at "mem")).1)
      have Gc : Gd (hd.heap_1 w.params) topProg loose mg mb gc := G0.keeps fun b o e => kc.get _ _ (by simp; intro q; rw [q, hJg] at e; cases e) (F11.keep _ _ e)
      refine comp_ (cl := [(Str.ofString "one", C + 1), (Str.ofString "mirrored", L + 1 + 1)]) rfl (by decide) rfl (by decide) ?_
      refine nameZ_C Fc rfl hgt hct4 ?_
      refine wpAny_pyIter_list (hTl (Fc.keep _ _ hgT)) ?_
      obtain ⟨J2, hJ2⟩ : ∃ J2, J2 = s12.heap.objs.size := ⟨_, rfl⟩
      rw [← hJ2]
      have up13 : ∀ b o, s12.heap.get? b = some o → (s12.heap.push (itO T)).get? b = some o := fun b o e => Heap.get?_push_of_some _ e
      have hJo2 : (s12.heap.push (itO T)).get? J2 = some (itO T) := hJ2 ▸ Heap.get?_push_size _ rfl
      have hJn2 : ∀ b o, s12.heap.get? b = some o → b ≠ J2 := fun b o e => by rw [hJ2]; exact Nat.ne_of_lt (Heap.lt_size e)
      have hT12 := Fc.keep _ _ hgT
      refine ⟨[J2], listComp (N := ths.length) (Src := fun k h => h.IsListIter J2 T k) (V := fun k v => (refs ths)[k]? = some v) (Ok := fun i y _ => ∃ t, y = .int (sideB b ((nums ths).getD k 0).natAbs ((nums ths).getD i 0).natAbs) t) hJo2 (by omega) ⟨_, hJo2, rfl, rfl⟩
        (fun gc kg => listTurnsN (by simp) rfl (hTl (kg.get _ _ (notC (hJn2 _ _ hT12) noneIn) (up13 _ _ hT12)))) (fun _ _ _ _ h _ => h) (fun s' Q' hs hq => wpAny_pyIter_listiter hs hq) ?_ ?_⟩
      · intro gc2 C2 m2 s13 i v2 Q13 kc2 F13 hs13 hV2 hi hQ13
        have g2 : ∀ a o, s12.heap.get? a = some o → gc2.get? a = some o := fun a o e => kc2.get _ _ (notC (hJn2 _ _ e) noneIn) (up13 _ _ e)
        have hg1 := g2 _ _ hoc12
        have hg2 := g2 _ _ (Fc.keep _ _ hgm)
        have G2 : Gd (hd.heap_1 w.params) topProg loose mg mb gc2 := Gc.keeps fun b o e => g2 _ _ (Fc.keep _ _ e)
        obtain ⟨q1, hq1, hv1⟩ : ∃ q1, ths[k]? = some q1 ∧ v = .ref q1.1 := by
          rw [List.getElem?_map] at hV
          cases z : ths[k]? with
          | none => rw [z] at hV; cases hV
          | some q => rw [z] at hV; exact ⟨q, rfl, (Option.some.inj hV).symm⟩
        obtain ⟨q2, hq2, hv2⟩ : ∃ q2, ths[i]? = some q2 ∧ v2 = .ref q2.1 := by
          rw [List.getElem?_map] at hV2
          cases z : ths[i]? with
          | none => rw [z] at hV2; cases hV2
          | some q => rw [z] at hV2; exact ⟨q, rfl, (Option.some.inj hV2).symm⟩
        subst hv1 hv2
        have hm1 := List.mem_of_getElem? hq1
        have hm2 := List.mem_of_getElem? hq2
        (refine keepGoal fun kgP kgk => ?_; rcases hthg q1 hm1 with ⟨t11, k11, e11, b11⟩; refine kgk ?_; clear kgk kgP)
        (refine keepGoal fun kgP kgk => ?_; rcases hthg q2 hm2 with ⟨t22, k22, e22, b22⟩; refine kgk ?_; clear kgk kgP)
        have hn1k : (nums ths).getD k 0 = numOf q1.2 := by simp [List.getD_eq_getElem?_getD, hq1]
        have hn2k : (nums ths).getD i 0 = numOf q2.2 := by simp [List.getD_eq_getElem?_getD, hq2]
        show wpAny _ _ (pure ()) _ _ _
        refine wpAny_pure ?_
        refine wpAny_assign_Name (wpAny_storeName_local rfl F13.ns (fun h14 hn14 hs14 => ?_) rfl)
        have F14 : Fr gc2 C2 h14 _ := F13.set hn14 hs14
        have l1 : h14.get? q1.1 = some (listOf [.int (numOf q1.2) t11, k11].toArray 0) := by have := F14.keep _ _ (g2 _ _ (Fc.keep _ _ (hgq q1 hm1))); rw [e11] at this; exact this
        have l2 : h14.get? q2.1 = some (listOf [.int (numOf q2.2) t22, k22].toArray 0) := by have := F14.keep _ _ (g2 _ _ (Fc.keep _ _ (hgq q2 hm2))); rw [e22] at this; exact this
        clear F13 F10 N10 F11 N11
        walk_at "runf"
        refine item_nat (l := [.int (numOf q1.2) t11, k11]) (k := 0) (PySem.IsL.isList (n := 0) l1) (by simp) (by simp) ?_
        rw [show ([.int (numOf q1.2) t11, k11] : List Value).getD 0 Value.none = .int (numOf q1.2) t11 from rfl]
        walk_at "runf"
        refine item_nat (l := [.int (numOf q2.2) t22, k22]) (k := 0) (PySem.IsL.isList (n := 0) l2) (by simp) (by simp) ?_
        rw [show ([.int (numOf q2.2) t22, k22] : List Value).getD 0 Value.none = .int (numOf q2.2) t22 from rfl]
        walk_at "runf"
        have ha1 : (if numOf q1.2 < 0 then -numOf q1.2 else numOf q1.2) = (((numOf q1.2).natAbs : Nat) : Int) := by split <;> omega
        have ha2 : (if numOf q2.2 < 0 then -numOf q2.2 else numOf q2.2) = (((numOf q2.2).natAbs : Nat) : Int) := by split <;> omega
        have fin : ∀ s15 tk15, Keep [] h14 s15.heap → s15.gens = s13.gens → s15.os = s13.os → Q13 (.int (sideB b (numOf q1.2).natAbs (numOf q2.2).natAbs) tk15) s15 := fun s15 tk15 k15 g15 o15 => by
          refine hQ13 _ _ _ (frKeep F14 k15 (by simp) (by simp)) (fun a o ha e => k15.get _ _ (by simp) ((hs14.2 a ha).trans e)) g15 o15 (fun _ _ => ⟨tk15, ?_⟩)
          rw [hn1k, hn2k]
        rw [ha1, ha2]
        cases b with
        | true => exact law_sideM_call G2 (keepFr F14) (by simp only [depth_deeper]; decide) rfl (fun s15 tk15 k15 => fin s15 tk15 k15.keep k15.gens k15.os)
        | false => exact law_sideD_call G2 (keepFr F14) (by simp only [depth_deeper]; decide) rfl (by simp only [units_deeper]; decide) b11 b22 (fun s15 tk15 k15 => fin s15 tk15 k15.keep k15.gens k15.os)
      · intro Dr outs s14 k14 hDr hDrn hol hok
        have hDr12 : s12.heap.get? Dr = none := by
          cases z : s12.heap.get? Dr with
          | none => rfl
          | some o => have := up13 _ _ z; rw [hDrn] at this; cases this
        refine hQ12 _ _ ⟨⟨fun a o _ e => k14.keep.get _ _ (notC (hJn2 _ _ e) noneIn) (up13 _ _ e), Nat.le_trans (by rw [Heap.size_push]; exact Nat.le_succ _) k14.keep.size⟩, k14.gens, k14.os⟩ fun bad hbad => ⟨Dr, outs, ths.length, rfl, hideAll_get _ hDr (fun q => ?_), ints_of hol fun j x e => hok j x e⟩
        have := hbad Dr q
        rw [hDr12] at this; cases this
    · intro Sd outs s12 k12 hSd hSdn hol hok h13 tk13 hn13 hs13
      have F12 : Fr g L s12.heap _ := frKeep F11 k12.keep (notC hJL noneIn) (allC hJg allNil)
      have F13 : Fr g L h13 _ := F12.set hn13 hs13
      have N13 : News g L h13 ((L + 1 + 1, ocm8) :: (L + 1, oct4) :: (98, tabObj ps9) :: (T, listOf (refs ths).toArray eT) :: (It, oI7) :: (LB, listOf #[Value.bool false, Value.bool true] 0) :: (f, ⟨f1, f2, .func f3, f4⟩) :: (c, occ) :: ths) := fun q hq => ⟨(hs13.2 _ (N10 q hq).2.1).trans (k12.keep.get _ _ (notC (hJn _ _ (N10 q hq).1) noneIn) (up11 _ _ (N10 q hq).1)), (N10 q hq).2⟩
      (refine keepGoal fun kgP kgk => ?_; rcases id F12.ns with ⟨oL12, es12, ep12, hoL12, hdL12, _⟩; refine kgk ?_; clear kgk kgP)
      have SD : SidesAt (hideAll h13 [L]) Sd ths.length (fun k i => sideB b ((nums ths).getD k 0).natAbs ((nums ths).getD i 0).natAbs) := by
        have nl : ∀ a vs e, s12.heap.get? a = some (listOf (vs : List Value).toArray e) → (hideAll h13 [L]).get? a = some (listOf vs.toArray e) := fun a vs e q => by
          have hne : a ≠ L := neData q hoL12 (by rw [hdL12]; intro z; cases z)
          exact hideAll_get _ ((hs13.2 _ hne).trans q) (notC hne noneIn)
        refine sidesAt_of (nl _ _ _ hSd) hol fun j x e => ?_
        (refine keepGoal fun kgP kgk => ?_; rcases hok j x e with ⟨a, vs, e2, q1, q2, q3⟩; refine kgk ?_; clear kgk kgP)
        exact ⟨a, vs, e2, q1, nl _ _ _ (of_hideAll _ q2), q3⟩
      have gs13 : s12.gens = s₁.gens := k12.gens.trans k9.2.1
      have os13 : s12.os = s₁.os := k12.os.trans k9.2.2
      clear F12 F11 N11 F10 N10 hn13 hs13 hok hSd hoL12 hdL12 k12 up11 hJo hJn hJL hJg
      obtain ⟨P1, hP1⟩ := stable_exists (flt_swn true ((nums ths).map (keyW b))) ths.length
      obtain ⟨P2, hP2⟩ := stable_exists (flt_swn false ((nums ths).map (keyW b))) ths.length
      have hnl : (nums ths).length = ths.length := by simp
      walk_at "runf"
      refine due_call (h₀ := g) (tvs := refs ths) (lt := flt true ((nums ths).map (keyW b))) (P := P1) (sd := fun k i => sideB b ((nums ths).getD k 0).natAbs ((nums ths).getD i 0).natAbs) G0 (keepFr F13) (hTl (N13 (T, listOf (refs ths).toArray eT) (by simp)).1) (by rw [hrl]; exact SD.mono (fun b o e => of_hideAll _ e)) (flt_swn true _) (by rw [hrl]; exact hP1) (fun i j hi hj => (side_prec (by omega) (by omega)).1) (by rw [hrl]; omega) (by omega) (by simp only [depth_deeper]; decide) rfl (by simp only [units_deeper]; decide) ?_
      intro s14 Df c1 k14 hDfn hDf
      replace k14 : Keep [] h13 s14.heap ∧ s14.gens = s₁.gens ∧ s14.os = s₁.os := ⟨k14.keep, k14.gens.trans gs13, k14.os.trans os13⟩
      have hDfn' := freshN F13 hDfn
      generalize eR1 : ((P1.take n.toNat).map fun i => (refs ths).getD i Value.none) = R1 at hDf
      have F14 := frKeep F13 k14.1 (by simp) (by simp)
      have N14 := newsRot (newsCons hDf hDfn'.1 hDfn'.2 (newsKeep N13 k14.1 (by simp)))
      refine wpAny_storeName_local rfl F14.ns (fun h15 hn15 hs15 => ?_) rfl
      have F15 : Fr g L h15 _ := F14.set hn15 hs15
      have N15 := N14.set hs15
      have SD15 := SD.mono (hide_mono (h' := h15) fun b o hb e => (hs15.2 b hb).trans (k14.1.get _ _ (by simp) e))
      clear SD F13 N13 F14 N14 hn15 hs15 gs13 os13
      walk_at "runf"
      refine due_call (h₀ := g) (tvs := refs ths) (lt := flt false ((nums ths).map (keyW b))) (P := P2) (sd := fun k i => sideB b ((nums ths).getD k 0).natAbs ((nums ths).getD i 0).natAbs) G0 (keepFr F15) (hTl (N15 (T, listOf (refs ths).toArray eT) (by simp)).1) (by rw [hrl]; exact SD15.mono (fun b o e => of_hideAll _ e)) (flt_swn false _) (by rw [hrl]; exact hP2) (fun i j hi hj => (side_prec (by omega) (by omega)).2) (by rw [hrl]; omega) (by omega) (by simp only [depth_deeper]; decide) rfl (by simp only [units_deeper]; decide) ?_
      intro s16 Dl c2 k16 hDln hDl
      replace k16 : Keep [] h15 s16.heap ∧ s16.gens = s₁.gens ∧ s16.os = s₁.os := ⟨k16.keep, k16.gens.trans k14.2.1, k16.os.trans k14.2.2⟩
      have hDln' := freshN F15 hDln
      generalize eR2 : ((P2.take n.toNat).map fun i => (refs ths).getD i Value.none) = R2 at hDl
      have F16 := frKeep F15 k16.1 (by simp) (by simp)
      have N16 := newsRot (newsCons hDl hDln'.1 hDln'.2 (newsKeep N15 k16.1 (by simp)))
      refine storeX_L F16 N16 ?_
      intro h20 F20 N20
      have gs20 := k16.2.1
      have os20 := k16.2.2
      clear SD15 F15 N15 F16 N16 k16 k14
      dsimp only
      walk_at "auto"
      show wpAny _ _ (call (Value.ref 76) [Value.int n tn, Value.ref _] [(Str.ofString "key", Value.ref f)]) _ _ _
      refine nsK_law (I := 0) (T := T) (ths := ths) (e := eT) (c := c) (of := ⟨f1, f2, .func f3, f4⟩) (oc := occ) (hh0 := s9.heap) (b := b) (P := P1) F20 N20 G0 (fun q hq => ⟨by walk_at "mem", hTO q hq⟩) (by simp) (by simp) (by simp) KM9 hof hocc hfn9 (.inl rfl) rfl rfl rfl ⟨hn1, hn2⟩ (by omega) (by simp only [depth_deeper]; decide) (by simp only [units_deeper]; decide) rfl hP1 ?_
      clear F20 N20
      intro s21 D21 c21 F21 N21 hD21 g21 o21
      rw [eR1] at hD21
      replace g21 := g21.trans gs20
      replace o21 := o21.trans os20
      clear gs20 os20
      have gs21 := g21
      have os21 := o21
      clear g21 o21
      walk_at "runf"
      refine ne_same (vs := R1) (us := R1) (PySem.IsL.isList (n := c21) hD21) (PySem.IsL.isList (n := c1) (N21 (Df, listOf R1.toArray c1) (by simp)).1) rfl alike_refl (by simp only [units_deeper]; decide) ?_
      walk_at "auto"
      refine iter_list_ (hTl (N21 (T, listOf (refs ths).toArray eT) (by simp)).1) ?_
      have hIg21 := freshN F21 (Heap.get?_none_of_le (Nat.le_refl _))
      have hIq21 := newsNe N21
      replace F21 := F21.push (itO T)
      replace N21 := N21.grown (fun b o e => Heap.get?_push_of_some (itO T) e)
      walk_at "auto"
      show wpAny _ _ (call (Value.ref 76) [Value.int n tn, Value.ref _] [(Str.ofString "key", Value.ref f)]) _ _ _
      refine nsK_law (T := T) (ths := ths) (e := eT) (c := c) (of := ⟨f1, f2, .func f3, f4⟩) (oc := occ) (hh0 := s9.heap) (b := b) (P := P1) F21 N21 G0 (fun q hq => ⟨by walk_at "mem", hTO q hq⟩) (by simp) (by simp) (by simp) KM9 hof hocc hfn9 (.inr ⟨rfl, Heap.get?_push_size _ rfl, hIg21.2, hIq21⟩) rfl rfl rfl ⟨hn1, hn2⟩ (by omega) (by simp only [depth_deeper]; decide) (by simp only [units_deeper]; decide) rfl hP1 ?_
      clear F21 N21
      intro s22 D22 c22 F22 N22 hD22 g22 o22
      rw [eR1] at hD22
      replace g22 := g22.trans gs21
      replace o22 := o22.trans os21
      clear gs21 os21
      have gs22 := g22
      have os22 := o22
      clear g22 o22
      walk_at "runf"
      refine ne_same (vs := R1) (us := R1) (PySem.IsL.isList (n := c22) hD22) (PySem.IsL.isList (n := c1) (N22 (Df, listOf R1.toArray c1) (by simp)).1) rfl alike_refl (by simp only [units_deeper]; decide) ?_
      walk_at "auto"
      show wpAny _ _ (call (Value.ref 82) [Value.int n tn, Value.ref _] [(Str.ofString "key", Value.ref f)]) _ _ _
      refine nlK_law (I := 0) (T := T) (ths := ths) (e := eT) (c := c) (of := ⟨f1, f2, .func f3, f4⟩) (oc := occ) (hh0 := s9.heap) (b := b) (P := P2) F22 N22 G0 (fun q hq => ⟨by walk_at "mem", hTO q hq⟩) (by simp) (by simp) (by simp) KM9 hof hocc hfn9 (.inl rfl) rfl rfl rfl ⟨hn1, hn2⟩ (by omega) (by simp only [depth_deeper]; decide) (by simp only [units_deeper]; decide) rfl hP2 ?_
      clear F22 N22
      intro s23 D23 c23 F23 N23 hD23 g23 o23
      rw [eR2] at hD23
      replace g23 := g23.trans gs22
      replace o23 := o23.trans os22
      clear gs22 os22
      have gs23 := g23
      have os23 := o23
      clear g23 o23
      walk_at "runf"
      refine ne_same (vs := R2) (us := R2) (PySem.IsL.isList (n := c23) hD23) (PySem.IsL.isList (n := c2) (N23 (Dl, listOf R2.toArray c2) (by simp)).1) rfl alike_refl (by simp only [units_deeper]; decide) ?_
      walk_at "auto"
      refine iter_list_ (hTl (N23 (T, listOf (refs ths).toArray eT) (by simp)).1) ?_
      have hIg23 := freshN F23 (Heap.get?_none_of_le (Nat.le_refl _))
      have hIq23 := newsNe N23
      replace F23 := F23.push (itO T)
      replace N23 := N23.grown (fun b o e => Heap.get?_push_of_some (itO T) e)
      walk_at "auto"
      show wpAny _ _ (call (Value.ref 82) [Value.int n tn, Value.ref _] [(Str.ofString "key", Value.ref f)]) _ _ _
      refine nlK_law (T := T) (ths := ths) (e := eT) (c := c) (of := ⟨f1, f2, .func f3, f4⟩) (oc := occ) (hh0 := s9.heap) (b := b) (P := P2) F23 N23 G0 (fun q hq => ⟨by walk_at "mem", hTO q hq⟩) (by simp) (by simp) (by simp) KM9 hof hocc hfn9 (.inr ⟨rfl, Heap.get?_push_size _ rfl, hIg23.2, hIq23⟩) rfl rfl rfl ⟨hn1, hn2⟩ (by omega) (by simp only [depth_deeper]; decide) (by simp only [units_deeper]; decide) rfl hP2 ?_
      clear F23 N23
      intro s24 D24 c24 F24 N24 hD24 g24 o24
      rw [eR2] at hD24
      replace g24 := g24.trans gs23
      replace o24 := o24.trans os23
      clear gs23 os23
      have gs24 := g24
      have os24 := o24
      clear g24 o24
      walk_at "runf"
      refine ne_same (vs := R2) (us := R2) (PySem.IsL.isList (n := c24) hD24) (PySem.IsL.isList (n := c2) (N24 (Dl, listOf R2.toArray c2) (by simp)).1) rfl alike_refl (by simp only [units_deeper]; decide) ?_
      cases b with
      | true =>
        walk_at "auto"
        exact hT9 _ _ ⟨3 - (j + 1), by omega, j + 1, _, ocm8, _, ps9, oI7, rfl, by omega, F24, newsSub N24 (allC (by simp) (allC (by simp) (allC (by simp) (allC (by simp) (allC (by simp) (allC (by simp) fun q h => by walk_at "mem")))))), ⟨oI7, (N24 (It, oI7) (by simp)).1, hoI72⟩, hcm8, by walk_at "lv", .inr (.inr (by rcases hbj with ⟨h, _⟩ | ⟨_, h⟩; cases h; omega)), gs24, os24⟩
      | false =>
        walk_at "auto"
        refine compA_ (L := L) (cl := []) (by kernel_rfl) rfl rfl rfl rfl (by decide) rfl (by decide) ?_
        walk_at "runf"
        refine wpAny_pyIter_list (hTl (N24 (T, listOf (refs ths).toArray eT) (by simp)).1) ?_
        have F25 := F24.push (itO T)
        have N25 := N24.grown (fun b o e => Heap.get?_push_of_some (itO T) e)
        have hJf := freshN F24 (Heap.get?_none_of_le (Nat.le_refl _))
        have hJq := newsNe N24
        have hJo := Heap.get?_push_size s24.heap (o := itO T) rfl
        refine ⟨[s24.heap.objs.size], _, by simpa using Ne.symm hJf.1, F25.ns, wordComp (p := topProg) (loose := loose) (mg := mg) (mb := mb) (T := T) (vs := refs ths) (e := eT) (num := fun k => (nums ths).getD k 0) (fun _ => rfl) (fun _ => rfl) (fun _ => rfl) (gl89 _) (kp89 _) rfl rfl rfl (fun gc s' n t Q' G K hn hq => Int2AP_call G K hn (by simp only [depth_deeper]; decide) (by simp only [units_deeper]; decide) rfl hq) hJo (N25 (T, listOf (refs ths).toArray eT) (by simp)).1 (by simp; omega) (thingsAll fun q hq => ⟨(N25 q (by walk_at "mem")).1, hTO q hq⟩) (fun gc kg => G0.keeps fun b o e => kg.get _ _ (by simp; intro q; rw [q, hJf.2] at e; cases e) (F25.keep _ _ e)) ?_⟩
        intro Dw outs s26 k26 hDw hDwn hwl hwo h27 tk27 hn27 hs27
        have F26 := frKeep F25 k26.keep (notC (Ne.symm hJf.1) noneIn) (allC hJf.2 allNil)
        have F27 : Fr g L h27 _ := F26.set hn27 hs27
        have hDwf := freshN F25 hDwn
        have N27 : News g L h27 ((L + 1 + 1, ocm8) :: (L + 1, oct4) :: (Dw, listOf outs.toArray (refs ths).length) :: (Dl, listOf R2.toArray c2) :: (Df, listOf R1.toArray c1) :: (98, tabObj ps9) :: (T, listOf (refs ths).toArray eT) :: (It, oI7) :: (LB, listOf #[Value.bool false, Value.bool true] 0) :: (f, ⟨f1, f2, .func f3, f4⟩) :: (c, occ) :: ths) := newsRot (newsCons ((hs27.2 _ hDwf.1).trans hDw) hDwf.1 hDwf.2 (fun q hq => ⟨(hs27.2 _ (N25 q hq).2.1).trans (k26.keep.get _ _ (notC (hJq q hq) noneIn) (N25 q hq).1), (N25 q hq).2⟩))
        have gs27 : s26.gens = s₁.gens := k26.gens.trans gs24
        have os27 : s26.os = s₁.os := k26.os.trans os24
        have hwl' : outs.length = ths.length := hwl.trans hrl
        have hBA : BA outs ((nums ths).map (keyW false)) := baOf (by simp [hwl']) fun k x e => by
          obtain ⟨t, q⟩ := hwo k x e
          have hk : k < ths.length := by have := (List.getElem?_eq_some_iff.mp e).1; omega
          refine ⟨t, ?_⟩
          rw [q]
          have e2 : ((nums ths).map (keyW false)).getD k [] = word ((nums ths).getD k 0).natAbs := by simp [hk, keyW]
          rw [e2]
        clear F24 N24 F25 N25 F26 hn27 hs27 hDw hDwn k26 hJo hJq hJf gs24 os24 hDwf
        walk_at "auto"
        refine iter_list_ (PySem.IsL.isList (n := (refs ths).length) (N27 (Dw, listOf outs.toArray (refs ths).length) (by simp)).1) ?_
        have hIg27 := freshN F27 (Heap.get?_none_of_le (Nat.le_refl _))
        have hIq27 := newsNe N27
        replace F27 := F27.push (itO Dw)
        replace N27 := N27.grown (fun b o e => Heap.get?_push_of_some (itO Dw) e)
        walk_at "auto"
        refine nsW_law (T := Dw) (ws := outs) (e := (refs ths).length) (bs := (nums ths).map (keyW false)) (P := P1) F27 N27 G0 (by simp) hBA ⟨rfl, Heap.get?_push_size _ rfl, hIg27.2, hIq27⟩ rfl rfl rfl (by omega) (by omega) (by simp only [depth_deeper]; decide) (by simp only [units_deeper]; decide) rfl (by rw [hwl']; exact hP1) ?_
        clear F27 N27
        intro s28 D28 c28 F28 N28 hD28 g28 o28
        replace g28 := g28.trans gs27
        replace o28 := o28.trans os27
        clear gs27 os27
        walk_at "runf"
        refine comp_ (cl := []) rfl (by decide) rfl (by decide) ?_
        walk_at "runf"
        have hR27 := (N28 (Df, listOf R1.toArray c1) (by simp)).1
        refine wpAny_pyIter_list (PySem.IsL.isList (n := c1) hR27) ?_
        have F29 := F28.push (itO Df)
        have N29 := N28.grown (fun b o e => Heap.get?_push_of_some (itO Df) e)
        have hJf27 := freshN F28 (Heap.get?_none_of_le (Nat.le_refl _))
        have hJq27 := newsNe N28
        refine ⟨[s28.heap.objs.size], wordComp (p := topProg) (loose := loose) (mg := mg) (mb := mb) (T := Df) (vs := R1) (e := c1) (num := fun k => (nums ths).getD (P1.getD k 0) 0) (fun _ => rfl) (fun _ => rfl) (fun _ => rfl) (gl117 _) (kp117 _) rfl rfl rfl (fun gc s' n t Q' G K hn hq => law_word_call G K hn (by simp only [depth_deeper]; decide) rfl hq) (Heap.get?_push_size _ rfl) (N29 (Df, listOf R1.toArray c1) (by simp)).1 (by rw [← eR1]; simp [stable_len hP1]; omega) (by rw [← eR1]; exact thingsR (fun q hq => ⟨(N29 q (by walk_at "mem")).1, hTO q hq⟩) (fun i hi => stable_lt hP1 hi)) (fun gc kg => G0.keeps fun b o e => kg.get _ _ (by simp; intro q; rw [q, hJf27.2] at e; cases e) (F29.keep _ _ e)) ?_⟩
        intro D30 outs27 s30 k30 hD30 hDn30 hol27 hok27
        have F30 := frKeep F29 k30.keep (notC (Ne.symm hJf27.1) noneIn) (allC hJf27.2 allNil)
        have N30 := newsKeep N29 k30.keep (fun q hq => by simpa using hJq27 q hq)
        have gs30 := k30.gens.trans g28
        have os30 := k30.os.trans o28
        have hD28' := k30.keep.get _ _ (notC (Nat.ne_of_lt (Heap.lt_size hD28)) noneIn) (Heap.get?_push_of_some (itO Df) hD28)
        clear F28 N28 F29 N29
        refine ne_same (PySem.IsL.isList (n := c28) hD28') (PySem.IsL.isList (n := R1.length) hD30) (by rw [hol27, ← eR1]; simp) (alikeW (N := ths.length) (fun i hi => stable_lt hP1 hi) hwl' hwo hok27) (by simp only [units_deeper]; decide) ?_
        walk_at "auto"
        refine nlW_law (T := Dw) (ws := outs) (e := (refs ths).length) (bs := (nums ths).map (keyW false)) (P := P2) F30 N30 G0 (by simp) hBA rfl rfl rfl rfl (by omega) (by omega) (by simp only [depth_deeper]; decide) (by simp only [units_deeper]; decide) rfl (by rw [hwl']; exact hP2) ?_
        clear F30 N30
        intro s31 D31 c31 F31 N31 hD31 g31 o31
        replace g31 := g31.trans gs30
        replace o31 := o31.trans os30
        clear gs30 os30
        walk_at "runf"
        refine comp_ (cl := []) rfl (by decide) rfl (by decide) ?_
        walk_at "runf"
        have hR30 := (N31 (Dl, listOf R2.toArray c2) (by simp)).1
        refine wpAny_pyIter_list (PySem.IsL.isList (n := c2) hR30) ?_
        have F32 := F31.push (itO Dl)
        have N32 := N31.grown (fun b o e => Heap.get?_push_of_some (itO Dl) e)
        have hJf30 := freshN F31 (Heap.get?_none_of_le (Nat.le_refl _))
        have hJq30 := newsNe N31
        refine ⟨[s31.heap.objs.size], wordComp (p := topProg) (loose := loose) (mg := mg) (mb := mb) (T := Dl) (vs := R2) (e := c2) (num := fun k => (nums ths).getD (P2.getD k 0) 0) (fun _ => rfl) (fun _ => rfl) (fun _ => rfl) (gl117 _) (kp117 _) rfl rfl rfl (fun gc s' n t Q' G K hn hq => law_word_call G K hn (by simp only [depth_deeper]; decide) rfl hq) (Heap.get?_push_size _ rfl) (N32 (Dl, listOf R2.toArray c2) (by simp)).1 (by rw [← eR2]; simp [stable_len hP2]; omega) (by rw [← eR2]; exact thingsR (fun q hq => ⟨(N32 q (by walk_at "mem")).1, hTO q hq⟩) (fun i hi => stable_lt hP2 hi)) (fun gc kg => G0.keeps fun b o e => kg.get _ _ (by simp; intro q; rw [q, hJf30.2] at e; cases e) (F32.keep _ _ e)) ?_⟩
        intro D33 outs30 s33 k33 hD33 hDn33 hol30 hok30
        have F33 := frKeep F32 k33.keep (notC (Ne.symm hJf30.1) noneIn) (allC hJf30.2 allNil)
        have N33 := newsKeep N32 k33.keep (fun q hq => by simpa using hJq30 q hq)
        have gs33 := k33.gens.trans g31
        have os33 := k33.os.trans o31
        have hD31' := k33.keep.get _ _ (notC (Nat.ne_of_lt (Heap.lt_size hD31)) noneIn) (Heap.get?_push_of_some (itO Dl) hD31)
        clear F31 N31 F32 N32
        refine ne_same (PySem.IsL.isList (n := c31) hD31') (PySem.IsL.isList (n := R2.length) hD33) (by rw [hol30, ← eR2]; simp) (alikeW (N := ths.length) (fun i hi => stable_lt hP2 hi) hwl' hwo hok30) (by simp only [units_deeper]; decide) ?_
        walk_at "auto"
        have hj01 : j + 1 = 1 := by
          rcases hbj with ⟨_, h⟩ | ⟨h, _⟩
          · omega
          · cases h
        have hps0 : ps9 = #[rawInt 180, rawInt 11, .ref c] := by
          rcases hbj with ⟨_, hj0⟩ | ⟨h, _⟩
          · rcases hps with ⟨_, h⟩ | ⟨h, _⟩ | h
            · rw [← hps', h]; rfl
            · omega
            · omega
          · cases h
        exact hT9 _ _ ⟨3 - (j + 1), by omega, j + 1, _, ocm8, _, ps9, oI7, rfl, by omega, F33, newsSub N33 (allC (by simp) (allC (by simp) (allC (by simp) (allC (by simp) (allC (by simp) (allC (by simp) fun q h => by walk_at "mem")))))), ⟨oI7, (N33 (It, oI7) (by simp)).1, hoI72⟩, hcm8, by walk_at "lv", .inr (.inl ⟨hj01, c, hps0⟩), gs33, os33⟩
  · have ej : j = 2 := by omega
    refine wpAny_pyNext_list_end (by rfl) hit6 hLBl (by rw [ej]; rfl) fun h' hx => ?_
    dsimp only
    exact hZ9 _ ⟨rfl, ⟨_, frExt F6 hx nI.2.1 nI.2.2⟩, ⟨ps, hx _ _ dIt.2.2.1 (N6 (98, tabObj ps) (by simp)).1⟩, gs6, os6⟩)
end
end
end
end
end Mine
theorem PySem.Challenge.cw_mr0270_01_holds : PySem.Challenge.rw_mr0270_01.Holds :=
  Mine.tlaw
