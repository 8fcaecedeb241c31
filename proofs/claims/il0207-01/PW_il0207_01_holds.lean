import PyProof.Rows.All
import Wide.All
import OpenK.AllK
import Wide.FinOn
import KE.KDictList
import KE.KDictOf
import Lean
import PySem.Challenge.RW_il0207_01
open PySem PySem.W PyProof.Rows PySem.Calls
set_option Elab.async false
set_option linter.unusedVariables false
set_option linter.unusedSimpArgs false
set_option maxRecDepth 100000
set_option maxHeartbeats 4000000
namespace Mine
/-! ## The walk's local rules, told by words: a stack machine reads them -/
open Lean in
def wordAt (n : String) : Ident := mkIdent ((n.splitOn ".").foldl Name.str Name.anonymous)
open Lean in
def readTerm (s : String) : MacroM Term := do
  let mut st : List Term := []
  for t in s.splitOn " " do
    match t.toList with
    | ['_'] => st := (← `(_)) :: st
    | ['?'] => st := (← `(?_)) :: st
    | ['@'] => st := (← `((by assumption))) :: st
    | '~' :: r => st := (← `((by walk_at $(Syntax.mkStrLit (String.ofList r))))) :: st
    | '"' :: r => st := Syntax.mkStrLit (String.ofList r) :: st
    | '$' :: r =>
      let n := r.length + 1
      match st.drop n with
      | f :: more => st := Syntax.mkApp f (st.take n).reverse.toArray :: more
      | [] => Macro.throwUnsupported
    | _ => st := wordAt t :: st
  match st with
  | [e] => return e
  | _ => Macro.throwUnsupported
open Lean in
def readRule (l : String) : MacroM (TSyntax `tactic) := do
  match l.splitOn "|" with
  | [p, t, k] =>
    let mut r ← match k.toList with
      | 'r' :: _ => do `(tactic| with_reducible refine $(← readTerm t))
      | 'e' :: _ => do `(tactic| with_reducible exact $(← readTerm t))
      | 'd' :: _ => do `(tactic| refine $(← readTerm t))
      | _ => `(tactic| walk_at "nm")
    for _ in [0:((k.toList.getD 1 '0').toNat - 48)] do r ← `(tactic| ($r; intro _))
    if p != "" then r ← `(tactic| ((with_reducible show $(← readTerm p)); $r))
    return r
  | _ => Macro.throwUnsupported
open Lean in
def readRules (s : String) : MacroM (TSyntax `tactic) := do
  let ts ← (s.splitOn "\n").toArray.mapM readRule
  `(tactic| first $[| $ts:tactic]*)
local macro_rules | `(tactic| walk_at "gl") => readRules "|KF.g_fspath @ $|e0\n|KF.g_getSep @ $|e0\n|KF.g_join @ $|e0\n|KF.g_splitroot @ $|e0\n|KF.g_dirname @ $|e0\n|KF.g_normpath @ $|e0\n|KF.g_commonpath @ $|e0\n|KF.g_kind @ $|e0\n|KF.g_fspath_ @ $|e0\n|KF.g_split @ $|e0\n|KF.g_ancestry @ $|e0\n|KF.g_dedupe @ $|e0\n|KF.g_filterfalse @ $|e0\n|KF.g_difference @ $|e0\n|KF.g_lawRow @ $|e0\n|KF.g_lawTold @ $|e0\n|KF.g_lawClimbed @ $|e0\n|KF.g_law @ $|e0\n|@|e0"
local macro_rules | `(tactic| walk_at "bl") => readRules "|KF.b_type @ $|e0\n|KF.b_str @ $|e0\n|KF.b_bytes @ $|e0\n|KF.b_issubclass @ $|e0\n|KF.b_isinstance @ $|e0\n|KF.b_len @ $|e0\n|KF.b_tuple @ $|e0\n|KF.b_map @ $|e0\n|KF.b_min @ $|e0\n|KF.b_max @ $|e0\n|KF.b_enumerate @ $|e0\n|KF.b_set @ $|e0\n|KF.b_iter @ $|e0\n|KF.b_next @ $|e0\n|KF.b_bool @ $|e0\n|KF.b_range @ $|e0\n|KF.b_abs @ $|e0\n|KF.b_list @ $|e0\n|KF.b_TypeError @ $|e0\n|KF.b_ValueError @ $|e0\n|KF.b_AttributeError @ $|e0\n|KF.b_BytesWarning @ $|e0"
local macro_rules | `(tactic| walk_at "lk") => `(tactic| first | exact rfl | assumption | (refine Eq.trans (if_neg (by decide)) ?_; walk_at "lk"))
local macro_rules | `(tactic| walk_at "nm") => `(tactic| first
  | refine $(wordAt "n_loc") (by assumption) (by walk_at "lk") ?_
  | refine $(wordAt "n_cell") (by assumption) rfl (by walk_at "mem") ?_
  | refine $(wordAt "n_glob") (by assumption) (by assumption) (by walk_at "gl") ?_
  | refine $(wordAt "n_blt") (by assumption) (by assumption) (by walk_at "bl") (by first | boot_fast | boot_by_name | kernel_rfl) ?_)
local macro_rules | `(tactic| walk_at "mem") => `(tactic| first | with_reducible exact List.mem_cons_self | (with_reducible refine List.mem_cons_of_mem _ ?_; walk_at "mem"))
local macro_rules | `(tactic| walk_at "up") => `(tactic| first | with_reducible exact $(wordAt "Up.head") | (with_reducible refine $(wordAt "Up.tail") ?_; walk_at "up"))
local macro_rules | `(tactic| walk_at "sub") => `(tactic| first | with_reducible exact List.Sublist.refl _ | with_reducible exact List.nil_sublist _ | ((with_reducible refine List.Sublist.cons_cons _ ?_); walk_at "sub") | ((with_reducible refine List.Sublist.cons _ ?_); walk_at "sub"))
local macro_rules | `(tactic| walk_at "ln") => `(tactic| first | (with_reducible assumption) | omega | (with_reducible refine Nat.le_trans (PySem.Txt.slice_le _ _ _) ?_; walk_at "ln") | (with_reducible refine Nat.le_trans (PyProof.Rows.len_rstripChars _ _) ?_; walk_at "ln") | (simp only [Str.length_append]; first | omega | (simp only [show Str.length (Str.ofString "/") = 1 from by decide]; omega)) | decide)
local macro_rules | `(tactic| walk_at "ok") => `(tactic| first | exact $(wordAt "Ok.deeperM") (by assumption) (by decide) | exact $(wordAt "Ok.monoM") (by assumption) (by decide) | exact $(wordAt "Ok.in1M") ($(wordAt "Ok.deeperM") (by assumption) (Nat.le_refl _)) (by decide) | exact $(wordAt "Ok.in1M") (by assumption) (by decide))
local macro_rules | `(tactic| walk_at "kin") => `(tactic| exact ($(wordAt "Cx.keeps") (by assumption) ($(wordAt "Sx.old") (by assumption))).kin)
local macro_rules | `(tactic| walk_at "fn") => readRules "|KF.fspath @ $|e0\n|KF.getSep @ $|e0\n|KF.join @ $|e0\n|KF.splitroot @ $|e0\n|KF.dirname @ $|e0\n|KF.normpath @ $|e0\n|KF.commonpath @ $|e0\n|KF.kind_ @ $|e0\n|KF.fspath_ @ $|e0\n|KF.split @ $|e0\n|KF.ancestry @ $|e0\n|KF.difference @ $|e0\n|KF.lawRow @ $|e0\n|KF.lawTold @ $|e0\n|KF.lawClimbed @ $|e0\n|KF.law @ $|e0"
local macro_rules | `(tactic| walk_at "m") => readRules "|ite_neg Bool.false_ne_true ? $$|r0\n|ite_pos rfl ? $$|r0\n|wpAny_execs_nil ? $|r0\n|wpAny_execs_cons ? $|r0\nwpAny _ _ exec Stmt.Assign List.cons Expr.Name _ _ $$ List.nil $$ _ _ $$$ _ $$ _ _ _ $$$$$$|wpAny_Assign_Name ? $|d0\n|wpAny_If ? $|r0\n|wpAny_Return_some ? $|r0\nwpAny _ _ eval Expr.Compare _ List.cons _ List.nil $$ List.cons _ List.nil $$ _ $$$$ _ $$ _ _ _ $$$$$$|wpAny_Compare1 ? $|d0\n|wpAny_BinOp ? $|r0\n|wpAny_And2 ? $|r0\n|wpAny_Or2 ? $|r0\n|wpAny_IfExp ? $|r0\n|wpAny_UnaryOp ? $|r0\n|c_int ? $|r2\n|wpAny_Constant_bool ? $|r0\n|c_str ? $|r2\nwpAny _ _ isTrue Expr.Compare _ List.cons _ List.nil $$ List.cons _ List.nil $$ _ $$$$ _ _ $$$ _ _ _ $$$$$$|wpAny_isTrue_Compare1 ? $|d0\n|isTrue_not ? $|r0\n|isTrue_and ? $|r0\n|isTrue_or ? $|r0\n|isTrue_and_nil ? $|r0\n|isTrue_or_nil ? $|r0\nwpAny _ _ eval Expr.Name _ _ $$ _ $$ _ _ _ $$$$$$||n0\nwpAny _ _ storeName _ _ _ $$$ _ _ _ $$$$$$|st_loc @ ? $$|d3\nwpAny _ _ eval Expr.Call Expr.Attribute _ _ _ $$$ _ _ _ $$$$ _ $$ _ _ _ $$$$$$|MethodCall_ ? $|d0\nwpAny _ _ eval Expr.Call _ _ _ _ $$$$ _ $$ _ _ _ $$$$$$|Call_ ? $|d0\n|Tuple_ ? $|r0\n|List_ ? $|r0\n|args_nil ? $|r0\nwpAny _ _ spliced backTo _ starEach List.cons _ _ $$ _ $$ $$ $ _ _ _ $$$$$$|args_cons ? $|d0\nwpAny _ _ isTrue _ _ _ $$$ _ _ _ $$$$$$|isTrue_plain ? $|d0\nwpAny _ _ newTuple _ $ _ _ _ $$$$$$|new_tuple @ ? $$|d3\nwpAny _ _ newList _ $ _ _ _ $$$$$$|new_list @ ? $$|d3\nwpAny _ _ callWith _ Value.ref _ $ List.nil _ _ $$$$$ _ _ _ $$$$$$|cw_fn ~fn ? $$|d0\nAnd Frag.In _ _ $$ _ $$|And.intro ~kin ? $$|d0\nwpAny _ _ callWith _ Value.type _ $ List.nil _ _ $$$$$ _ _ _ $$$$$$|PyProof.Rows.callWith_type1 ? $|d0\nwpAny _ _ callWith _ Value.builtin _ $ List.nil _ _ $$$$$ _ _ _ $$$$$$|PyProof.Rows.callWith_builtin1 ? $|d0\nwpAny _ _ callWith _ Value.builtin _ $ List.cons _ List.nil $$ _ _ $$$$$ _ _ _ $$$$$$|callWith_method1 ? $|d0\nwpAny _ _ callWith _ Value.builtin _ $ List.cons _ List.nil $$ _ _ $$$$$ _ _ _ $$$$$$|callWith_method0 ? $|d0\n|not_of ? $|r0\n|wpAny_truthy_bool ? $|r0\n|Subscript_ ? $|r0\n|wpAny_Slice ? $|r0\n|evalPart_none_step ? $|r0\n|evalPart_some_step ? $|r0\nwpAny _ _ subscriptTail _ Expr.Slice none some _ $ none _ $$$$ Value.str _ _ $$ Value.ref _ $ $$$$ _ _ _ $$$$$$|sl_ns @ ~ln ? $$$|d4\nwpAny _ _ subscriptTail _ Expr.Slice some _ $ none none _ $$$$ Value.str _ _ $$ Value.ref _ $ $$$$ _ _ _ $$$$$$|sl_sn @ ~ln ? $$$|d4\nwpAny _ _ subscriptTail _ Expr.Slice some _ $ some _ $ none _ $$$$ Value.str _ _ $$ Value.ref _ $ $$$$ _ _ _ $$$$$$|sl_ss @ ~ln ? $$$|d4\n|GM.startswith ? $|r0\n|GM.endswith ? $|r0\n|GM.split ? $|r0\n|GM.join ? $|r0\n|GM.rstrip ? $|r0\n|GM.rfind ? $|r0\nwpAny _ _ call Value.builtin \"str.startswith $ _ $$ _ _ _ $$$$$$|SC.startswith ? $|d0\nwpAny _ _ call Value.builtin \"str.endswith $ _ $$ _ _ _ $$$$$$|SC.endswith ? $|d0\nwpAny _ _ call Value.builtin \"str.rfind $ _ $$ _ _ _ $$$$$$|c_rfind ? $|d2\nwpAny _ _ call Value.builtin \"str.rstrip $ _ $$ _ _ _ $$$$$$|c_rstrip ~ln ? $$|d2\n|c_isi ? $|r1\n|c_addi ? $|r2\nwpAny _ _ call Value.builtin \"len $ List.cons Value.str _ _ $$ List.nil $$ $$ _ _ _ $$$$$$|c_len ~ln ? $$|d2\nwpAny _ _ truthy Value.str _ _ $$ $ _ _ _ $$$$$$|tr_str ~ln ? $$|d1\n|PyProof.Rows.eq_str ? $|r0\n|PyProof.Rows.ne_str ? $|r0\nwpAny _ _ binaryOp Operator.Add Value.str _ _ $$ Value.str _ _ $$ $$$ _ _ _ $$$$$$|ad_str ~ln ~ln ? $$$|d2\nwpAny _ _ inplaceOp Operator.Add Value.str _ _ $$ Value.str _ _ $$ $$$ _ _ _ $$$$$$|iad_str ~ln ~ln ? $$$|d2\nwpAny _ _ exec Stmt.AugAssign Expr.Name _ _ $$ _ _ _ $$$$ _ $$ _ _ _ $$$$$$|wpAny_AugAssign_Name ? $|d0\nwpAny _ _ loadName _ _ $$ _ _ _ $$$$$$|n_locL @ ~lk ? $$$|d0\nwpAny _ _ exec Stmt.Try _ List.cons _ _ $$ _ List.nil _ $$$$$ _ $$ _ _ _ $$$$$$|wpAny_Try_except ? $|d0\nwpAny _ _ exec Stmt.For _ _ _ _ _ $$$$$ _ $$ _ _ _ $$$$$$|wpAny_For ? $|d0\nwpAny _ _ exec Stmt.Assign List.cons Expr.Tuple _ _ _ $$$ List.nil $$ _ _ $$$ _ $$ _ _ _ $$$$$$|PyProof.Rows.Assign_Tuple ? $|d0\nwpAny _ _ assignInOrder _ List.cons _ _ $$ $$ _ _ _ $$$$$$|assignInOrder_cons ? $|d0\nwpAny _ _ assignInOrder _ List.nil $$ _ _ _ $$$$$$|assignInOrder_nil ? $|d0\nwpAny _ _ assign Expr.Name _ _ $$ _ _ $$$ _ _ _ $$$$$$|wpAny_assign_Name ? $|d0\nwpAny _ _ exec Stmt.Expr _ _ $$ _ $$ _ _ _ $$$$$$|wpAny_Expr ? $|d0\n|wpAny_Continue ? $|r0\n|c_neg ? $|r2\nwpAny _ _ getMethod Value.ref _ $ Str.ofString \"append $ _ $$$ _ _ _ $$$$$$|gm_S @ ~mem PySem.F.slot_list_append PySem.F.type_list_append ? $$$$$|d0\nwpAny _ _ getMethod Value.ref _ $ Str.ofString \"append $ _ $$$ _ _ _ $$$$$$|gm_list @ ~mem PySem.F.slot_list_append PySem.F.type_list_append ? $$$$$|d0\nwpAny _ _ getMethod Value.ref _ $ Str.ofString \"pop $ _ $$$ _ _ _ $$$$$$|gm_S @ ~mem PySem.F.slot_list_pop PySem.F.type_list_pop ? $$$$$|d0\nwpAny _ _ getMethod Value.ref _ $ Str.ofString \"pop $ _ $$$ _ _ _ $$$$$$|gm_list @ ~mem PySem.F.slot_list_pop PySem.F.type_list_pop ? $$$$$|d0\nwpAny _ _ getMethod Value.ref _ $ Str.ofString \"extend $ _ $$$ _ _ _ $$$$$$|gm_S @ ~mem PySem.F.slot_list_extend PySem.F.type_list_extend ? $$$$$|d0\nwpAny _ _ getMethod Value.ref _ $ Str.ofString \"extend $ _ $$$ _ _ _ $$$$$$|gm_list @ ~mem PySem.F.slot_list_extend PySem.F.type_list_extend ? $$$$$|d0"
local macro_rules | `(tactic| walk_at "mm") => `(tactic| repeat (walk_at "m"))
section
/-! ## The state: a frozen heap `g`, the frame's dict at `L`, a ledger `mu` of objects that may still turn -/

abbrev Keep (g h : Heap) : Prop := ∀ b o, g.get? b = some o → h.get? b = some o
theorem Keep.rfl' {g : Heap} : Keep g g := fun _ _ e => e
theorem Keep.trans {g h k : Heap} (x : Keep g h) (y : Keep h k) : Keep g k := fun b o e => y b o (x b o e)
theorem Keep.push {g h : Heap} (x : Keep g h) (o : Obj) : Keep g (h.push o) := fun b o' e => Heap.get?_push_of_some o (x b o' e)

abbrev Mut := List (Addr × (Obj → Prop))

structure Sx (g₀ g : Heap) (L : Addr) (m : Str → Option Value) (mu : Mut) (h : Heap) : Prop where
  base : Keep g₀ g
  ns : h.Ns L m
  get : ∀ p ∈ mu, ∃ o, h.get? p.1 = some o ∧ p.2 o
  keep : Keep g h
  gL : g.get? L = none
  gm : ∀ p ∈ mu, g.get? p.1 = none
  nL : ∀ p ∈ mu, p.1 ≠ L
  nd : (mu.map (·.1)).Pairwise (· ≠ ·)
theorem Sx.old {g₀ g h : Heap} {L : Addr} {m : Str → Option Value} {mu : Mut} (S : Sx g₀ g L m mu h) : Keep g₀ h := S.base.trans S.keep

structure Cx (K : Frag) (g : Heap) : Prop where
  kin : K.In g
  top : ∃ p loose mg mb, TopRead p loose mg mb g
theorem Cx.keeps {K : Frag} {g h : Heap} (C : Cx K g) (k : Keep g h) : Cx K h :=
  ⟨C.kin.keeps k, let ⟨p, l, mg, mb, T⟩ := C.top; ⟨p, l, mg, mb, T.keeps k⟩⟩
theorem Cx.noLimit {K : Frag} {g : Heap} (C : Cx K g) : g.NoLimit := let ⟨_, _, _, _, T⟩ := C.top; T.nolimit

section
variable {g₀ g g' h h' : Heap} {L : Addr} {m m' : Str → Option Value} {mu : Mut} {K : Frag}

theorem ns_keep {a : Addr} (n : h.Ns a m) (k : Keep h h') : h'.Ns a m := let ⟨o, es, ep, e, r⟩ := n; ⟨o, es, ep, k _ _ e, r⟩

theorem Sx.grow (S : Sx g₀ g L m mu h) (k : Keep h h') : Sx g₀ g L m mu h' where
  base := S.base
  ns := ns_keep S.ns k
  get := fun p hp => let ⟨o, e, q⟩ := S.get p hp; ⟨o, k _ _ e, q⟩
  keep := S.keep.trans k
  gL := S.gL
  gm := S.gm
  nL := S.nL
  nd := S.nd

theorem Sx.enter (n : h'.Ns h.objs.size m) (k : Keep h h') : Sx h h h.objs.size m [] h' where
  base := Keep.rfl'
  ns := n
  get := fun _ hp => nomatch hp
  keep := k
  gL := Heap.get?_none_of_le (Nat.le_refl _)
  gm := fun _ hp => nomatch hp
  nL := fun _ hp => nomatch hp
  nd := .nil

theorem Sx.store (S : Sx g₀ g L m mu h) (n : h'.Ns L m') (hs : Heap.SameBut L h h') : Sx g₀ g L m' mu h' where
  base := S.base
  ns := n
  get := fun p hp => let ⟨o, e, q⟩ := S.get p hp; ⟨o, (hs.2 _ (S.nL p hp)).trans e, q⟩
  keep := fun b o e => (hs.2 b (fun q => by rw [q, S.gL] at e; cases e)).trans (S.keep b o e)
  gL := S.gL
  gm := S.gm
  nL := S.nL
  nd := S.nd

theorem Sx.alloc (S : Sx g₀ g L m mu h) {o : Obj} {P : Obj → Prop} (hf : o.isFreed = false) (q : P o) : Sx g₀ g L m ((h.objs.size, P) :: mu) (h.push o) where
  base := S.base
  ns := ns_keep S.ns (Keep.rfl'.push o)
  get := fun p hp => by
    cases hp with
    | head => exact ⟨o, Heap.get?_push_size _ hf, q⟩
    | tail _ hp => obtain ⟨o', e, r⟩ := S.get p hp; exact ⟨o', Heap.get?_push_of_some o e, r⟩
  keep := S.keep.push o
  gL := S.gL
  gm := fun p hp => by
    cases hp with
    | head =>
      cases e : g.get? h.objs.size with
      | none => rfl
      | some o' => exact absurd (Heap.lt_size (S.keep _ _ e)) (Nat.lt_irrefl _)
    | tail _ hp => exact S.gm p hp
  nL := fun p hp => by
    cases hp with
    | head => exact Nat.ne_of_gt S.ns.lt
    | tail _ hp => exact S.nL p hp
  nd := by
    refine List.Pairwise.cons (fun b hb => ?_) S.nd
    obtain ⟨p, hp, rfl⟩ := List.mem_map.mp hb
    obtain ⟨o', e, _⟩ := S.get p hp
    exact Nat.ne_of_gt (Heap.lt_size e)

/-- a fresh object that a callee has made comes onto the ledger -/
theorem Sx.adopt (S : Sx g₀ g L m mu h) (k : Keep h h') {r : Addr} {o : Obj} {P : Obj → Prop} (hn : h.get? r = none) (e : h'.get? r = some o) (q : P o) : Sx g₀ g L m ((r, P) :: mu) h' where
  base := S.base
  ns := ns_keep S.ns k
  get := fun p hp => by
    cases hp with
    | head => exact ⟨o, e, q⟩
    | tail _ hp => obtain ⟨o', e, r⟩ := S.get p hp; exact ⟨o', k _ _ e, r⟩
  keep := S.keep.trans k
  gL := S.gL
  gm := fun p hp => by
    cases hp with
    | head =>
      cases e' : g.get? r with
      | none => rfl
      | some o' => have := S.keep _ _ e'; rw [hn] at this; cases this
    | tail _ hp => exact S.gm p hp
  nL := fun p hp => by
    cases hp with
    | head =>
      intro q
      obtain ⟨ol, _, _, e', _⟩ := S.ns
      have q : r = L := q
      rw [← q, hn] at e'; cases e'
    | tail _ hp => exact S.nL p hp
  nd := by
    refine List.Pairwise.cons (fun b hb => ?_) S.nd
    obtain ⟨p, hp, rfl⟩ := List.mem_map.mp hb
    obtain ⟨o', e', _⟩ := S.get p hp
    intro q
    have q : r = p.1 := q
    rw [← q, hn] at e'; cases e'

theorem Sx.drop {p : Addr × (Obj → Prop)} (S : Sx g₀ g L m (p :: mu) h) : Sx g₀ g L m mu h where
  base := S.base
  ns := S.ns
  get := fun p hp => S.get p (.tail _ hp)
  keep := S.keep
  gL := S.gL
  gm := fun p hp => S.gm p (.tail _ hp)
  nL := fun p hp => S.nL p (.tail _ hp)
  nd := (List.pairwise_cons.mp S.nd).2

theorem Sx.swap {p q : Addr × (Obj → Prop)} (S : Sx g₀ g L m (p :: q :: mu) h) : Sx g₀ g L m (q :: p :: mu) h where
  base := S.base
  ns := S.ns
  get := fun x hx => S.get x (by simp only [List.mem_cons] at hx ⊢; rcases hx with h | h | h <;> simp [h])
  keep := S.keep
  gL := S.gL
  gm := fun x hx => S.gm x (by simp only [List.mem_cons] at hx ⊢; rcases hx with h | h | h <;> simp [h])
  nL := fun x hx => S.nL x (by simp only [List.mem_cons] at hx ⊢; rcases hx with h | h | h <;> simp [h])
  nd := by
    have := S.nd
    simp only [List.map_cons, List.pairwise_cons, List.mem_cons] at this ⊢
    obtain ⟨a, b, c⟩ := this
    exact ⟨fun x hx => by rcases hx with rfl | hx; exact (a _ (.inl rfl)).symm; exact b _ hx, fun x hx => a _ (.inr hx), c⟩

/-- the ledger's permutation -/
theorem Sx.perm {mu' : Mut} (S : Sx g₀ g L m mu h) (e : mu.Perm mu') : Sx g₀ g L m mu' h where
  base := S.base
  ns := S.ns
  get := fun x hx => S.get x (e.mem_iff.mpr hx)
  keep := S.keep
  gL := S.gL
  gm := fun x hx => S.gm x (e.mem_iff.mpr hx)
  nL := fun x hx => S.nL x (e.mem_iff.mpr hx)
  nd := ((e.map Prod.fst).pairwise_iff (fun h => Ne.symm h)).mp S.nd

theorem hide_get {as : List Addr} {b : Addr} {o : Obj} (e : h.get? b = some o) (n : b ∉ as) : (hideAll h as).get? b = some o := hideAll_get as e n

/-- all that will not turn any more is frozen -/
theorem Sx.freeze (S : Sx g₀ g L m mu h) : ∃ g', Keep g g' ∧ Sx g₀ g' L m mu h ∧ ∀ b o, h.get? b = some o → b ≠ L → (∀ p ∈ mu, p.1 ≠ b) → g'.get? b = some o := by
  have kk : Keep g (hideAll h (L :: mu.map (·.1))) := fun b o e => by
    refine hide_get (S.keep b o e) fun q => ?_
    rcases List.mem_cons.mp q with q | q
    · rw [q, S.gL] at e; cases e
    · obtain ⟨p, hp, rfl⟩ := List.mem_map.mp q
      rw [S.gm p hp] at e; cases e
  refine ⟨hideAll h (L :: mu.map (·.1)), kk, ?_, fun b o e n1 n2 => ?_⟩
  · exact ⟨S.base.trans kk, S.ns, S.get, fun b o e => of_hideAll _ e, hideAll_none _ (.head _), fun p hp => hideAll_none _ (.tail _ (List.mem_map_of_mem hp)), S.nL, S.nd⟩
  · refine hide_get e fun q => ?_
    rcases List.mem_cons.mp q with q | q
    · exact n1 q
    · obtain ⟨p, hp, rfl⟩ := List.mem_map.mp q
      exact n2 p hp rfl

/-- one object of the ledger turns (it stands ahead) -/
theorem Sx.set {a : Addr} {P P' : Obj → Prop} {o' : Obj} (S : Sx g₀ g L m ((a, P) :: mu) h) (hs : Heap.SameBut a h h') (e : h'.get? a = some o') (q : P' o') : Sx g₀ g L m ((a, P') :: mu) h' where
  base := S.base
  ns := S.ns.sameBut hs (Ne.symm (S.nL _ (.head _)))
  get := fun p hp => by
    cases hp with
    | head => exact ⟨o', e, q⟩
    | tail _ hp =>
      obtain ⟨o, e, r⟩ := S.get p (.tail _ hp)
      refine ⟨o, (hs.2 _ ?_).trans e, r⟩
      exact Ne.symm ((List.pairwise_cons.mp S.nd).1 _ (List.mem_map_of_mem hp))
  keep := fun b o e => (hs.2 b (fun q => by have := S.gm _ (.head _); rw [q] at e; rw [e] at this; cases this)).trans (S.keep b o e)
  gL := S.gL
  gm := fun p hp => by
    cases hp with
    | head => exact S.gm (a, P) (.head _)
    | tail _ hp => exact S.gm p (.tail _ hp)
  nL := fun p hp => by
    cases hp with
    | head => exact S.nL (a, P) (.head _)
    | tail _ hp => exact S.nL p (.tail _ hp)
  nd := S.nd
end

/-- one object of the ledger turns, wherever it stands -/
inductive Up (a : Addr) (P P' : Obj → Prop) : Mut → Mut → Prop
  | head {r : Mut} : Up a P P' ((a, P) :: r) ((a, P') :: r)
  | tail {p : Addr × (Obj → Prop)} {r r' : Mut} : Up a P P' r r' → Up a P P' (p :: r) (p :: r')
theorem Up.mem {a : Addr} {P P' : Obj → Prop} {r r' : Mut} (u : Up a P P' r r') : (a, P) ∈ r := by
  induction u with
  | head => exact .head _
  | tail _ ih => exact .tail _ ih
theorem Up.keys {a : Addr} {P P' : Obj → Prop} {r r' : Mut} (u : Up a P P' r r') : r'.map (·.1) = r.map (·.1) := by
  induction u with
  | head => rfl
  | tail _ ih => simp only [List.map_cons, ih]
theorem Up.cases {a : Addr} {P P' : Obj → Prop} {r r' : Mut} (u : Up a P P' r r') (nd : (r.map (·.1)).Pairwise (· ≠ ·)) : ∀ p ∈ r', p = (a, P') ∨ (p.1 ≠ a ∧ p ∈ r) := by
  induction u with
  | head =>
    intro p hp
    cases hp with
    | head => exact .inl rfl
    | tail _ hp => exact .inr ⟨Ne.symm ((List.pairwise_cons.mp nd).1 _ (List.mem_map_of_mem hp)), .tail _ hp⟩
  | tail u ih =>
    intro p hp
    cases hp with
    | head => exact .inr ⟨(List.pairwise_cons.mp nd).1 _ (List.mem_map_of_mem u.mem), .head _⟩
    | tail _ hp => rcases ih (List.pairwise_cons.mp nd).2 p hp with h | ⟨h, k⟩; exact .inl h; exact .inr ⟨h, .tail _ k⟩
theorem Sx.upd {g₀ g h h' : Heap} {L a : Addr} {m : Str → Option Value} {mu mu' : Mut} {P P' : Obj → Prop} {o' : Obj} (S : Sx g₀ g L m mu h) (u : Up a P P' mu mu') (hs : Heap.SameBut a h h') (e : h'.get? a = some o') (q : P' o') : Sx g₀ g L m mu' h' where
  base := S.base
  ns := S.ns.sameBut hs (Ne.symm (S.nL _ u.mem))
  get := fun p hp => by
    rcases u.cases S.nd p hp with rfl | ⟨n, hp⟩
    · exact ⟨o', e, q⟩
    · obtain ⟨o, e, r⟩ := S.get p hp
      exact ⟨o, (hs.2 _ n).trans e, r⟩
  keep := fun b o e => (hs.2 b (fun q => by have := S.gm _ u.mem; rw [q] at e; rw [e] at this; cases this)).trans (S.keep b o e)
  gL := S.gL
  gm := fun p hp => by
    rcases u.cases S.nd p hp with rfl | ⟨n, hp⟩
    · exact S.gm (a, P) u.mem
    · exact S.gm p hp
  nL := fun p hp => by
    rcases u.cases S.nd p hp with rfl | ⟨n, hp⟩
    · exact S.nL (a, P) u.mem
    · exact S.nL p hp
  nd := by rw [u.keys]; exact S.nd

/-! ## What an object of the ledger is -/
def IsL (vs : List Value) (o : Obj) : Prop := ∃ n, o = ({ cls := .type "list", data := .seq vs.toArray n } : Obj)
def IsC (v : Option Value) (o : Obj) : Prop := o.data = .cell v
def IsT (vs : List Value) (o : Obj) : Prop := ∃ n, o = ({ cls := .type "tuple", data := .seq vs.toArray n } : Obj)

section
variable {g₀ g h : Heap} {L a : Addr} {m : Str → Option Value} {mu : Mut} {vs : List Value} {v : Option Value}
theorem Sx.list (S : Sx g₀ g L m mu h) (hm : (a, IsL vs) ∈ mu) : h.IsList a vs.toArray := let ⟨o, e, n, q⟩ := S.get _ hm; ⟨o, e, by rw [q], n, by rw [q]⟩
theorem Sx.tup (S : Sx g₀ g L m mu h) (hm : (a, IsT vs) ∈ mu) : IsTup h a vs.toArray := let ⟨o, e, n, q⟩ := S.get _ hm; ⟨o, e, by rw [q], n, by rw [q]⟩
theorem Sx.cell (S : Sx g₀ g L m mu h) (hm : (a, IsC v) ∈ mu) : h.IsCell a v := let ⟨o, e, d⟩ := S.get _ hm; ⟨o, e, d⟩
end

/-- a frame's dict on the ledger -/
def IsNs (m : Str → Option Value) (o : Obj) : Prop := ∃ es ep, o.data = .dict es ep ∧ StrKeys es ∧ ∀ name, nsFind es name = m name

section
variable {g₀ g h h' : Heap} {L C : Addr} {m mc : Str → Option Value} {mu mu' : Mut}
/-- another frame comes to the front -/
theorem Sx.front (S : Sx g₀ g L m ((C, IsNs mc) :: mu) h) : Sx g₀ g C mc ((L, IsNs m) :: mu) h where
  base := S.base
  ns := let ⟨o, e, es, ep, r⟩ := S.get _ (.head _); ⟨o, es, ep, e, r⟩
  get := fun p hp => by
    cases hp with
    | head => obtain ⟨o, es, ep, e, r⟩ := S.ns; exact ⟨o, e, es, ep, r⟩
    | tail _ hp => exact S.get p (.tail _ hp)
  keep := S.keep
  gL := S.gm _ (.head _)
  gm := fun p hp => by
    cases hp with
    | head => exact S.gL
    | tail _ hp => exact S.gm p (.tail _ hp)
  nL := fun p hp => by
    cases hp with
    | head => exact Ne.symm (S.nL _ (.head _))
    | tail _ hp => exact Ne.symm ((List.pairwise_cons.mp S.nd).1 _ (List.mem_map_of_mem hp))
  nd := by
    refine List.Pairwise.cons (fun b hb => ?_) (List.pairwise_cons.mp S.nd).2
    obtain ⟨p, hp, rfl⟩ := List.mem_map.mp hb
    exact Ne.symm (S.nL p (.tail _ hp))
/-- an object of the ledger is given up -/
theorem Sx.lose {P : Obj → Prop} (S : Sx g₀ g L m ((C, P) :: mu) h) (hs : Heap.SameBut C h h') : Sx g₀ g L m mu h' where
  base := S.base
  ns := S.ns.sameBut hs (Ne.symm (S.nL _ (.head _)))
  get := fun p hp => let ⟨o, e, r⟩ := S.get p (.tail _ hp); ⟨o, (hs.2 _ (Ne.symm ((List.pairwise_cons.mp S.nd).1 _ (List.mem_map_of_mem hp)))).trans e, r⟩
  keep := fun b o e => (hs.2 b (fun q => by have := S.gm _ (.head _); rw [q] at e; rw [e] at this; cases this)).trans (S.keep b o e)
  gL := S.gL
  gm := fun p hp => S.gm p (.tail _ hp)
  nL := fun p hp => S.nL p (.tail _ hp)
  nd := (List.pairwise_cons.mp S.nd).2
theorem Sx.sub (S : Sx g₀ g L m mu h) (u : List.Sublist mu' mu) : Sx g₀ g L m mu' h where
  base := S.base
  ns := S.ns
  get := fun p hp => S.get p (u.subset hp)
  keep := S.keep
  gL := S.gL
  gm := fun p hp => S.gm p (u.subset hp)
  nL := fun p hp => S.nL p (u.subset hp)
  nd := S.nd.sublist (u.map _)
end

/-! ## Room -/
structure Ok (A : Around) (n : Nat) : Prop where
  handled : A.handled = none
  depth : A.depth + 4 * n < recursionLimit
  units : A.units + 8 * n < cLine
theorem Ok.room {A : Around} {n : Nat} (O : Ok A n) : A.depth < recursionLimit := Nat.lt_of_le_of_lt (Nat.le_add_right _ _) O.depth
theorem Ok.less {A : Around} {n : Nat} (O : Ok A (n + 1)) : Ok A n := ⟨O.handled, by have := O.depth; omega, by have := O.units; omega⟩
theorem Ok.deeper {A : Around} {n : Nat} {env : Env} (O : Ok A (n + 1)) : Ok (A.deeper env) n :=
  ⟨O.handled, by show A.depth + 1 + 4 * n < recursionLimit; have := O.depth; omega, by show A.units + 3 + 8 * n < cLine; have := O.units; omega⟩
theorem Ok.in1 {A : Around} {n : Nat} (O : Ok A (n + 1)) : Ok A.in1 n :=
  ⟨O.handled, by show A.depth + 4 * n < recursionLimit; have := O.depth; omega, by show A.units + 1 + 8 * n < cLine; have := O.units; omega⟩

/-! ## Names -/
section
variable {M : Model} {A : Around} {E : Value → Shared → Prop} {hp : Heap} {gs₀ : Array GenState} {dr : Drawn} {tk₀ : Nat} {os : OsState} {K : Frag} {g₀ g : Heap} {L : Addr} {m : Str → Option Value} {mu : Mut} {env : Env}
  {x : Str} {pos : Pos} {v : Value} {Q : Value → Shared → Prop}
theorem n_glob (S : Sx g₀ g L m mu hp) (C : Cx K g₀) (e : nsIn K mainGlobals x = some (some v)) (h : Q v ⟨hp, gs₀, dr, tk₀, os⟩) (hG : env.globals = mainGlobals := by rfl)
    (hk : env.scope.kind = .function := by rfl) (hx : env.kindOf x = some .globalImplicit := by rfl) (hd : (x == ("__debug__" : Str)) = false := by decide) :
    wpAny M A (eval (.Name x pos) env) Q E ⟨hp, gs₀, dr, tk₀, os⟩ :=
  let ⟨_, _, _, _, T⟩ := C.top
  Name_function_global hk hx (loadGlobal_global (hG ▸ T.g.keeps S.old) (mg_of C.kin T.g e) h) hd
theorem n_blt (S : Sx g₀ g L m mu hp) (C : Cx K g₀) (e : nsIn K mainGlobals x = some none) (hv : bootBuiltins x = some v) (h : Q v ⟨hp, gs₀, dr, tk₀, os⟩) (hG : env.globals = mainGlobals := by rfl) (hB : env.builtins = builtinsNs := by rfl) (hn : x ≠ "__name__" := by decide)
    (hk : env.scope.kind = .function := by rfl) (hx : env.kindOf x = some .globalImplicit := by rfl) (hd : (x == ("__debug__" : Str)) = false := by decide) :
    wpAny M A (eval (.Name x pos) env) Q E ⟨hp, gs₀, dr, tk₀, os⟩ :=
  let ⟨_, _, _, _, T⟩ := C.top
  Name_function_global hk hx (loadGlobal_builtin (hG ▸ T.g.keeps S.old) (mg_none_of C.kin T.g e) (hB ▸ T.b.keeps S.old) ((T.builtins x hn).trans hv) h) hd
theorem n_loc (S : Sx g₀ g L m mu hp) (hv : m x = some v) (h : Q v ⟨hp, gs₀, dr, tk₀, os⟩) (hL : env.locals = L := by rfl)
    (hk : env.scope.kind = .function := by rfl) (hx : env.kindOf x = some .local := by rfl) (hd : (x == ("__debug__" : Str)) = false := by decide) :
    wpAny M A (eval (.Name x pos) env) Q E ⟨hp, gs₀, dr, tk₀, os⟩ := wpAny_Name (wpAny_loadName_local hk hx (hL ▸ S.ns) hv h) hd
theorem n_locL (S : Sx g₀ g L m mu hp) (hv : m x = some v) (h : Q v ⟨hp, gs₀, dr, tk₀, os⟩) (hL : env.locals = L := by rfl)
    (hk : env.scope.kind = .function := by rfl) (hx : env.kindOf x = some .local := by rfl) :
    wpAny M A (loadName env x) Q E ⟨hp, gs₀, dr, tk₀, os⟩ := wpAny_loadName_local hk hx (hL ▸ S.ns) hv h
theorem n_cell {c : Addr} (S : Sx g₀ g L m mu hp) (hc : env.cells.lookup x = some c) (hm : (c, IsC (some v)) ∈ mu) (h : Q v ⟨hp, gs₀, dr, tk₀, os⟩)
    (hk : env.scope.kind = .function := by rfl) (hx : env.kindOf x = some .cell := by rfl) (hb : (x == ("__debug__" : Str)) = false := by decide) :
    wpAny M A (eval (.Name x pos) env) Q E ⟨hp, gs₀, dr, tk₀, os⟩ := wpAny_Name (wpAny_loadName_cell hk hx hc (S.cell hm) h) hb
end
section
variable {M : Model} {A : Around} {E : Value → Shared → Prop} {hp : Heap} {gs₀ : Array GenState} {dr : Drawn} {tk₀ : Nat} {os : OsState} {g₀ g : Heap} {L : Addr} {m : Str → Option Value} {mu mu' : Mut} {env : Env}
  {x : Str} {v : Value} {Q : Unit → Shared → Prop}
theorem st_loc (S : Sx g₀ g L m mu hp)
    (h : ∀ h' tk, Sx g₀ g L (fun y => if y = x then some v else m y) mu h' → Q () ⟨h', gs₀, dr, tk, os⟩) (hL : env.locals = L := by rfl)
    (hk : env.scope.kind = .function := by rfl) (hx : env.kindOf x = some .local := by rfl) : wpAny M A (storeName env x v) Q E ⟨hp, gs₀, dr, tk₀, os⟩ := by
  subst hL
  exact wpAny_storeName_local hx S.ns (fun h' hn hs => h h' _ (S.store hn hs)) (by rw [hk]; rfl)
theorem st_cell {c : Addr} {v₀ : Option Value} (S : Sx g₀ g L m mu hp) (hc : env.cells.lookup x = some c) (u : Up c (IsC v₀) (IsC (some v)) mu mu')
    (h : ∀ h', Sx g₀ g L m mu' h' → Q () ⟨h', gs₀, dr, tk₀, os⟩)
    (hk : env.scope.kind = .function := by rfl) (hx : env.kindOf x = some .cell := by rfl) : wpAny M A (storeName env x v) Q E ⟨hp, gs₀, dr, tk₀, os⟩ :=
  wpAny_storeName_cell hk hx hc (S.cell u.mem) fun h' hv hs => let ⟨_, e, d⟩ := hv; h h' (S.upd u hs e d)
end

/-! ## New lists and tuples -/
section
variable {M : Model} {A : Around} {E : Value → Shared → Prop} {hp : Heap} {gs₀ : Array GenState} {dr : Drawn} {tk₀ : Nat} {os : OsState} {g₀ g : Heap} {L a : Addr} {m : Str → Option Value} {mu : Mut} {Q : Value → Shared → Prop} {vs : List Value}
theorem new_tuple (S : Sx g₀ g L m mu hp) (h : ∀ a h', Sx g₀ g L m ((a, IsT vs) :: mu) h' → Q (.ref a) ⟨h', gs₀, dr, tk₀, os⟩) (hsz : vs.length ≤ sizeLine := by size_fits) : wpAny M A (newTuple vs) Q E ⟨hp, gs₀, dr, tk₀, os⟩ :=
  wpAny_newObj_type (h _ _ (S.alloc rfl ⟨0, rfl⟩)) (by show vs.toArray.size ≤ sizeLine; rw [List.size_toArray]; exact hsz)
theorem new_list (S : Sx g₀ g L m mu hp) (h : ∀ a h', Sx g₀ g L m ((a, IsL vs) :: mu) h' → Q (.ref a) ⟨h', gs₀, dr, tk₀, os⟩) (hsz : vs.length ≤ sizeLine := by size_fits) : wpAny M A (newList vs) Q E ⟨hp, gs₀, dr, tk₀, os⟩ :=
  wpAny_newObj_type (h _ _ (S.alloc rfl ⟨0, rfl⟩)) (by show vs.toArray.size ≤ sizeLine; rw [List.size_toArray]; exact hsz)
end

section
variable {prog : Program} {w : World} {A : Around} {E : Value → Shared → Prop} {hp : Heap} {gs₀ : Array GenState} {dr : Drawn} {tk₀ : Nat} {os : OsState} {g₀ g : Heap} {L a : Addr} {m : Str → Option Value} {mu mu' : Mut} {Q : Value → Shared → Prop} {vs : List Value} {x : Value}
theorem mapSeq_is {f : Array Value → Array Value} {xs ys : List Value} {n : Nat} (e : f xs.toArray = ys.toArray) : IsL ys (Obj.mapSeq f { cls := .type "list", data := .seq xs.toArray n }) := by
  unfold Obj.mapSeq IsL
  dsimp only
  rw [e]
  exact ⟨_, rfl⟩
theorem l_append (S : Sx g₀ g L m mu hp) (u : Up a (IsL vs) (IsL (vs ++ [x])) mu mu') (hn : vs.length ≤ sizeLine) (h : ∀ h', Sx g₀ g L m mu' h' → Q .none ⟨h', gs₀, dr, tk₀, os⟩) : wpAny (model prog w) A (call (.builtin "list.append") [.ref a, x]) Q E ⟨hp, gs₀, dr, tk₀, os⟩ := by
  obtain ⟨o, e, n, rfl⟩ := S.get _ u.mem
  have hl := S.list u.mem
  refine wpAny_call_entry slot_list_append hl.typeIs entry_list_append ?_ (args_list_append _ _)
  show wpAny _ _ (updateSeq a (·.push x) >>= fun _ => ret .none) _ _ ⟨hp, gs₀, dr, tk₀, os⟩
  refine wpAny_bind (wpAny_updateSeq e rfl (wpAny_pure ⟨.none, rfl, h _ (S.upd u (Heap.SameBut.update ..) (Heap.get?_update_self _ e rfl) (mapSeq_is (by simp)))⟩) (by rw [List.size_toArray]; exact hn) (by rw [Array.size_push, List.size_toArray]; omega))
theorem l_pop (S : Sx g₀ g L m mu hp) (u : Up a (IsL (vs ++ [x])) (IsL vs) mu mu') (hn : vs.length + 1 ≤ sizeLine) (h : ∀ h', Sx g₀ g L m mu' h' → Q x ⟨h', gs₀, dr, tk₀, os⟩) : wpAny (model prog w) A (call (.builtin "list.pop") [.ref a]) Q E ⟨hp, gs₀, dr, tk₀, os⟩ := by
  obtain ⟨o, e, n, rfl⟩ := S.get _ u.mem
  have hk : (vs ++ [x]).toArray.size - 1 = vs.length := by rw [List.size_toArray, List.length_append]; rfl
  have hy : (vs ++ [x]).toArray[(vs ++ [x]).toArray.size - 1]? = some x := by rw [hk]; simp
  refine call_meets PySem.F.slot_list_pop ⟨_, e, rfl⟩ PySem.F.entry_list_pop (PySem.F.args_list_pop_1 _) (PySem.MeetsSeq.list_pop_last a _ n x hy (by rw [List.size_toArray, List.length_append]; exact hn)) ⟨e, h _ (S.upd u (Heap.SameBut.update ..) (Heap.get?_update_self _ e rfl) (mapSeq_is ?_))⟩
  rw [hk, kl_erase, List.append_nil]
theorem gm_list {name : Str} {id : String} {pl : Sem Bool} {Q : Value × List Value → Shared → Prop} (S : Sx g₀ g L m mu hp) (hm : (a, IsL vs) ∈ mu) (slot : Slot "list" name id) (hty : typeOf (.builtin id) = pure (.type "method_descriptor"))
    (h : Q (.builtin id, [.ref a]) ⟨hp, gs₀, dr, tk₀, os⟩) : wpAny (model prog w) A (getMethod (.ref a) name pl) Q E ⟨hp, gs₀, dr, tk₀, os⟩ := by
  obtain ⟨o, e, n, rfl⟩ := S.get _ hm
  exact getMethod_builtin ⟨_, e, rfl⟩ PySem.F.plainAttrs_list slot hty (fun b q => by cases q; exact ⟨_, e, rfl⟩) h
end
end
section
abbrev pw : Program := PySem.Challenge.pw_il0207_01
def stmtAt (i : Nat) : Stmt := (pw.main.body[i]?).getD (.Pass default)
def nameOf : Stmt → Str | .FunctionDef n .. => n | _ => default
def argsOf : Stmt → Arguments | .FunctionDef _ a .. => a | _ => default
def bodyOf : Stmt → List Stmt | .FunctionDef _ _ b .. => b | .ClassDef _ _ _ b .. => b | _ => []
def scopeOf : Stmt → Scope | .FunctionDef _ _ _ _ _ _ sc .. => sc | _ => default
def methAt (i j : Nat) : Stmt := ((bodyOf (stmtAt i))[j]?).getD (.Pass default)

def FnIs (K : Frag) (f c : Addr) (qual : Str) (st : Stmt) : Prop :=
  ∃ od doc pm osl, K.lookup f = some ⟨.type "function", od, .func (fnX (nameOf st) qual (argsOf st) (bodyOf st) (scopeOf st) [] .none .none doc pm none (.ref c) .none), osl⟩ ∧ codeIn K (.ref c) qual = true

structure KF (K : Frag) : Prop where
  fspath : FnIs K 94 93 "fspath" (stmtAt 9)
  getSep : FnIs K 108 107 "_get_sep" (stmtAt 13)
  join : FnIs K 115 114 "join" (stmtAt 14)
  splitroot : FnIs K 122 121 "splitroot" (stmtAt 15)
  dirname : FnIs K 129 128 "dirname" (stmtAt 16)
  normpath : FnIs K 136 135 "normpath" (stmtAt 17)
  commonpath : FnIs K 141 140 "commonpath" (stmtAt 18)
  kind_ : FnIs K 148 147 "_kind" (stmtAt 21)
  fspath_ : FnIs K 155 154 "_fspath" (stmtAt 22)
  split : FnIs K 162 161 "split" (stmtAt 23)
  ancestry : FnIs K 169 168 "_ancestry" (stmtAt 25)
  difference : FnIs K 214 213 "_difference" (stmtAt 30)
  lawRow : FnIs K 221 220 "_law_row" (stmtAt 32)
  lawTold : FnIs K 226 225 "_law_told" (stmtAt 33)
  lawClimbed : FnIs K 233 232 "_law_climbed" (stmtAt 34)
  law : FnIs K 238 237 "law" (stmtAt 35)
  ffInit : FnIs K 185 184 "filterfalse.__init__" (methAt 28 1)
  ffIter : FnIs K 192 191 "filterfalse.__iter__" (methAt 28 2)
  ffNext : FnIs K 199 198 "filterfalse.__next__" (methAt 28 3)
  g_fspath : nsIn K mainGlobals "fspath" = some (some (.ref 94))
  g_getSep : nsIn K mainGlobals "_get_sep" = some (some (.ref 108))
  g_join : nsIn K mainGlobals "join" = some (some (.ref 115))
  g_splitroot : nsIn K mainGlobals "splitroot" = some (some (.ref 122))
  g_dirname : nsIn K mainGlobals "dirname" = some (some (.ref 129))
  g_normpath : nsIn K mainGlobals "normpath" = some (some (.ref 136))
  g_commonpath : nsIn K mainGlobals "commonpath" = some (some (.ref 141))
  g_sep : ∃ t, nsIn K mainGlobals "sep" = some (some (.str "/" t))
  g_kind : nsIn K mainGlobals "_kind" = some (some (.ref 148))
  g_fspath_ : nsIn K mainGlobals "_fspath" = some (some (.ref 155))
  g_split : nsIn K mainGlobals "split" = some (some (.ref 162))
  g_ancestry : nsIn K mainGlobals "_ancestry" = some (some (.ref 169))
  g_dedupe : nsIn K mainGlobals "_dedupe" = some (some (.ref 170))
  g_filterfalse : nsIn K mainGlobals "filterfalse" = some (some (.ref 203))
  g_difference : nsIn K mainGlobals "_difference" = some (some (.ref 214))
  g_lawRow : nsIn K mainGlobals "_law_row" = some (some (.ref 221))
  g_lawTold : nsIn K mainGlobals "_law_told" = some (some (.ref 226))
  g_lawClimbed : nsIn K mainGlobals "_law_climbed" = some (some (.ref 233))
  g_law : nsIn K mainGlobals "law" = some (some (.ref 238))
  b_type : nsIn K mainGlobals "type" = some none
  b_str : nsIn K mainGlobals "str" = some none
  b_bytes : nsIn K mainGlobals "bytes" = some none
  b_issubclass : nsIn K mainGlobals "issubclass" = some none
  b_isinstance : nsIn K mainGlobals "isinstance" = some none
  b_len : nsIn K mainGlobals "len" = some none
  b_tuple : nsIn K mainGlobals "tuple" = some none
  b_map : nsIn K mainGlobals "map" = some none
  b_min : nsIn K mainGlobals "min" = some none
  b_max : nsIn K mainGlobals "max" = some none
  b_enumerate : nsIn K mainGlobals "enumerate" = some none
  b_set : nsIn K mainGlobals "set" = some none
  b_iter : nsIn K mainGlobals "iter" = some none
  b_next : nsIn K mainGlobals "next" = some none
  b_bool : nsIn K mainGlobals "bool" = some none
  b_range : nsIn K mainGlobals "range" = some none
  b_abs : nsIn K mainGlobals "abs" = some none
  b_list : nsIn K mainGlobals "list" = some none
  b_TypeError : nsIn K mainGlobals "TypeError" = some none
  b_ValueError : nsIn K mainGlobals "ValueError" = some none
  b_AttributeError : nsIn K mainGlobals "AttributeError" = some none
  b_BytesWarning : nsIn K mainGlobals "BytesWarning" = some none
  dedupe : ∃ d sl, K.lookup 170 = some ⟨.type "builtin_function_or_method", d, .fields #[.builtin "dict.fromkeys", .type "dict"], sl⟩

theorem call_def {K : Frag} {f c : Addr} {qual : Str} {st : Stmt} (FI : FnIs K f c qual st) {prog : Program} {w : World} {A : Around} {hp : Heap} {gs₀ : Array GenState} {dr : Drawn} {tk₀ : Nat} {os : OsState} {R : Result → Shared → Prop} {args : Args} {binds : List (Str × Value)} (C : Cx K hp) (hroom : A.depth < recursionLimit)
    (hbind : ∀ doc pm, BindsTo ⟨hp, gs₀, dr, tk₀, os⟩ (fnX (nameOf st) qual (argsOf st) (bodyOf st) (scopeOf st) [] .none .none doc pm none (.ref c) .none) args binds) (hloc : ∀ y ∈ binds, (scopeOf st).names.lookup y.1 = some .local)
    (hcell : ∀ x ∈ (scopeOf st).names, x.2 ≠ .cell)
    (h : ∀ h₁ tk₁, Sx hp hp hp.objs.size (fun y => binds.reverse.lookup y) [] h₁ →
      wpAny (model prog w) (A.deeper (envX qual (scopeOf st) hp.objs.size f (.ref c) [])) (execs (bodyOf st) (envX qual (scopeOf st) hp.objs.size f (.ref c) []))
        (fun fl s' => R (.ok (.ret (match fl with | .ret v => v | _ => .none))) s')
        (fun e s' => wpAny (model prog w) (A.deeper (envX qual (scopeOf st) hp.objs.size f (.ref c) [])) (leaving (envX qual (scopeOf st) hp.objs.size f (.ref c) []) e) (fun _ s'' => R (.error e) s'') (fun e' s'' => R (.error e') s'') s')
        ⟨h₁, gs₀, dr, tk₁, os⟩)
    (hco : (scopeOf st).isCoroutine = false := by rfl) (hgen : (scopeOf st).isGenerator = false := by rfl) (hk : (scopeOf st).kind = .function := by rfl) :
    codeAny (model prog w) A (.call (.ref f) args) R ⟨hp, gs₀, dr, tk₀, os⟩ := by
  obtain ⟨od, doc, pm, osl, ho, hcd⟩ := FI
  refine codeAny_call_def (fd := fnX (nameOf st) qual (argsOf st) (bodyOf st) (scopeOf st) [] .none .none doc pm none (.ref c) .none) (body := bodyOf st) (binds := binds) hroom (C.kin _ _ ho) rfl C.noLimit (codeRec_of C.kin hcd) rfl (hbind _ _) hcell hloc (fun h₁ hns hk₁ => ?_) hco hgen hk
  exact h h₁ _ (Sx.enter hns hk₁)
end
section
section
variable {prog : Program} {w : World} {A : Around} {E : Value → Shared → Prop} {s : Shared} {a : Addr}

theorem issub_in {Q : Fin → Shared → Prop} (hq : Q (.done (.ret (.bool true))) s) (k : Int) : wpAny (model prog w) A (Builtin.«issubclass.nested» ⟨[.type "str", .type "str", .int k 0], []⟩) Q E s := by
  have hm : typeOf (.type "str") = pure (.type "type") := rfl
  have hi : isSubtype (.type "str") (.type "str") = pure true := by kernel_rfl
  repeat (any_goals (first | assumption | (rw [hi]) | wp_step))

theorem issub_tup {Q : Fin → Shared → Prop} (T : IsTup s.heap a #[.type "str", .type "bytes"]) (hq : Q (.done (.ret (.bool true))) s) : wpAny (model prog w) A (Builtin.«issubclass.nested» ⟨[.type "str", .ref a, rawInt 0], []⟩) Q E s := by
  obtain ⟨o, ho, hc, n, hd⟩ := T
  obtain ⟨oc, od, odt, osl⟩ := o
  dsimp only at hc hd
  subst hc hd
  have hT : s.TypeIs (.ref a) "tuple" := ⟨_, ho, rfl⟩
  have hi : isSubtype (.type "tuple") (.type "tuple") = pure true := by kernel_rfl
  unfold Builtin.«issubclass.nested»
  dsimp only
  refine wpAny_bind (wpAny_typeOf hT ?_)
  rw [if_neg (by decide)]
  unfold Builtin.Builtins.unionMembers
  refine wpAny_bind (wpAny_bind (wpAny_typeOf hT ?_))
  rw [if_neg (by decide)]
  refine wpAny_pure ?_
  refine wpAny_bind (wpAny_isInstance hT hi ?_)
  rw [if_pos rfl, if_neg (by decide +kernel)]
  refine wpAny_bind (wpAny_seqItems ho rfl ?_)
  simp only [Option.getD_some, ← Array.forIn_toList, List.forIn_cons]
  refine wpAny_bind (wpAny_bind (wpAny_bind ?_))
  refine call_function_meets (S := fun _ R s => R (.ok (.ret (.bool true))) s) (by decide +kernel) (by decide +kernel) F.entry_issubclass_nested (by unfold argsOk; kernel_rfl) (fun prog w A R s hs => issub_in hs 1) ?_
  refine wpAny_bind (wpAny_truthy_bool ?_)
  rw [if_pos rfl]
  exact wpAny_bind (wpAny_pure (wpAny_pure (wpAny_pure (wpAny_pure hq))))
theorem issub0 {Q : Value → Shared → Prop} (T : IsTup s.heap a #[.type "str", .type "bytes"]) (hq : Q (.bool true) s) : wpAny (model prog w) A (call (.builtin "issubclass") [.type "str", .ref a]) Q E s :=
  call_issubclass (S := fun _ R s => IsTup s.heap a #[.type "str", .type "bytes"] ∧ R (.ok (.ret (.bool true))) s) (fun _ _ _ _ _ hs => issubclass_outer (issub_tup hs.1 hs.2)) ⟨T, hq⟩
theorem issub {hp : Heap} {gs₀ : Array GenState} {dr : Drawn} {tk₀ : Nat} {os : OsState} {Q : Value → Shared → Prop} (T : IsTup hp a #[.type "str", .type "bytes"]) (hq : Q (.bool true) ⟨hp, gs₀, dr, tk₀, os⟩) : wpAny (model prog w) A (call (.builtin "issubclass") [.type "str", .ref a]) Q E ⟨hp, gs₀, dr, tk₀, os⟩ := issub0 T hq
end
end
section
/-! ## Texts -/
theorem keptSx {g₀ g : Heap} {L : Addr} {m : Str → Option Value} {mu : Mut} : KeptH (Sx g₀ g L m mu) := fun _ ob S => S.grow (Keep.rfl'.push ob)
theorem ne_empty_len (x : Str) : ((x.length : Int) != 0) = (x != "") := by
  have e : (x = "") ↔ x.length = 0 := by
    constructor
    · intro h; subst h; rfl
    · intro h; obtain ⟨c⟩ := x; show Str.mk c = _; have : c = #[] := Array.eq_empty_of_size_eq_zero h; rw [this]; rfl
  rw [Bool.eq_iff_iff, bne_iff_ne, bne_iff_ne]
  constructor
  · intro h q; rw [e.mp q] at h; exact h rfl
  · intro h q; exact h (e.mpr (by omega))
theorem fit63 {x : Str} (h : x.length ≤ 4096) : (x.length : Int) < 9223372036854775808 := by omega
theorem fitL {x : Str} (h : x.length ≤ 4096) : x.length ≤ sizeLine := by rw [sizeLine_eq]; omega
theorem fitA {x y : Str} (h : x.length ≤ 4096) (h' : y.length ≤ 4096) : x.length + y.length ≤ sizeLine := by rw [sizeLine_eq]; omega

section
variable {prog : Program} {w : World} {A : Around} {E : Value → Shared → Prop} {hp : Heap} {gs₀ : Array GenState} {dr : Drawn} {tk₀ : Nat} {os : OsState} {g₀ g : Heap} {L : Addr} {m : Str → Option Value} {mu : Mut} {x y : Str} {t u : Tok} {Q : Value → Shared → Prop} {value slice : PySem.Expr} {i j : Int} {ui uj : Tok}
theorem sl_ns (S : Sx g₀ g L m mu hp) (hx : x.length ≤ 4096) (h : ∀ h' t' k, Sx g₀ g L m mu h' → Q (.str (Txt.slice x none (some j)) t') ⟨h', gs₀, dr, k, os⟩)
    (hs : subscripted slice false (.str x t) (.ref hp.objs.size) = operate [.ref hp.objs.size, .str x t] (getItem (.str x t) (.ref hp.objs.size)) := by with_unfolding_all rfl)
    (ht : ∀ r, letTemporaryGo value (.str x t) r = pure () := by intro _; with_unfolding_all rfl) :
    wpAny (model prog w) A (subscriptTail value slice (.str x t) (.ref hp.objs.size)) Q E ⟨hp.push { cls := .type "slice", data := .fields #[.none, .int j uj, .none] }, gs₀, dr, tk₀, os⟩ :=
  tail_of_ItemOn (SBH.sliceItem_ns (s := ⟨hp, gs₀, dr, tk₀, os⟩) keptSx S h (fitL hx)) hs ht
theorem sl_sn (S : Sx g₀ g L m mu hp) (hx : x.length ≤ 4096) (h : ∀ h' t' k, Sx g₀ g L m mu h' → Q (.str (Txt.slice x (some i) none) t') ⟨h', gs₀, dr, k, os⟩)
    (hs : subscripted slice false (.str x t) (.ref hp.objs.size) = operate [.ref hp.objs.size, .str x t] (getItem (.str x t) (.ref hp.objs.size)) := by with_unfolding_all rfl)
    (ht : ∀ r, letTemporaryGo value (.str x t) r = pure () := by intro _; with_unfolding_all rfl) :
    wpAny (model prog w) A (subscriptTail value slice (.str x t) (.ref hp.objs.size)) Q E ⟨hp.push { cls := .type "slice", data := .fields #[.int i ui, .none, .none] }, gs₀, dr, tk₀, os⟩ :=
  tail_of_ItemOn (SBH.sliceItem_sn (s := ⟨hp, gs₀, dr, tk₀, os⟩) keptSx S h (fitL hx)) hs ht
theorem sl_ss (S : Sx g₀ g L m mu hp) (hx : x.length ≤ 4096) (h : ∀ h' t' k, Sx g₀ g L m mu h' → Q (.str (Txt.slice x (some i) (some j)) t') ⟨h', gs₀, dr, k, os⟩)
    (hs : subscripted slice false (.str x t) (.ref hp.objs.size) = operate [.ref hp.objs.size, .str x t] (getItem (.str x t) (.ref hp.objs.size)) := by with_unfolding_all rfl)
    (ht : ∀ r, letTemporaryGo value (.str x t) r = pure () := by intro _; with_unfolding_all rfl) :
    wpAny (model prog w) A (subscriptTail value slice (.str x t) (.ref hp.objs.size)) Q E ⟨hp.push { cls := .type "slice", data := .fields #[.int i ui, .int j uj, .none] }, gs₀, dr, tk₀, os⟩ :=
  tail_of_ItemOn (SBH.sliceItem_ss (s := ⟨hp, gs₀, dr, tk₀, os⟩) keptSx S h (fitL hx)) hs ht
theorem tr_str {Q : Bool → Shared → Prop} (hx : x.length ≤ 4096) (h : ∀ k, Q (x != "") ⟨hp, gs₀, dr, k, os⟩) : wpAny (model prog w) A (PySem.truthy (.str x t)) Q E ⟨hp, gs₀, dr, tk₀, os⟩ := SBL.truthy (fit63 hx) (ne_empty_len x ▸ h _)
theorem ad_str (hx : x.length ≤ 4096) (hy : y.length ≤ 4096) (h : ∀ t' tk, Q (.str (x ++ y) t') ⟨hp, gs₀, dr, tk, os⟩) : wpAny (model prog w) A (binaryOp .Add (.str x t) (.str y u)) Q E ⟨hp, gs₀, dr, tk₀, os⟩ := PyProof.Rows.add_str h (fitA hx hy)
theorem iad_str (hx : x.length ≤ 4096) (hy : y.length ≤ 4096) (h : ∀ t' tk, Q (.str (x ++ y) t') ⟨hp, gs₀, dr, tk, os⟩) : wpAny (model prog w) A (inplaceOp .Add (.str x t) (.str y u)) Q E ⟨hp, gs₀, dr, tk₀, os⟩ := PyProof.Rows.iadd_str h (fitA hx hy)
end

theorem parts_le {x y : Str} (hx : x.length ≤ 4096) : (Builtin.Str.partsBetween x (Builtin.Str.occurrences x y 0 x.length (x.length + 1)) y.length).length ≤ sizeLine := by
  rw [PyProof.Rows.len_partsBetween, sizeLine_eq]
  have := StrLaws.occ_length_le x y 0 x.length (x.length + 1)
  omega

/-- what a list of texts is -/
def IsS (ss : List Str) (o : Obj) : Prop := ∃ l : List (Str × Tok), l.map (·.1) = ss ∧ IsL (strValues l) o

section
variable {prog : Program} {w : World} {A : Around} {E : Value → Shared → Prop} {hp : Heap} {gs₀ : Array GenState} {dr : Drawn} {tk₀ : Nat} {os : OsState} {g₀ g : Heap} {L : Addr} {m : Str → Option Value} {mu : Mut} {x y : Str} {t u : Tok} {Q : Value → Shared → Prop}
open Builtin Builtin.Str in
theorem sp_str (S : Sx g₀ g L m mu hp) (hx : x.length ≤ 4096) (hy : (y.length == 0) = false)
    (h : ∀ D h' k, Sx g₀ g L m ((D, IsS (Txt.split x y)) :: mu) h' → Q (.ref D) ⟨h', gs₀, dr, k, os⟩) :
    wpAny (model prog w) A (call (.builtin "str.split") [.str x t, .str y u]) Q E ⟨hp, gs₀, dr, tk₀, os⟩ := by
  have one : (h1 : (if (decide (x.length < y.length) || decide (strKind x < strKind y)) = true then [x] else if (occurrences x y 0 x.length (x.length + 1)).isEmpty = true then [x] else partsBetween x (occurrences x y 0 x.length (x.length + 1)) y.length) = [x]) →
      Q (.ref hp.objs.size) ⟨hp.push { cls := .type "list", data := .seq (strValues [(x, t)]).toArray }, gs₀, dr, tk₀, os⟩ := fun h1 => h _ _ tk₀ (S.alloc rfl ⟨[(x, t)], h1.symm, 0, rfl⟩)
  by_cases c1 : (decide (x.length < y.length) || decide (strKind x < strKind y)) = true
  · exact call_meets F.slot_str_split (typeIs_str _ _ _) F.entry_str_split (F.args_str_split_2 _ _) (meets_str_split_cannot_occur x y t u c1) (one (if_pos c1))
  · by_cases c2 : (occurrences x y 0 x.length (x.length + 1)).isEmpty = true
    · exact call_meets F.slot_str_split (typeIs_str _ _ _) F.entry_str_split (F.args_str_split_2 _ _) (meets_str_split_not_found x y t u (Bool.eq_false_iff.mpr c1) hy c2) (one ((if_neg c1).trans (if_pos c2)))
    · refine call_meets F.slot_str_split (typeIs_str _ _ _) F.entry_str_split (F.args_str_split_2 _ _) (meets_str_split_sep x y t u (Bool.eq_false_iff.mpr c1) hy (Bool.eq_false_iff.mpr c2) (fitL hx) (parts_le hx)) ?_
      show Q (.ref hp.objs.size) ⟨hp.push { cls := .type "list", data := .seq (strsFrom tk₀ (partsBetween x (occurrences x y 0 x.length (x.length + 1)) y.length)).toArray }, gs₀, dr, _, os⟩
      rw [strsFrom_eq]
      exact h _ _ _ (S.alloc rfl ⟨numbered tk₀ _, (numbered_texts _ _).trans ((if_neg c1).trans (if_neg c2)).symm, 0, rfl⟩)
end
end
section
/-! ## Iterators, for loops, comprehensions -/
def ListIn (g : Heap) (mu : Mut) (a : Addr) (vs : List Value) : Prop := g.IsList a vs.toArray ∨ (a, IsL vs) ∈ mu
section
variable {g₀ g g' h : Heap} {L a : Addr} {m : Str → Option Value} {mu : Mut} {vs : List Value}
theorem ListIn.here (S : Sx g₀ g L m mu h) (x : ListIn g mu a vs) : h.IsList a vs.toArray := x.elim (fun e => let ⟨o, ho, r⟩ := e; ⟨o, S.keep _ _ ho, r⟩) fun e => S.list e
theorem ListIn.more (p : Addr × (Obj → Prop)) (x : ListIn g mu a vs) : ListIn g (p :: mu) a vs := x.imp id fun e => .tail _ e
theorem ListIn.grow (k : Keep g g') (x : ListIn g mu a vs) : ListIn g' mu a vs := x.imp (fun e => let ⟨o, ho, r⟩ := e; ⟨o, k _ _ ho, r⟩) id
end

structure IterOk (prog : Program) (w : World) (A : Around) (it : Addr) (Here : Heap → Mut → Prop) (ItK : Nat → Obj → Prop) (n : Nat) (Val : Nat → Value → Prop) : Prop where
  next : ∀ {g₀ g : Heap} {L : Addr} {m : Str → Option Value} {mu : Mut} {hp : Heap} {gs₀ : Array GenState} {dr : Drawn} {tk₀ : Nat} {os : OsState} {E : Value → Shared → Prop} {Q : Option Value → Shared → Prop} (i : Nat), i < n → Sx g₀ g L m ((it, ItK i) :: mu) hp → Here g mu →
    (∀ v h' tk, Val i v → Sx g₀ g L m ((it, ItK (i + 1)) :: mu) h' → Q (some v) ⟨h', gs₀, dr, tk, os⟩) → wpAny (model prog w) A (pyNext (.ref it)) Q E ⟨hp, gs₀, dr, tk₀, os⟩
  stop : ∀ {g₀ g : Heap} {L : Addr} {m : Str → Option Value} {mu : Mut} {hp : Heap} {gs₀ : Array GenState} {dr : Drawn} {tk₀ : Nat} {os : OsState} {E : Value → Shared → Prop} {Q : Option Value → Shared → Prop}, Sx g₀ g L m ((it, ItK n) :: mu) hp → Here g mu →
    (∀ h' tk, Sx g₀ g L m mu h' → Q none ⟨h', gs₀, dr, tk, os⟩) → wpAny (model prog w) A (pyNext (.ref it)) Q E ⟨hp, gs₀, dr, tk₀, os⟩
  self : ∀ {g₀ g : Heap} {L : Addr} {m : Str → Option Value} {mu : Mut} {hp : Heap} {gs₀ : Array GenState} {dr : Drawn} {tk₀ : Nat} {os : OsState} {E : Value → Shared → Prop} {Q : Value → Shared → Prop} (i : Nat), Sx g₀ g L m ((it, ItK i) :: mu) hp → Here g mu → Q (.ref it) ⟨hp, gs₀, dr, tk₀, os⟩ → wpAny (model prog w) A (pyIter (.ref it)) Q E ⟨hp, gs₀, dr, tk₀, os⟩
  more : ∀ {g : Heap} {mu : Mut} (p : Addr × (Obj → Prop)), Here g mu → Here g (p :: mu)

def IsLIt (l : Addr) (i : Nat) (o : Obj) : Prop := o.cls = .type "list_iterator" ∧ o.data = .fields #[.ref l, .int i 0]

section
variable {prog : Program} {w : World} {A : Around} {a it : Addr} {vs : List Value}
theorem ext_lose {g₀ g h h' : Heap} {L C : Addr} {m : Str → Option Value} {mu : Mut} {P : Obj → Prop} (S : Sx g₀ g L m ((C, P) :: mu) h) (hs : Heap.ExtBut C h h') : Sx g₀ g L m mu h' where
  base := S.base
  ns := let ⟨o, es, ep, e, r⟩ := S.ns; ⟨o, es, ep, hs _ _ (Ne.symm (S.nL _ (.head _))) e, r⟩
  get := fun p hp => let ⟨o, e, r⟩ := S.get p (.tail _ hp); ⟨o, hs _ _ (Ne.symm ((List.pairwise_cons.mp S.nd).1 _ (List.mem_map_of_mem hp))) e, r⟩
  keep := fun b o e => hs b _ (fun q => by have := S.gm _ (.head _); rw [q] at e; rw [e] at this; cases this) (S.keep b o e)
  gL := S.gL
  gm := fun p hp => S.gm p (.tail _ hp)
  nL := fun p hp => S.nL p (.tail _ hp)
  nd := (List.pairwise_cons.mp S.nd).2

theorem iter_list (hh : A.handled = none) : IterOk prog w A it (fun g mu => ListIn g mu a vs) (IsLIt a) vs.length (fun i v => vs[i]? = some v) where
  next := by
    intro g₀ g L m mu hp gs₀ dr tk₀ os E Q i hi S hl h
    obtain ⟨o, e, c, d⟩ := S.get _ (.head _)
    have hx : vs.toArray[i]? = some vs[i] := by simp [hi]
    refine wpAny_pyNext_list_item (it := it) (l := a) (i := i) ⟨o, e, c, d⟩ (hl.here S.drop) hx fun h' hit hs => ?_
    obtain ⟨o', e', c', d'⟩ := hit
    exact h _ _ tk₀ (by simp [hi]) (S.upd .head hs e' ⟨c', d'⟩)
  stop := by
    intro g₀ g L m mu hp gs₀ dr tk₀ os E Q S hl h
    obtain ⟨o, e, c, d⟩ := S.get _ (.head _)
    refine wpAny_pyNext_list_end (it := it) (l := a) (i := vs.length) hh ⟨o, e, c, d⟩ (hl.here S.drop) (by simp) fun h' hs => ?_
    exact h _ tk₀ (ext_lose S hs)
  self := by
    intro g₀ g L m mu hp gs₀ dr tk₀ os E Q i S hl h
    obtain ⟨o, e, c, d⟩ := S.get _ (.head _)
    exact wpAny_pyIter_listiter (it := it) (l := a) (i := i) ⟨o, e, c, d⟩ h
  more := fun p x => x.more p

theorem iter_of_list {g₀ g : Heap} {L : Addr} {m : Str → Option Value} {mu : Mut} {hp : Heap} {gs₀ : Array GenState} {dr : Drawn} {tk₀ : Nat} {os : OsState} {E : Value → Shared → Prop} {Q : Value → Shared → Prop} (S : Sx g₀ g L m mu hp) (hl : ListIn g mu a vs)
    (h : ∀ it h', Sx g₀ g L m ((it, IsLIt a 0) :: mu) h' → Q (.ref it) ⟨h', gs₀, dr, tk₀, os⟩) : wpAny (model prog w) A (pyIter (.ref a)) Q E ⟨hp, gs₀, dr, tk₀, os⟩ :=
  wpAny_pyIter_list (hl.here S) (h _ _ (S.alloc rfl ⟨rfl, rfl⟩))
end

section
variable {prog : Program} {w : World} {A : Around} {E : Value → Shared → Prop} {hp : Heap} {gs₀ : Array GenState} {dr : Drawn} {tk₀ : Nat} {os : OsState} {g₀ g : Heap} {L it : Addr} {m : Str → Option Value} {mu : Mut} {env : Env}
  {Here : Heap → Mut → Prop} {ItK : Nat → Obj → Prop} {n : Nat} {Val : Nat → Value → Prop} {x : Str}

theorem for_run {pv : Pos} {body : List Stmt} {Q : Flow → Shared → Prop} (I : IterOk prog w A it Here ItK n Val) (J : Nat → Heap → (Str → Option Value) → Mut → Array GenState → Prop)
    (S : Sx g₀ g L m ((it, ItK 0) :: mu) hp) (hJ : J 0 g m mu gs₀) (here : ∀ i g m mu gs, J i g m mu gs → Here g mu)
    (turn : ∀ (i : Nat) (v : Value) (g' : Heap) (m' : Str → Option Value) (mu' : Mut) (gs : Array GenState) (h : Heap) (tk : Nat) (E' : Value → Shared → Prop), i < n → Val i v → J i g' m' mu' gs → Keep g g' → Sx g₀ g' L (fun y => if y = x then some v else m' y) ((it, ItK (i + 1)) :: mu') h →
      wpAny (model prog w) A (execs body env) (fun f s' => match f with
        | .next | .cont => ∃ h' tk' gs' g'' m'' mu'', s' = ⟨h', gs', dr, tk', os⟩ ∧ Keep g' g'' ∧ Sx g₀ g'' L m'' ((it, ItK (i + 1)) :: mu'') h' ∧ J (i + 1) g'' m'' mu'' gs'
        | .brk => Q .next s'
        | .ret v => Q (.ret v) s') E' ⟨h, gs, dr, tk, os⟩)
    (done : ∀ (g' : Heap) (m' : Str → Option Value) (mu' : Mut) (gs : Array GenState) (h : Heap) (tk : Nat), J n g' m' mu' gs → Keep g g' → Sx g₀ g' L m' mu' h → Q .next ⟨h, gs, dr, tk, os⟩)
    (hL : env.locals = L := by rfl) (hk : env.scope.kind = .function := by rfl) (hx : env.kindOf x = some .local := by rfl) :
    codeAny (model prog w) A (.forLoop (.Name x pv) (.ref it) body [] env) (fun r s' => match r with | .ok f => Q f s' | .error e => cameBackBy (model prog w) A env E e s') ⟨hp, gs₀, dr, tk₀, os⟩ := by
  refine codeAny_forLoop (fun k s' => ∃ i g' m' mu' gs h tk, k = n + 1 - i ∧ i ≤ n ∧ s' = ⟨h, gs, dr, tk, os⟩ ∧ J i g' m' mu' gs ∧ Keep g g' ∧ Sx g₀ g' L m' ((it, ItK i) :: mu') h)
    ?_ (n + 1) ⟨0, g, m, mu, gs₀, hp, tk₀, rfl, Nat.zero_le _, rfl, hJ, Keep.rfl', S⟩
  rintro k s' ⟨i, g', m', mu', gs, h, tk, rfl, hi, rfl, hJ', hk', S'⟩
  by_cases hlt : i < n
  · refine I.next i hlt S' (here _ _ _ _ _ hJ') fun v h' tk' hv S₁ => ?_
    refine wpAny_assign_Name (st_loc S₁ (fun h₂ tk₂ S₂ => ?_) hL hk hx)
    refine wpAny_mono (turn i v g' m' mu' gs h₂ tk₂ _ hlt hv hJ' hk' S₂) (fun f s₃ hf => ?_) fun _ _ e => e
    cases f with
    | next =>
      obtain ⟨h₃, tk₃, gs₃, g₃, m₃, mu₃, rfl, k₃, S₃, J₃⟩ := hf
      exact ⟨n + 1 - (i + 1), by omega, i + 1, g₃, m₃, mu₃, gs₃, h₃, tk₃, rfl, hlt, rfl, J₃, hk'.trans k₃, S₃⟩
    | cont =>
      obtain ⟨h₃, tk₃, gs₃, g₃, m₃, mu₃, rfl, k₃, S₃, J₃⟩ := hf
      exact ⟨n + 1 - (i + 1), by omega, i + 1, g₃, m₃, mu₃, gs₃, h₃, tk₃, rfl, hlt, rfl, J₃, hk'.trans k₃, S₃⟩
    | brk => exact hf
    | ret v => exact hf
  · have hin : i = n := by omega
    subst hin
    refine I.stop S' (here _ _ _ _ _ hJ') fun h' tk' S₁ => ?_
    exact wpAny_execs_nil (done g' m' mu' gs h' tk' hJ' hk' S₁)

/-- a comprehension of one clause, its test (where it has one) told apart -/
theorem comp_loop {px : Pos} {elt iterE : PySem.Expr} {ifs : List PySem.Expr} {scope : Scope} {pos : Pos} {acc C : Addr} {mc : Str → Option Value} {R : Result → Shared → Prop} {cenv : Env}
    (I : IterOk prog w A it Here ItK n Val) (J : Nat → List Value → Heap → Mut → Array GenState → Prop)
    (S : Sx g₀ g C mc ((it, ItK 0) :: (acc, IsL []) :: mu) hp) (hJ : J 0 [] g mu gs₀) (here : ∀ i ys g mu gs, J i ys g mu gs → Here g mu ∧ ys.length ≤ i) (hn : n ≤ sizeLine)
    (turn : ∀ (i : Nat) (v : Value) (ys : List Value) (g' : Heap) (mc' : Str → Option Value) (mu' : Mut) (gs : Array GenState) (h : Heap) (tk : Nat) (E' : Value → Shared → Prop), i < n → Val i v → J i ys g' mu' gs → Keep g g' → Sx g₀ g' C (fun y => if y = x then some v else mc' y) ((it, ItK (i + 1)) :: (acc, IsL ys) :: mu') h →
      wpAny (model prog w) A (forIn ifs true fun c r => if r = true then do let ok ← isTrue c cenv (eval c cenv); pure (ForInStep.yield ok) else pure (ForInStep.yield r))
        (fun ok s₁ => if ok = true then wpAny (model prog w) A (eval elt cenv) (fun y s' => ∃ h' tk' gs' g'' mc'' mu'', s' = ⟨h', gs', dr, tk', os⟩ ∧ Keep g' g'' ∧
            Sx g₀ g'' C mc'' ((it, ItK (i + 1)) :: (acc, IsL ys) :: mu'') h' ∧ J (i + 1) (ys ++ [y]) g'' mu'' gs') E' s₁
          else ∃ h' tk' gs' g'' mc'' mu'', s₁ = ⟨h', gs', dr, tk', os⟩ ∧ Keep g' g'' ∧ Sx g₀ g'' C mc'' ((it, ItK (i + 1)) :: (acc, IsL ys) :: mu'') h' ∧ J (i + 1) ys g'' mu'' gs')
        E' ⟨h, gs, dr, tk, os⟩)
    (done : ∀ (ys : List Value) (g' : Heap) (mc' : Str → Option Value) (mu' : Mut) (gs : Array GenState) (h : Heap) (tk : Nat), J n ys g' mu' gs → Keep g g' → Sx g₀ g' C mc' ((acc, IsL ys) :: mu') h → R (.ok .next) ⟨h, gs, dr, tk, os⟩)
    (hL : cenv.locals = C := by rfl) (hk : cenv.scope.kind = .function := by rfl) (hx : cenv.kindOf x = some .local := by rfl) :
    codeAny (model prog w) A (.compLoop (.ListComp elt [⟨.Name x px, iterE, ifs, 0⟩] scope pos) 0 (.ref it) (.ref acc) cenv) R ⟨hp, gs₀, dr, tk₀, os⟩ := by
  refine codeAny_loop rfl (fun k s' => ∃ i ys g' mc' mu' gs h tk, k = n + 1 - i ∧ i ≤ n ∧ s' = ⟨h, gs, dr, tk, os⟩ ∧ J i ys g' mu' gs ∧ Keep g g' ∧ Sx g₀ g' C mc' ((it, ItK i) :: (acc, IsL ys) :: mu') h)
    ?_ (n + 1) ⟨0, [], g, mc, mu, gs₀, hp, tk₀, rfl, Nat.zero_le _, rfl, hJ, Keep.rfl', S⟩
  rintro k s' ⟨i, ys, g', mc', mu', gs, h, tk, rfl, hi, rfl, hJ', hk', S'⟩
  show wpAny _ _ ((compTurn (.ListComp elt [⟨.Name x px, iterE, ifs, 0⟩] scope pos) 0 (.ref it) (.ref acc) cenv).onRaise (fun x => do noteFrame x cenv; theTreesLotGoes x)) _ _ _
  refine wpAny_noted ?_
  have hH := here _ _ _ _ _ hJ'
  have e : compTurn (.ListComp elt [⟨.Name x px, iterE, ifs, 0⟩] scope pos) 0 (.ref it) (.ref acc) cenv = (standAt iterE.pos >>= fun _ => pyNext (.ref it) >>= fun r => match r with
      | none => pure (.done .next)
      | some v => letOwnedTupleGo (.Name x px) (.ref it) v >>= fun _ => assign (.Name x px) cenv v >>= fun _ =>
        (forIn ifs true fun c r => if r = true then do let ok ← isTrue c cenv (eval c cenv); pure (ForInStep.yield ok) else pure (ForInStep.yield r)) >>= fun ok =>
        (if ok = true then (eval elt cenv >>= fun x => call (.builtin "list.append") [.ref acc, x] >>= fun _ => pure ()) >>= fun _ => again (.compLoop (.ListComp elt [⟨.Name x px, iterE, ifs, 0⟩] scope pos) 0 (.ref it) (.ref acc) cenv)
         else again (.compLoop (.ListComp elt [⟨.Name x px, iterE, ifs, 0⟩] scope pos) 0 (.ref it) (.ref acc) cenv))) := by rfl
  rw [e]
  refine wpAny_bind (wpAny_standAt (wpAny_bind ?_))
  by_cases hlt : i < n
  · refine I.next i hlt S' (I.more _ hH.1) fun v h' tk' hv S₁ => ?_
    refine wpAny_bind (wpAny_pure (wpAny_bind (wpAny_assign_Name (st_loc S₁ (fun h₂ tk₂ S₂ => ?_) hL hk hx))))
    refine wpAny_bind (wpAny_mono (turn i v ys g' mc' mu' gs h₂ tk₂ _ hlt hv hJ' hk' S₂) (fun ok s₁ hok => ?_) fun _ _ e => e)
    cases ok with
    | true =>
      rw [if_pos rfl] at hok ⊢
      refine wpAny_bind (wpAny_bind (wpAny_mono hok (fun y s₃ h₃ => ?_) fun _ _ e => e))
      obtain ⟨h₃, tk₃, gs₃, g₃, mc₃, mu₃, rfl, k₃, S₃, J₃⟩ := h₃
      refine wpAny_bind (l_append (a := acc) (vs := ys) S₃ (.tail .head) (by omega) fun h₄ S₄ => wpAny_pure (wpAny_pure ⟨rfl, ?_⟩))
      exact ⟨n + 1 - (i + 1), by omega, i + 1, ys ++ [y], g₃, mc₃, mu₃, gs₃, h₄, tk₃, rfl, hlt, rfl, J₃, hk'.trans k₃, S₄⟩
    | false =>
      rw [if_neg Bool.false_ne_true] at hok ⊢
      obtain ⟨h₃, tk₃, gs₃, g₃, mc₃, mu₃, rfl, k₃, S₃, J₃⟩ := hok
      exact wpAny_pure ⟨rfl, n + 1 - (i + 1), by omega, i + 1, ys, g₃, mc₃, mu₃, gs₃, h₃, tk₃, rfl, hlt, rfl, J₃, hk'.trans k₃, S₃⟩
  · have hin : i = n := by omega
    subst hin
    refine I.stop S' (I.more _ hH.1) fun h' tk' S₁ => ?_
    exact wpAny_pure (done ys g' mc' mu' gs h' tk' hJ' hk' S₁)
end
end
section
section
variable {prog : Program} {w : World} {A : Around} {E : Value → Shared → Prop} {hp : Heap} {gs₀ : Array GenState} {dr : Drawn} {tk₀ : Nat} {os : OsState} {g₀ g : Heap} {L it : Addr} {m : Str → Option Value} {mu : Mut} {env : Env}
  {Here : Heap → Mut → Prop} {ItK : Nat → Obj → Prop} {n : Nat} {Val : Nat → Value → Prop} {x : Str}

/-- a comprehension's accumulator, its frame and its loop, from the iterator on -/
theorem comp_core {px : Pos} {elt iterE : PySem.Expr} {ifs : List PySem.Expr} {scope : Scope} {pos : Pos} {cl : List (Str × Addr)} {RR : Value → Addr → Result → Shared → Prop}
    (I : IterOk prog w A it Here ItK n Val) (J : Nat → List Value → Heap → Mut → Array GenState → Prop)
    (S : Sx g₀ g L m ((it, ItK 0) :: mu) hp) (hJ : J 0 [] g mu gs₀) (here : ∀ i ys g mu gs, J i ys g mu gs → Here g mu ∧ ys.length ≤ i) (hn : n ≤ sizeLine)
    (hcell : ∀ y ∈ scope.names, y.2 ≠ .cell) (hkind : scope.kind = .function) (hx : scope.names.lookup x = some .local)
    (turn : ∀ (i : Nat) (v : Value) (ys : List Value) (g' : Heap) (mc' : Str → Option Value) (mu' : Mut) (gs : Array GenState) (h : Heap) (tk : Nat) (acc C : Addr) (E' : Value → Shared → Prop), i < n → Val i v → J i ys g' mu' gs → Keep g g' →
      Sx g₀ g' C (fun y => if y = x then some v else mc' y) ((it, ItK (i + 1)) :: (acc, IsL ys) :: (L, IsNs m) :: mu') h →
      wpAny (model prog w) A (forIn ifs true fun c r => if r = true then do let ok ← isTrue c (compEnvC scope cl C env) (eval c (compEnvC scope cl C env)); pure (ForInStep.yield ok) else pure (ForInStep.yield r))
        (fun ok s₁ => if ok = true then wpAny (model prog w) A (eval elt (compEnvC scope cl C env)) (fun y s' => ∃ h' tk' gs' g'' mc'' mu'', s' = ⟨h', gs', dr, tk', os⟩ ∧ Keep g' g'' ∧
            Sx g₀ g'' C mc'' ((it, ItK (i + 1)) :: (acc, IsL ys) :: (L, IsNs m) :: mu'') h' ∧ J (i + 1) (ys ++ [y]) g'' mu'' gs') E' s₁
          else ∃ h' tk' gs' g'' mc'' mu'', s₁ = ⟨h', gs', dr, tk', os⟩ ∧ Keep g' g'' ∧ Sx g₀ g'' C mc'' ((it, ItK (i + 1)) :: (acc, IsL ys) :: (L, IsNs m) :: mu'') h' ∧ J (i + 1) ys g'' mu'' gs')
        E' ⟨h, gs, dr, tk, os⟩)
    (done : ∀ (ys : List Value) (g' : Heap) (mc' : Str → Option Value) (mu' : Mut) (gs : Array GenState) (h : Heap) (tk : Nat) (acc C : Addr), J n ys g' mu' gs → Keep g g' →
      Sx g₀ g' L m ((C, IsNs mc') :: (acc, IsL ys) :: mu') h → RR (.ref acc) C (.ok .next) ⟨h, gs, dr, tk, os⟩) :
    wpAny (model prog w) A (newList []) (fun acc s₃ => wpAny (model prog w) A (newFunctionEnv scope env.globals cl [] env.qual none .none (some env)) (fun cenv s₄ =>
      codeAny (model prog w) A (.compStart (.ListComp elt [⟨.Name x px, iterE, ifs, 0⟩] scope pos) 0 (.ref it) acc { cenv with scope := relabel scope env }) (RR acc cenv.locals) s₄) E s₃) E ⟨hp, gs₀, dr, tk₀, os⟩ := by
  refine new_list S (fun acc h₁ S₁ => ?_)
  refine wpAny_newFunctionEnv hcell (by intro y hy; simp at hy) (fun h₂ hns₂ hsb₂ => ?_) hkind
  dsimp only at hns₂ hsb₂ ⊢
  have S₁' : Sx g₀ g L m ((h₁.objs.size, fun _ => True) :: (acc, IsL []) :: (it, ItK 0) :: mu) (h₁.push { cls := .type (if (some env).isSome then "dict" else "frame"), data := .dict #[] }) := S₁.alloc rfl trivial
  obtain ⟨oc, es, ep, ec, dc, kc, fc⟩ := id hns₂
  have S₂ := (S₁'.set hsb₂ (P' := IsNs (fun x => ([] : List (Str × Value)).reverse.lookup x)) ec ⟨es, ep, dc, kc, fc⟩).front
  have S₃ : Sx g₀ g h₁.objs.size (fun x => ([] : List (Str × Value)).reverse.lookup x) ((it, ItK 0) :: (acc, IsL []) :: (L, IsNs m) :: mu) h₂ := S₂.perm (by
    refine List.Perm.trans (List.Perm.swap _ _ _) ?_
    exact List.Perm.trans (.cons _ (List.Perm.swap _ _ _)) (List.Perm.swap _ _ _))
  have loop : codeAny (model prog w) A (.compLoop (.ListComp elt [⟨.Name x px, iterE, ifs, 0⟩] scope pos) 0 (.ref it) (.ref acc) (compEnvC scope cl h₁.objs.size env))
      (RR (.ref acc) h₁.objs.size) ⟨h₂, gs₀, dr, tk₀ + ([] : List (Str × Value)).length, os⟩ := by
    refine comp_loop (hp := h₂) (tk₀ := tk₀ + ([] : List (Str × Value)).length) (cenv := compEnvC scope cl h₁.objs.size env) I (fun i ys g mu gs => ∃ mu', mu = (L, IsNs m) :: mu' ∧ J i ys g mu' gs) S₃ ⟨_, rfl, hJ⟩
      (fun i ys g mu gs hJ' => ?_) hn (fun i v ys g' mc' mu' gs h tk E' hi hv hJ' hk' S' => ?_) (fun ys g' mc' mu' gs h tk hJ' hk' S' => ?_) rfl (by simp [compEnvC, relabel, hkind]) (lookup_relabel_local hx)
    · obtain ⟨mu', rfl, hJ'⟩ := hJ'
      exact ⟨I.more _ (here _ _ _ _ _ hJ').1, (here _ _ _ _ _ hJ').2⟩
    · obtain ⟨mu', rfl, hJ'⟩ := hJ'
      refine wpAny_mono (turn i v ys g' mc' mu' gs h tk acc h₁.objs.size E' hi hv hJ' hk' S') (fun ok s₁ hok => ?_) fun _ _ e => e
      cases ok with
      | true =>
        rw [if_pos rfl] at hok ⊢
        refine wpAny_mono hok (fun y s' h' => ?_) fun _ _ e => e
        obtain ⟨h', tk', gs', g'', mc'', mu'', e, k, S'', J''⟩ := h'
        exact ⟨h', tk', gs', g'', mc'', _, e, k, S'', _, rfl, J''⟩
      | false =>
        rw [if_neg Bool.false_ne_true] at hok ⊢
        obtain ⟨h', tk', gs', g'', mc'', mu'', e, k, S'', J''⟩ := hok
        exact ⟨h', tk', gs', g'', mc'', _, e, k, S'', _, rfl, J''⟩
    · obtain ⟨mu', rfl, hJ'⟩ := hJ'
      exact done ys g' mc' mu' gs h tk acc h₁.objs.size hJ' hk' (S'.perm (List.Perm.swap _ _ _)).front
  refine codeAny_compStart_list loop (I.self 0 S₃ (I.more _ (I.more _ (here _ _ _ _ _ hJ).1)) loop)

theorem comp_run {px : Pos} {elt iterE : PySem.Expr} {ifs : List PySem.Expr} {scope : Scope} {pos : Pos} {cl : List (Str × Addr)} {Q : Value → Shared → Prop}
    (I : IterOk prog w A it Here ItK n Val) (J : Nat → List Value → Heap → Mut → Array GenState → Prop)
    (S : Sx g₀ g L m ((it, ItK 0) :: mu) hp) (hJ : J 0 [] g mu gs₀) (here : ∀ i ys g mu gs, J i ys g mu gs → Here g mu ∧ ys.length ≤ i)
    (turn : ∀ (i : Nat) (v : Value) (ys : List Value) (g' : Heap) (mc' : Str → Option Value) (mu' : Mut) (gs : Array GenState) (h : Heap) (tk : Nat) (acc C : Addr) (E' : Value → Shared → Prop), i < n → Val i v → J i ys g' mu' gs → Keep g g' →
      Sx g₀ g' C (fun y => if y = x then some v else mc' y) ((it, ItK (i + 1)) :: (acc, IsL ys) :: (L, IsNs m) :: mu') h →
      wpAny (model prog w) A (forIn ifs true fun c r => if r = true then do let ok ← isTrue c (compEnvC scope cl C env) (eval c (compEnvC scope cl C env)); pure (ForInStep.yield ok) else pure (ForInStep.yield r))
        (fun ok s₁ => if ok = true then wpAny (model prog w) A (eval elt (compEnvC scope cl C env)) (fun y s' => ∃ h' tk' gs' g'' mc'' mu'', s' = ⟨h', gs', dr, tk', os⟩ ∧ Keep g' g'' ∧
            Sx g₀ g'' C mc'' ((it, ItK (i + 1)) :: (acc, IsL ys) :: (L, IsNs m) :: mu'') h' ∧ J (i + 1) (ys ++ [y]) g'' mu'' gs') E' s₁
          else ∃ h' tk' gs' g'' mc'' mu'', s₁ = ⟨h', gs', dr, tk', os⟩ ∧ Keep g' g'' ∧ Sx g₀ g'' C mc'' ((it, ItK (i + 1)) :: (acc, IsL ys) :: (L, IsNs m) :: mu'') h' ∧ J (i + 1) ys g'' mu'' gs')
        E' ⟨h, gs, dr, tk, os⟩)
    (done : ∀ (ys : List Value) (g' : Heap) (mu' : Mut) (gs : Array GenState) (h : Heap) (tk : Nat) (acc : Addr), J n ys g' mu' gs → Keep g g' → Sx g₀ g' L m ((acc, IsL ys) :: mu') h → Q (.ref acc) ⟨h, gs, dr, tk, os⟩)
    (hn : n ≤ sizeLine) (hcell : ∀ y ∈ scope.names, y.2 ≠ .cell := by decide) (hkind : scope.kind = .function := by rfl) (hx : scope.names.lookup x = some .local := by rfl) :
    wpAny (model prog w) A (newList []) (fun acc s₃ => wpAny (model prog w) A (newFunctionEnv scope env.globals cl [] env.qual none .none (some env)) (fun cenv s₄ =>
      codeAny (model prog w) A (.compStart (.ListComp elt [⟨.Name x px, iterE, ifs, 0⟩] scope pos) 0 (.ref it) acc { cenv with scope := relabel scope env }) (compPost (model prog w) A E none Q acc cenv.locals) s₄) E s₃) E ⟨hp, gs₀, dr, tk₀, os⟩ :=
  comp_core (RR := fun acc C => compPost (model prog w) A E none Q acc C) I J S hJ here hn hcell hkind hx turn fun ys g' mc' mu' gs h tk acc C hJ' hk' S' =>
    ⟨mc', S'.front.ns, fun h' hs => done ys g' mu' gs h' tk acc hJ' hk' (S'.lose hs)⟩

/-- the same where the list goes to a name of the frame at once -/
theorem comp_run_to {px py : Pos} {elt iterE : PySem.Expr} {ifs : List PySem.Expr} {scope : Scope} {pos : Pos} {cl : List (Str × Addr)} {Q : Value → Shared → Prop} {y : Str}
    (I : IterOk prog w A it Here ItK n Val) (J : Nat → List Value → Heap → Mut → Array GenState → Prop)
    (S : Sx g₀ g L m ((it, ItK 0) :: mu) hp) (hJ : J 0 [] g mu gs₀) (here : ∀ i ys g mu gs, J i ys g mu gs → Here g mu ∧ ys.length ≤ i)
    (turn : ∀ (i : Nat) (v : Value) (ys : List Value) (g' : Heap) (mc' : Str → Option Value) (mu' : Mut) (gs : Array GenState) (h : Heap) (tk : Nat) (acc C : Addr) (E' : Value → Shared → Prop), i < n → Val i v → J i ys g' mu' gs → Keep g g' →
      Sx g₀ g' C (fun y => if y = x then some v else mc' y) ((it, ItK (i + 1)) :: (acc, IsL ys) :: (L, IsNs m) :: mu') h →
      wpAny (model prog w) A (forIn ifs true fun c r => if r = true then do let ok ← isTrue c (compEnvC scope cl C env) (eval c (compEnvC scope cl C env)); pure (ForInStep.yield ok) else pure (ForInStep.yield r))
        (fun ok s₁ => if ok = true then wpAny (model prog w) A (eval elt (compEnvC scope cl C env)) (fun y s' => ∃ h' tk' gs' g'' mc'' mu'', s' = ⟨h', gs', dr, tk', os⟩ ∧ Keep g' g'' ∧
            Sx g₀ g'' C mc'' ((it, ItK (i + 1)) :: (acc, IsL ys) :: (L, IsNs m) :: mu'') h' ∧ J (i + 1) (ys ++ [y]) g'' mu'' gs') E' s₁
          else ∃ h' tk' gs' g'' mc'' mu'', s₁ = ⟨h', gs', dr, tk', os⟩ ∧ Keep g' g'' ∧ Sx g₀ g'' C mc'' ((it, ItK (i + 1)) :: (acc, IsL ys) :: (L, IsNs m) :: mu'') h' ∧ J (i + 1) ys g'' mu'' gs')
        E' ⟨h, gs, dr, tk, os⟩)
    (done : ∀ (ys : List Value) (g' : Heap) (mu' : Mut) (gs : Array GenState) (h : Heap) (tk : Nat) (acc : Addr), J n ys g' mu' gs → Keep g g' →
      Sx g₀ g' L (fun z => if z = y then some (.ref acc) else m z) ((acc, IsL ys) :: mu') h → Q .none ⟨h, gs, dr, tk, os⟩)
    (hn : n ≤ sizeLine) (hcell : ∀ y ∈ scope.names, y.2 ≠ .cell := by decide) (hkind : scope.kind = .function := by rfl) (hx : scope.names.lookup x = some .local := by rfl)
    (hL : env.locals = L := by rfl) (hk : env.scope.kind = .function := by rfl) (hy : env.kindOf y = some .local := by rfl) :
    wpAny (model prog w) A (newList []) (fun acc s₃ => wpAny (model prog w) A (newFunctionEnv scope env.globals cl [] env.qual none .none (some env)) (fun cenv s₄ =>
      codeAny (model prog w) A (.compStart (.ListComp elt [⟨.Name x px, iterE, ifs, 0⟩] scope pos) 0 (.ref it) acc { cenv with scope := relabel scope env }) (compPost (model prog w) A E (some (assign (.Name y py) env)) Q acc cenv.locals) s₄) E s₃) E ⟨hp, gs₀, dr, tk₀, os⟩ :=
  comp_core (RR := fun acc C => compPost (model prog w) A E (some (assign (.Name y py) env)) Q acc C) I J S hJ here hn hcell hkind hx turn fun ys g' mc' mu' gs h tk acc C hJ' hk' S' => by
    show wpAny _ A (assign (.Name y py) env (.ref acc)) _ _ _
    refine wpAny_assign_Name (st_loc S' (fun h₂ tk₂ S₂ => ?_) hL hk hy)
    exact ⟨mc', S₂.front.ns, fun h' hs => done ys g' mu' gs h' tk₂ acc hJ' hk' (S₂.lose hs)⟩

theorem comp_eval {px : Pos} {elt iterE : PySem.Expr} {ifs : List PySem.Expr} {scope : Scope} {pos : Pos} {cl : List (Str × Addr)} {Q : Value → Shared → Prop} (hclos : closureFor scope env = pure cl)
    (h : wpAny (model prog w) A (eval iterE env) (fun xv s₁ => wpAny (model prog w) A (pyIter xv) (fun itv s₂ => wpAny (model prog w) A (newList []) (fun acc s₃ => wpAny (model prog w) A (newFunctionEnv scope env.globals cl [] env.qual none .none (some env)) (fun cenv s₄ =>
      codeAny (model prog w) A (.compStart (.ListComp elt [⟨.Name x px, iterE, ifs, 0⟩] scope pos) 0 itv acc { cenv with scope := relabel scope env }) (compPost (model prog w) A E none Q acc cenv.locals) s₄) E s₃) E s₂) E s₁) E ⟨hp, gs₀, dr, tk₀, os⟩)
    (hkind : scope.kind = .function := by rfl) (hnames : ∀ y ∈ scope.names, y.2 = .local → scope.names.lookup y.1 = some .local := by decide) (hs : ∀ x, foldedSetIterable iterE env x = pure x := by intro _; rfl) :
    wpAny (model prog w) A (eval (.ListComp elt [⟨.Name x px, iterE, ifs, 0⟩] scope pos) env) Q E ⟨hp, gs₀, dr, tk₀, os⟩ := by
  rw [eval_ListComp]
  exact wpAny_comprehension_free (use := none) rfl hs hclos hkind hnames h

theorem comp_to {px py : Pos} {elt iterE : PySem.Expr} {ifs : List PySem.Expr} {scope : Scope} {pos spos : Pos} {cl : List (Str × Addr)} {Q : Flow → Shared → Prop} {y : Str} (hclos : closureFor scope env = pure cl)
    (h : wpAny (model prog w) A (eval iterE env) (fun xv s₁ => wpAny (model prog w) A (pyIter xv) (fun itv s₂ => wpAny (model prog w) A (newList []) (fun acc s₃ => wpAny (model prog w) A (newFunctionEnv scope env.globals cl [] env.qual none .none (some env)) (fun cenv s₄ =>
      codeAny (model prog w) A (.compStart (.ListComp elt [⟨.Name x px, iterE, ifs, 0⟩] scope pos) 0 itv acc { cenv with scope := relabel scope env }) (compPost (model prog w) A E (some (assign (.Name y py) env)) (fun _ s' => Q .next s') acc cenv.locals) s₄) E s₃) E s₂) E s₁) E ⟨hp, gs₀, dr, tk₀, os⟩)
    (hsw : swapsWith (.ListComp elt [⟨.Name x px, iterE, ifs, 0⟩] scope pos) (some (.Name y py)) spos.line env = pure true := by rfl)
    (hkind : scope.kind = .function := by rfl) (hnames : ∀ y ∈ scope.names, y.2 = .local → scope.names.lookup y.1 = some .local := by decide) (hs : ∀ x, foldedSetIterable iterE env x = pure x := by intro _; rfl) :
    wpAny (model prog w) A (exec (.Assign [.Name y py] (.ListComp elt [⟨.Name x px, iterE, ifs, 0⟩] scope pos) spos) env) Q E ⟨hp, gs₀, dr, tk₀, os⟩ := by
  rw [exec_Assign_Name_used _ _ _ _ hsw]
  refine wpAny_bind (wpAny_standAt (wpAny_bind ?_))
  show wpAny _ A (do let _ ← comprehension (.ListComp elt [⟨.Name x px, iterE, ifs, 0⟩] scope pos) scope env _ (newList []) false (eval iterE env) (some (assign (.Name y py) env))) _ _ ⟨hp, gs₀, dr, tk₀, os⟩
  exact wpAny_bind (wpAny_mono (wpAny_comprehension_free (use := some (assign (.Name y py) env)) (Q := fun _ s' => Q .next s') rfl hs hclos hkind hnames h) (fun _ s' hq => wpAny_pure (wpAny_pure hq)) fun _ _ e => e)
end
end
section
/-! ## Tuples and ranges as sources -/
def IsTIt (l : Addr) (i : Nat) (o : Obj) : Prop := o.cls = .type "tuple_iterator" ∧ o.data = .fields #[.ref l, .int i 0]
def IsRg (a b c : Int) (o : Obj) : Prop := ∃ t u v, o = { cls := .type "range", dict := none, data := .fields #[.int a t, .int b u, .int c v], slots := #[] }
def IsRIt (x left step : Int) (o : Obj) : Prop := o = { cls := .type "range_iterator", dict := none, data := .fields #[rawInt x, rawInt left, rawInt step], slots := #[] }
def TupIn (g : Heap) (mu : Mut) (a : Addr) (vs : List Value) : Prop := IsTup g a vs.toArray ∨ (a, IsT vs) ∈ mu
section
variable {g₀ g g' h : Heap} {L a : Addr} {m : Str → Option Value} {mu : Mut} {vs : List Value}
theorem TupIn.here (S : Sx g₀ g L m mu h) (x : TupIn g mu a vs) : IsTup h a vs.toArray := x.elim (fun e => e.keeps S.keep) fun e => S.tup e
theorem TupIn.more (p : Addr × (Obj → Prop)) (x : TupIn g mu a vs) : TupIn g (p :: mu) a vs := x.imp id fun e => .tail _ e
end

section
variable {prog : Program} {w : World} {A : Around} {a it : Addr} {vs : List Value}
theorem iter_tuple' (hh : A.handled = none) (hself : True := trivial) : ∀ {g₀ g : Heap} {L : Addr} {m : Str → Option Value} {mu : Mut} {hp : Heap} {gs₀ : Array GenState} {dr : Drawn} {tk₀ : Nat} {os : OsState} {E : Value → Shared → Prop} {Q : Option Value → Shared → Prop} (i : Nat), i < vs.length → Sx g₀ g L m ((it, IsTIt a i) :: mu) hp → TupIn g mu a vs →
    (∀ v h' tk, vs[i]? = some v → Sx g₀ g L m ((it, IsTIt a (i + 1)) :: mu) h' → Q (some v) ⟨h', gs₀, dr, tk, os⟩) → wpAny (model prog w) A (pyNext (.ref it)) Q E ⟨hp, gs₀, dr, tk₀, os⟩ := by
  intro g₀ g L m mu hp gs₀ dr tk₀ os E Q i hi S hl h
  obtain ⟨o, e, c, d⟩ := S.get _ (.head _)
  have hx : vs.toArray[i]? = some vs[i] := by simp [hi]
  refine next_tuple_item (it := it) (t := a) (i := i) ⟨o, e, c, d⟩ (hl.here S.drop) hx fun h' hit hs => ?_
  obtain ⟨o', e', c', d'⟩ := hit
  exact h _ _ tk₀ (by simp [hi]) (S.upd .head hs e' ⟨c', d'⟩)
theorem iter_tup (hh : A.handled = none) : IterOk prog w A it (fun g mu => TupIn g mu a vs) (IsTIt a) vs.length (fun i v => vs[i]? = some v) where
  next := fun i hi S hl h => iter_tuple' hh trivial i hi S hl h
  stop := by
    intro g₀ g L m mu hp gs₀ dr tk₀ os E Q S hl h
    obtain ⟨o, e, c, d⟩ := S.get _ (.head _)
    refine next_tuple_end (it := it) (t := a) (i := vs.length) hh ⟨o, e, c, d⟩ (hl.here S.drop) (by simp) fun h' hs => ?_
    exact h _ tk₀ (ext_lose S hs)
  self := by
    intro g₀ g L m mu hp gs₀ dr tk₀ os E Q i S hl h
    obtain ⟨o, e, c, d⟩ := S.get _ (.head _)
    have hT : (⟨hp, gs₀, dr, tk₀, os⟩ : Shared).TypeIs (.ref it) "tuple_iterator" := ⟨o, e, c⟩
    refine wpAny_pyIter_slot hT F.slot_tuple_iterator_iter (wpAny_call_entry F.slot_tuple_iterator_iter hT F.entry_tuple_iterator_iter ?_ (F.args_tuple_iterator_iter_1 _))
    show wpAny _ _ (ret (.ref it)) _ _ ⟨hp, gs₀, dr, tk₀, os⟩
    exact wpAny_pure ⟨_, rfl, "tuple_iterator", _, hT, F.slot_tuple_iterator_next.lookup, h⟩
  more := fun p x => x.more p
theorem iter_of_tup {g₀ g : Heap} {L : Addr} {m : Str → Option Value} {mu : Mut} {hp : Heap} {gs₀ : Array GenState} {dr : Drawn} {tk₀ : Nat} {os : OsState} {E : Value → Shared → Prop} {Q : Value → Shared → Prop} (S : Sx g₀ g L m mu hp) (hl : TupIn g mu a vs)
    (h : ∀ it h', Sx g₀ g L m ((it, IsTIt a 0) :: mu) h' → Q (.ref it) ⟨h', gs₀, dr, tk₀, os⟩) : wpAny (model prog w) A (pyIter (.ref a)) Q E ⟨hp, gs₀, dr, tk₀, os⟩ :=
  PyProof.Rows.iter_tuple (hl.here S) (h _ _ (S.alloc rfl ⟨rfl, rfl⟩))

theorem iter_rng {x c : Int} {n : Nat} (hh : A.handled = none) : IterOk prog w A it (fun _ _ => True) (fun i => IsRIt (x + i * c) ((n : Int) - i) c) n (fun i v => ∃ t, v = .int (x + i * c) t) where
  next := by
    intro g₀ g L m mu hp gs₀ dr tk₀ os E Q i hi S _ h
    obtain ⟨o, e, q⟩ := S.get _ (.head _)
    have q : o = _ := q
    subst q
    refine wpAny_pyNext_range_item e (by omega) fun h' hit hs => ?_
    refine h _ h' _ ⟨_, rfl⟩ (S.upd .head hs hit ?_)
    show _ = _
    rw [show x + ((i + 1 : Nat) : Int) * c = x + i * c + c by rw [show ((i + 1 : Nat) : Int) = i + 1 by omega, Int.add_mul]; omega, show (n : Int) - ((i + 1 : Nat) : Int) = n - i - 1 by omega]
  stop := by
    intro g₀ g L m mu hp gs₀ dr tk₀ os E Q S _ h
    obtain ⟨o, e, q⟩ := S.get _ (.head _)
    have q : o = _ := q
    subst q
    exact wpAny_pyNext_range_end hh e (by omega) fun h' hs => h _ tk₀ (ext_lose S hs)
  self := by
    intro g₀ g L m mu hp gs₀ dr tk₀ os E Q i S _ h
    obtain ⟨o, e, q⟩ := S.get _ (.head _)
    have q : o = _ := q
    have hT : (⟨hp, gs₀, dr, tk₀, os⟩ : Shared).TypeIs (.ref it) "range_iterator" := ⟨o, e, by rw [q]⟩
    refine wpAny_pyIter_slot hT F.slot_range_iterator_iter (call_meets F.slot_range_iterator_iter hT F.entry_range_iterator_iter (F.args_range_iterator_iter_1 _) (S := fun _ R s => R (.ok (.ret (.ref it))) s) ?_ ⟨"range_iterator", _, hT, F.slot_range_iterator_next.lookup, h⟩)
    intro prog w A R ⟨hp, gs₀, dr, tk₀, os⟩ hs
    exact wpAny_pure hs
  more := fun _ _ => trivial
theorem iter_of_rng {g₀ g : Heap} {L : Addr} {m : Str → Option Value} {mu : Mut} {hp : Heap} {gs₀ : Array GenState} {dr : Drawn} {tk₀ : Nat} {os : OsState} {E : Value → Shared → Prop} {Q : Value → Shared → Prop} {x y c : Int} (S : Sx g₀ g L m ((a, IsRg x y c) :: mu) hp) (hsmall : Builtin.Range.small x y c = true)
    (h : ∀ it h', Sx g₀ g L m ((it, IsRIt x (Builtin.Range.rangeSize x y c) c) :: mu) h' → Q (.ref it) ⟨h', gs₀, dr, tk₀, os⟩) : wpAny (model prog w) A (pyIter (.ref a)) Q E ⟨hp, gs₀, dr, tk₀, os⟩ := by
  obtain ⟨o, e, t, u, v, rfl⟩ := S.get _ (.head _)
  exact wpAny_pyIter_range e hsmall (h _ _ (S.drop.alloc rfl rfl))
theorem mk_rng1 {g₀ g : Heap} {L : Addr} {m : Str → Option Value} {mu : Mut} {hp : Heap} {gs₀ : Array GenState} {dr : Drawn} {tk₀ : Nat} {os : OsState} {E : Value → Shared → Prop} {Q : Value → Shared → Prop} {n : Int} {t : Tok} (S : Sx g₀ g L m mu hp)
    (h : ∀ a h' tk, Sx g₀ g L m ((a, IsRg 0 n 1) :: mu) h' → Q (.ref a) ⟨h', gs₀, dr, tk, os⟩) : wpAny (model prog w) A (call (.type "range") [.int n t]) Q E ⟨hp, gs₀, dr, tk₀, os⟩ :=
  call_range_1 (h _ _ _ (S.alloc rfl ⟨_, _, _, rfl⟩))
theorem mk_rng2 {g₀ g : Heap} {L : Addr} {m : Str → Option Value} {mu : Mut} {hp : Heap} {gs₀ : Array GenState} {dr : Drawn} {tk₀ : Nat} {os : OsState} {E : Value → Shared → Prop} {Q : Value → Shared → Prop} {x n : Int} {t u : Tok} (S : Sx g₀ g L m mu hp)
    (h : ∀ a h' tk, Sx g₀ g L m ((a, IsRg x n 1) :: mu) h' → Q (.ref a) ⟨h', gs₀, dr, tk, os⟩) : wpAny (model prog w) A (call (.type "range") [.int x u, .int n t]) Q E ⟨hp, gs₀, dr, tk₀, os⟩ :=
  call_range_2 (h _ _ _ (S.alloc rfl ⟨_, _, _, rfl⟩))
theorem mk_rng3 {g₀ g : Heap} {L : Addr} {m : Str → Option Value} {mu : Mut} {hp : Heap} {gs₀ : Array GenState} {dr : Drawn} {tk₀ : Nat} {os : OsState} {E : Value → Shared → Prop} {Q : Value → Shared → Prop} {x n c : Int} {t u v : Tok} (S : Sx g₀ g L m mu hp) (hc : c ≠ 0) (hdp : Builtin.divisionGoesByPylong (n - x) c = false)
    (h : ∀ a h' tk, Sx g₀ g L m ((a, IsRg x n c) :: mu) h' → Q (.ref a) ⟨h', gs₀, dr, tk, os⟩) : wpAny (model prog w) A (call (.type "range") [.int x u, .int n t, .int c v]) Q E ⟨hp, gs₀, dr, tk₀, os⟩ :=
  call_range_3 hc (h _ _ _ (S.alloc rfl ⟨_, _, _, rfl⟩)) (.inl hdp)
end
section
variable {prog : Program} {w : World} {A : Around} {a : Addr} {vs : List Value} {g₀ g : Heap} {L : Addr} {m : Str → Option Value} {mu : Mut} {hp : Heap} {gs₀ : Array GenState} {dr : Drawn} {tk₀ : Nat} {os : OsState} {E : Value → Shared → Prop} {Q : Unit → Shared → Prop} {env : Env} {elts : List PySem.Expr} {k : Nat} {pos : Pos}
theorem asg_tup (S : Sx g₀ g L m mu hp) (hm : TupIn g mu a vs) (hh : A.handled = none) (hn : (assignEach elts env).length = vs.length) (hstar : (assignEach elts env).findIdx? (·.1) = none)
    (h : ∀ h', Sx g₀ g L m mu h' → wpAny (model prog w) A (assignInOrder ((assignEach elts env).map (·.2)) vs) Q E ⟨h', gs₀, dr, tk₀, os⟩) :
    wpAny (model prog w) A (assign (.Tuple elts k pos) env (.ref a)) Q E ⟨hp, gs₀, dr, tk₀, os⟩ := by
  refine assign_Tuple_tuple hh (hm.here S) (by simpa using hn) hstar fun h' he => h h' ?_
  have S' : Sx g₀ g L m ((hp.objs.size, fun _ => True) :: mu) (hp.push { cls := .none }) := S.alloc rfl trivial
  have he' : Heap.ExtBut hp.objs.size hp h' := he
  refine S.grow fun b o e => he b o (Nat.ne_of_lt (Heap.lt_size e)) e
end

theorem Ok.mono {A : Around} {m n : Nat} (e : m ≤ n) (O : Ok A n) : Ok A m := ⟨O.handled, by have := O.depth; omega, by have := O.units; omega⟩
theorem keep_fn {K : Frag} {f c : Addr} {qual : Str} {st : Stmt} (FI : FnIs K f c qual st) : keepIn K (.ref f) = true := by
  obtain ⟨od, doc, pm, osl, ho, _⟩ := FI
  simp only [keepIn, ho]
theorem cw_fn {K : Frag} {f c : Addr} {qual : Str} {st : Stmt} (FI : FnIs K f c qual st) {M : Model} {A : Around} {E : Value → Shared → Prop} {hp : Heap} {gs₀ : Array GenState} {dr : Drawn} {tk₀ : Nat} {os : OsState} {env : Env} {pos : Pos} {Q : Value → Shared → Prop} {e : PySem.Expr} {rest : List PySem.Expr}
    (h : wpAny M A (spliced (backTo pos (starEach (e :: rest) env))) (fun vs s₁ => K.In s₁.heap ∧ wpAny M A (call (.ref f) vs) Q E s₁) E ⟨hp, gs₀, dr, tk₀, os⟩)
    (he : starEach (e :: rest) env = (false, eval e env) :: starEach rest env := by rfl) (hplain : (backTo pos (starEach rest env)).any (·.1) = false := by rfl) :
    wpAny M A (callWith pos (.ref f) [] (backTo pos (starEach (e :: rest) env)) []) Q E ⟨hp, gs₀, dr, tk₀, os⟩ := by
  rw [he] at h ⊢
  exact callWith_of (by show ((false || (backTo pos (starEach rest env)).any (·.1)) || false) = false; rw [hplain]; rfl) (keeps_K (keep_fn FI)) (evalArgs_plain h)
end
section
/-! ## One turn of a for loop; its end -/
section
variable {prog : Program} {w : World} {A : Around} {hp : Heap} {gs₀ : Array GenState} {dr : Drawn} {tk₀ : Nat} {os : OsState} {g₀ g : Heap} {L it : Addr} {m : Str → Option Value} {mu : Mut} {env : Env}
  {Here : Heap → Mut → Prop} {ItK : Nat → Obj → Prop} {n : Nat} {Val : Nat → Value → Prop} {x : Str} {R : Result → Shared → Prop}
theorem for_next {pv : Pos} {body orelse : List Stmt} {i : Nat} (I : IterOk prog w A it Here ItK n Val) (S : Sx g₀ g L m ((it, ItK i) :: mu) hp) (hi : i < n) (hH : Here g mu)
    (h : ∀ v h' tk E', Val i v → Sx g₀ g L (fun y => if y = x then some v else m y) ((it, ItK (i + 1)) :: mu) h' → wpAny (model prog w) A (execs body env) (fun f s' => match f with
      | .next | .cont => codeAny (model prog w) A (.forLoop (.Name x pv) (.ref it) body orelse env) R s'
      | .brk => R (.ok .next) s'
      | .ret v => R (.ok (.ret v)) s') E' ⟨h', gs₀, dr, tk, os⟩)
    (hL : env.locals = L := by rfl) (hk : env.scope.kind = .function := by rfl) (hx : env.kindOf x = some .local := by rfl) :
    codeAny (model prog w) A (.forLoop (.Name x pv) (.ref it) body orelse env) R ⟨hp, gs₀, dr, tk₀, os⟩ := by
  refine codeAny_of_tree ?_
  show wpAny _ A ((forTurn (.Name x pv) (.ref it) body orelse env).onRaise (fun x => do noteFrame x env; theTreesLotGoes x)) _ _ ⟨hp, gs₀, dr, tk₀, os⟩
  refine wpAny_noted ?_
  simp only [forTurn]
  refine wpAny_bind (wpAny_standAt (wpAny_bind (wpAny_onRaise (I.next i hi S hH fun v h' tk hv S' => ?_))))
  refine wpAny_bind (wpAny_pure (wpAny_bind (wpAny_assign_Name (st_loc S' (fun h₂ tk₂ S₂ => ?_) hL hk hx))))
  refine wpAny_bind (wpAny_mono (h v h₂ tk₂ _ hv S₂) (fun f s₃ h₃ => ?_) fun _ _ e => e)
  cases f with
  | next => exact wpAny_pure ⟨rfl, h₃⟩
  | cont => exact wpAny_pure ⟨rfl, h₃⟩
  | brk => exact wpAny_pure h₃
  | ret v => exact wpAny_pure h₃
theorem for_stop {pv : Pos} {body : List Stmt} (I : IterOk prog w A it Here ItK n Val) (S : Sx g₀ g L m ((it, ItK n) :: mu) hp) (hH : Here g mu)
    (h : ∀ h' tk, Sx g₀ g L m mu h' → R (.ok .next) ⟨h', gs₀, dr, tk, os⟩) :
    codeAny (model prog w) A (.forLoop (.Name x pv) (.ref it) body [] env) R ⟨hp, gs₀, dr, tk₀, os⟩ := by
  refine codeAny_of_tree ?_
  show wpAny _ A ((forTurn (.Name x pv) (.ref it) body [] env).onRaise (fun x => do noteFrame x env; theTreesLotGoes x)) _ _ ⟨hp, gs₀, dr, tk₀, os⟩
  refine wpAny_noted ?_
  simp only [forTurn]
  refine wpAny_bind (wpAny_standAt (wpAny_bind (wpAny_onRaise (I.stop S hH fun h' tk S' => ?_))))
  exact wpAny_pure ⟨rfl, codeAny_block (wpAny_execs_nil (h h' tk S'))⟩
end
theorem Ok.deeperM {A : Around} {m n : Nat} {env : Env} (O : Ok A n) (e : m + 1 ≤ n) : Ok (A.deeper env) m := (O.mono e).deeper
theorem Ok.in1M {A : Around} {m n : Nat} (O : Ok A n) (e : m + 1 ≤ n) : Ok A.in1 m := (O.mono e).in1
theorem Ok.monoM {A : Around} {m n : Nat} (O : Ok A n) (e : m ≤ n) : Ok A m := O.mono e

def Fresh (h h' : Heap) (r : Addr) (P : Obj → Prop) : Prop := h.get? r = none ∧ ∃ o, h'.get? r = some o ∧ P o
section
variable {g₀ g h h' : Heap} {L r : Addr} {m : Str → Option Value} {mu : Mut} {P : Obj → Prop}
theorem Sx.take (S : Sx g₀ g L m mu h) (k : Keep h h') (f : Fresh h h' r P) : Sx g₀ g L m ((r, P) :: mu) h' := let ⟨n, _, e, q⟩ := f; S.adopt k n e q
theorem Sx.give (S : Sx g₀ g L m mu h) (hm : (r, P) ∈ mu) : Fresh g₀ h r P := by
  refine ⟨?_, S.get _ hm⟩
  cases e : g₀.get? r with
  | none => rfl
  | some o =>
    have := S.base _ _ e
    rw [S.gm _ hm] at this
    cases this
end
end
section
/-! ## Lists of texts -/
theorem norm {α : Type} {M : Model} {A : Around} {E : Value → Shared → Prop} {t : Sem α} {Q : α → Shared → Prop} {s : Shared} {h : Heap} {gs : Array GenState} {dr : Drawn} {os : OsState} (e1 : s.heap = h) (e2 : s.gens = gs) (e3 : s.drawn = dr) (e4 : s.os = os)
    (k : ∀ tk, wpAny M A t Q E ⟨h, gs, dr, tk, os⟩) : wpAny M A t Q E s := by
  obtain ⟨h', gs', dr', tk, os'⟩ := s
  subst e1 e2 e3 e4
  exact k tk
theorem normC {M : Model} {A : Around} {c : Code} {R : Result → Shared → Prop} {s : Shared} {h : Heap} {gs : Array GenState} {dr : Drawn} {os : OsState} (e1 : s.heap = h) (e2 : s.gens = gs) (e3 : s.drawn = dr) (e4 : s.os = os)
    (k : ∀ tk, codeAny M A c R ⟨h, gs, dr, tk, os⟩) : codeAny M A c R s := by
  obtain ⟨h', gs', dr', tk, os'⟩ := s
  subst e1 e2 e3 e4
  exact k tk
section
variable {g₀ g h : Heap} {L a : Addr} {m : Str → Option Value} {mu mu' : Mut} {P P' : Obj → Prop}
theorem Sx.weaken (S : Sx g₀ g L m mu h) (u : Up a P P' mu mu') (q : ∀ o, P o → P' o) : Sx g₀ g L m mu' h := by
  obtain ⟨o, e, p⟩ := S.get _ u.mem
  exact S.upd u (Heap.SameBut.refl _ _) e (q o p)
theorem isS_of {l : List (Str × Tok)} : ∀ o, IsL (strValues l) o → IsS (l.map (·.1)) o := fun _ p => ⟨l, rfl, p⟩
theorem Sx.openS {ss : List Str} (S : Sx g₀ g L m mu h) (hm : (a, IsS ss) ∈ mu) : ∃ l : List (Str × Tok), l.map (·.1) = ss ∧ ∀ mu', Up a (IsS ss) (IsL (strValues l)) mu mu' → Sx g₀ g L m mu' h := by
  obtain ⟨o, e, l, hl, p⟩ := S.get _ hm
  exact ⟨l, hl, fun mu' u => S.upd u (Heap.SameBut.refl _ _) e p⟩
theorem Sx.listS {ss : List Str} (S : Sx g₀ g L m mu h) (hm : (a, IsS ss) ∈ mu) : ∃ l : List (Str × Tok), l.map (·.1) = ss ∧ h.IsList a (strValues l).toArray := by
  obtain ⟨o, e, l, hl, n, rfl⟩ := S.get _ hm
  exact ⟨l, hl, _, e, rfl, n, rfl⟩
end

section
variable {prog : Program} {w : World} {A : Around} {E : Value → Shared → Prop} {hp : Heap} {gs₀ : Array GenState} {dr : Drawn} {tk₀ : Nat} {os : OsState} {g₀ g : Heap} {L a : Addr} {m : Str → Option Value} {mu mu' : Mut} {Q : Value → Shared → Prop} {ss : List Str} {c : Str} {t u : Tok}
theorem strValues_append (l : List (Str × Tok)) (c : Str) (t : Tok) : strValues (l ++ [(c, t)]) = strValues l ++ [.str c t] := by simp [strValues]
theorem strValues_length (l : List (Str × Tok)) : (strValues l).length = l.length := by simp [strValues]
theorem Up.retail {a : Addr} {P P' P'' : Obj → Prop} {mu mu' : Mut} (u : Up a P P' mu mu') : ∃ mu'', Up a P P'' mu mu'' ∧ Up a P'' P' mu'' mu' := by
  induction u with
  | head => exact ⟨_, .head, .head⟩
  | tail _ ih => obtain ⟨r, x, y⟩ := ih; exact ⟨_, .tail x, .tail y⟩
theorem Up.other {a : Addr} {P P' P'' : Obj → Prop} {mu mu' : Mut} (u : Up a P P' mu mu') : ∃ mu'', Up a P P'' mu mu'' := let ⟨r, x, _⟩ := u.retail (P'' := P''); ⟨r, x⟩

theorem ls_append (S : Sx g₀ g L m mu hp) (up : Up a (IsS ss) (IsS (ss ++ [c])) mu mu') (hn : ss.length ≤ sizeLine) (h : ∀ h', Sx g₀ g L m mu' h' → Q .none ⟨h', gs₀, dr, tk₀, os⟩) : wpAny (model prog w) A (call (.builtin "list.append") [.ref a, .str c t]) Q E ⟨hp, gs₀, dr, tk₀, os⟩ := by
  obtain ⟨l, hl, k⟩ := S.openS up.mem
  obtain ⟨mu₁, u₁, u₂⟩ := up.retail (P'' := IsL (strValues l))
  obtain ⟨mu₂, u₃, u₄⟩ := u₂.retail (P'' := IsL (strValues l ++ [.str c t]))
  refine l_append (k _ u₁) u₃ (by rw [strValues_length]; have := congrArg List.length hl; rw [List.length_map] at this; omega) fun h' S' => h h' ?_
  refine S'.weaken u₄ fun o p => ⟨l ++ [(c, t)], by simp [hl], ?_⟩
  rw [strValues_append]; exact p
theorem ls_pop (S : Sx g₀ g L m mu hp) (up : Up a (IsS ss) (IsS ss.dropLast) mu mu') (hne : ss ≠ []) (hn : ss.length ≤ sizeLine) (h : ∀ c t h', Sx g₀ g L m mu' h' → Q (.str c t) ⟨h', gs₀, dr, tk₀, os⟩) : wpAny (model prog w) A (call (.builtin "list.pop") [.ref a]) Q E ⟨hp, gs₀, dr, tk₀, os⟩ := by
  obtain ⟨l, hl, k⟩ := S.openS up.mem
  have hlen := congrArg List.length hl
  rw [List.length_map] at hlen
  have hl0 : l ≠ [] := by rintro rfl; exact hne hl.symm
  obtain ⟨p, q, rfl⟩ : ∃ p q, l = p ++ [q] := ⟨l.dropLast, l.getLast hl0, (List.dropLast_concat_getLast hl0).symm⟩
  have e : strValues (p ++ [q]) = strValues p ++ [.str q.1 q.2] := by obtain ⟨q1, q2⟩ := q; exact strValues_append p q1 q2
  obtain ⟨mu₁, u₁, u₂⟩ := up.retail (P'' := IsL (strValues (p ++ [q])))
  obtain ⟨mu₂, u₃, u₄⟩ := u₂.retail (P'' := IsL (strValues p))
  rw [e] at u₃
  have S' := k _ u₁
  refine l_pop S' u₃ (by rw [strValues_length]; rw [List.length_append] at hlen; simp at hlen; omega) fun h' S' => h _ _ h' ?_
  refine S'.weaken u₄ fun o z => ⟨p, ?_, z⟩
  rw [← hl]; simp
theorem ls_truthy {Q : Bool → Shared → Prop} (S : Sx g₀ g L m mu hp) (hm : (a, IsS ss) ∈ mu) (hn : ss.length ≤ sizeLine) (h : ∀ tk, Q (!ss.isEmpty) ⟨hp, gs₀, dr, tk, os⟩) : wpAny (model prog w) A (truthy (.ref a)) Q E ⟨hp, gs₀, dr, tk₀, os⟩ := by
  obtain ⟨l, hl, k⟩ := S.listS hm
  have hlen := congrArg List.length hl
  rw [List.length_map] at hlen
  refine wpAny_truthy_list k (by rw [List.size_toArray, strValues_length]; rw [sizeLine_eq] at hn; omega) ?_
  have : (strValues l).toArray.isEmpty = ss.isEmpty := by subst hl; cases l <;> rfl
  rw [this]; exact h _
theorem ls_last {value slice : PySem.Expr} (S : Sx g₀ g L m mu hp) (hm : (a, IsS ss) ∈ mu) (hne : ss ≠ []) (h : ∀ t, Q (.str (ss.getLast hne) t) ⟨hp, gs₀, dr, tk₀, os⟩)
    (hs : subscripted slice false (.ref a) (.int (-1) u) = operate [.ref a, .int (-1) u] (getItem (.ref a) (.int (-1) u)) := by with_unfolding_all rfl) :
    wpAny (model prog w) A (subscriptTail value slice (.ref a) (.int (-1) u)) Q E ⟨hp, gs₀, dr, tk₀, os⟩ := by
  obtain ⟨l, hl, k⟩ := S.listS hm
  have hl0 : l ≠ [] := by rintro rfl; exact hne hl.symm
  obtain ⟨p, q, rfl⟩ : ∃ p q, l = p ++ [q] := ⟨l.dropLast, l.getLast hl0, (List.dropLast_concat_getLast hl0).symm⟩
  have e : strValues (p ++ [q]) = strValues p ++ [.str q.1 q.2] := by obtain ⟨q1, q2⟩ := q; exact strValues_append p q1 q2
  have ne : (strValues (p ++ [q])).toArray.size = p.length + 1 := by rw [List.size_toArray, strValues_length]; simp
  refine tail_any k.typeIs slot_list_getitem.lookup (wpAny_getItem_list_neg k (by decide) (by rw [ne]; omega) (by decide) (x := .str q.1 q.2) ?_ ?_) hs
  · rw [ne, show ((-1 : Int) + ((p.length + 1 : Nat) : Int)).toNat = p.length by omega, e]
    simp [strValues]
  · have : ss.getLast hne = q.1 := by subst hl; simp
    exact this ▸ h q.2
theorem gm_S {name : Str} {id : String} {pl : Sem Bool} {Q : Value × List Value → Shared → Prop} (S : Sx g₀ g L m mu hp) (hm : (a, IsS ss) ∈ mu) (slot : Slot "list" name id) (hty : typeOf (.builtin id) = pure (.type "method_descriptor"))
    (h : Q (.builtin id, [.ref a]) ⟨hp, gs₀, dr, tk₀, os⟩) : wpAny (model prog w) A (getMethod (.ref a) name pl) Q E ⟨hp, gs₀, dr, tk₀, os⟩ := by
  obtain ⟨o, e, l, hl, n, rfl⟩ := S.get _ hm
  exact getMethod_builtin ⟨_, e, rfl⟩ PySem.F.plainAttrs_list slot hty (fun b q => by cases q; exact ⟨_, e, rfl⟩) h
theorem ls_join {x : Str} (S : Sx g₀ g L m mu hp) (hm : (a, IsS ss) ∈ mu) (hw : (ss.map (·.length)).sum + ss.length ≤ 1048576) (hx : x.length ≤ 16) (h : ∀ t' k, Q (.str (Txt.join x ss) t') ⟨hp, gs₀, dr, k, os⟩) :
    wpAny (model prog w) A (call (.builtin "str.join") [.str x t, .ref a]) Q E ⟨hp, gs₀, dr, tk₀, os⟩ := by
  obtain ⟨l, hl, k⟩ := S.listS hm
  exact SC.join k hl (PyProof.Rows.joinOk_of_weight hw hx) h
end
/-! ## Library rules, the state told by its parts -/
section
variable {prog : Program} {w : World} {A : Around} {E : Value → Shared → Prop} {hp : Heap} {gs₀ : Array GenState} {dr : Drawn} {tk₀ : Nat} {os : OsState} {Q : Value → Shared → Prop} {env : Env} {x y : Str} {t u : Tok} {pos : Pos} {i j : Int}
theorem c_str {k : Nat} (h : ∀ t tk, Q (.str x t) ⟨hp, gs₀, dr, tk, os⟩) : wpAny (model prog w) A (eval (.Constant (.str x) k pos) env) Q E ⟨hp, gs₀, dr, tk₀, os⟩ := Calls.Constant_str (h _ _)
theorem c_int {k : Nat} (h : ∀ t tk, Q (.int i t) ⟨hp, gs₀, dr, tk, os⟩) : wpAny (model prog w) A (eval (.Constant (.int i) k pos) env) Q E ⟨hp, gs₀, dr, tk₀, os⟩ := wpAny_Constant_int (h _ _)
theorem c_isi (h : ∀ tk, Q (.bool false) ⟨hp, gs₀, dr, tk, os⟩) : wpAny (model prog w) A (call (.builtin "isinstance") [.str x u, .type "bytes"]) Q E ⟨hp, gs₀, dr, tk₀, os⟩ := IsiPair.str_bytes (h _)
theorem c_rfind (h : ∀ t' tk, Q (.int (Txt.rfind x y) t') ⟨hp, gs₀, dr, tk, os⟩) : wpAny (model prog w) A (call (.builtin "str.rfind") [.str x t, .str y u]) Q E ⟨hp, gs₀, dr, tk₀, os⟩ := SC.rfind (h _ _)
theorem c_rstrip (hx : x.length ≤ 4096) (h : ∀ t' tk, Q (.str (Txt.rstripChars x y) t') ⟨hp, gs₀, dr, tk, os⟩) : wpAny (model prog w) A (call (.builtin "str.rstrip") [.str x t, .str y u]) Q E ⟨hp, gs₀, dr, tk₀, os⟩ := SC.rstripChars h (fitL hx)
theorem c_neg (h : ∀ t' tk, Q (.int (-i) t') ⟨hp, gs₀, dr, tk, os⟩) : wpAny (model prog w) A (unaryOp .USub (.int i t)) Q E ⟨hp, gs₀, dr, tk₀, os⟩ := PyProof.Rows.neg_int (h _ _)
end

theorem len_le_sum : ∀ {l : List Str} {c : Str}, c ∈ l → c.length ≤ (l.map (·.length)).sum
  | a :: l, c, h => by
    simp only [List.map_cons, List.sum_cons]
    cases h with
    | head => omega
    | tail _ h => have := len_le_sum h; omega
def wt (l : List Str) : Nat := (l.map (·.length)).sum + l.length
theorem wt_append (l : List Str) (c : Str) : wt (l ++ [c]) = wt l + c.length + 1 := by simp [wt]; omega
theorem wt_dropLast (l : List Str) : wt l.dropLast ≤ wt l := by
  rcases List.eq_nil_or_concat l with rfl | ⟨p, q, rfl⟩
  · exact Nat.le_refl _
  · simp only [List.concat_eq_append, List.dropLast_concat, wt_append]; omega
theorem len_le_wt (l : List Str) : l.length ≤ wt l := Nat.le_add_left _ _
end
section
/-! ## The plain words: pieces, rows, paths -/
def menu : List Str := ["a", "b", "..", ".", "", "ab"]
def textOf (ps : List Str) : Str := Txt.join "/" ("." :: ps)
def nstep (new : List Str) (c : Str) : List Str :=
  if c = "" ∨ c = "." then new else if c ≠ ".." ∨ new.getLast? = some ".." then new ++ [c] else new.dropLast
def rstep (row : List Str) (c : Str) : List Str := if c = ".." then row.dropLast else if c ≠ "" ∧ c ≠ "." then row ++ [c] else row
def pathOf (r : List Str) : Str := "/" ++ Txt.join "/" r
def normF (x : Str) : Str := pathOf ((Txt.split (Txt.slice x (some 1) none) "/").foldl nstep [])
def rowF (t : Str) : List Str := (Txt.split t "/").foldl rstep []
def letters : List Str := ["a", "b", "ab"]
def rowsOf : Nat → List (List Str)
  | 0 => [[]]
  | n + 1 => [[]] ++ (rowsOf n).flatMap fun r => letters.map fun c => c :: r
def allRows : List (List Str) := rowsOf 4
def quads : List (List Str) := menu.flatMap fun a => menu.flatMap fun b => menu.flatMap fun c => menu.map fun d => [a, b, c, d]
theorem test1 : quads.length = 1296 := by decide +kernel
--theorem test2 : (quads.all fun ps => normF ("/" ++ textOf ps) == pathOf (rowF (textOf ps))) = true := by decide +kernel

theorem wt_nstep (l : List Str) (c : Str) : wt (nstep l c) ≤ wt l + c.length + 1 := by
  unfold nstep
  split
  · omega
  · split
    · rw [wt_append]; omega
    · have := wt_dropLast l; omega
theorem wt_rstep (l : List Str) (c : Str) : wt (rstep l c) ≤ wt l + c.length + 1 := by
  unfold rstep
  split
  · have := wt_dropLast l; omega
  · split
    · rw [wt_append]; omega
    · omega
theorem wt_fold (f : List Str → Str → List Str) (hf : ∀ l c, wt (f l c) ≤ wt l + c.length + 1) : ∀ (cs : List Str) (l : List Str), wt (cs.foldl f l) ≤ wt l + wt cs
  | [], l => by simp [wt]
  | c :: cs, l => by
    have h1 := wt_fold f hf cs (f l c)
    have h2 := hf l c
    have h3 : wt (c :: cs) = c.length + 1 + wt cs := by simp [wt]; omega
    simp only [List.foldl_cons]
    omega
theorem wt_take (cs : List Str) (i : Nat) : wt (cs.take i) ≤ wt cs := by
  induction cs generalizing i with
  | nil => simp
  | cons c cs ih =>
    cases i with
    | zero => simp [wt]
    | succ i =>
      have := ih i
      simp only [List.take_succ_cons]
      have h3 : ∀ l : List Str, wt (c :: l) = c.length + 1 + wt l := fun l => by simp [wt]; omega
      rw [h3, h3]; omega
end
section
section
variable {K : Frag} {prog : Program} {w : World} {A : Around} {hp : Heap} {gs₀ : Array GenState} {dr : Drawn} {tk₀ : Nat} {os : OsState} {E : Value → Shared → Prop} {Q : Value → Shared → Prop} {g₀ g : Heap} {L : Addr} {m : Str → Option Value} {mu : Mut}

theorem fspath_ok (KK : KF K) {R : Result → Shared → Prop} {x : Str} {t : Tok} (C : Cx K hp) (O : Ok A 2) (h : ∀ h' tk, Keep hp h' → R (.ok (.ret (.str x t))) ⟨h', gs₀, dr, tk, os⟩) :
    codeAny (model prog w) A (.call (.ref 94) ⟨[.str x t], []⟩) R ⟨hp, gs₀, dr, tk₀, os⟩ := by
  refine call_def KK.fspath (binds := [("path", .str x t)]) C O.room (fun _ _ => BindsTo.of_eq rfl) (by intro y hy; simp only [List.mem_singleton] at hy; subst hy; rfl) (by decide) ?_
  intro h₁ tk₁ S₁
  refine wpAny_execs_cons ?_
  walk_at "mm"
  refine call_type_of (typeIs_str _ _ _) (by decide +kernel) ?_
  walk_at "mm"
  rename Sx _ _ _ _ _ _ => S₂
  refine issub (S₂.tup (by walk_at "mem")) ?_
  walk_at "mm"
  exact h _ _ S₂.old
theorem fspath_c (KK : KF K) (S : Sx g₀ g L m mu hp) (C : Cx K g₀) (O : Ok A 2) {x : Str} {t : Tok} (h : ∀ h' tk, Sx g₀ g L m mu h' → Q (.str x t) ⟨h', gs₀, dr, tk, os⟩) :
    wpAny (model prog w) A (call (.ref 94) [.str x t]) Q E ⟨hp, gs₀, dr, tk₀, os⟩ := wpAny_call (fspath_ok KK (C.keeps S.old) O fun h' tk k => h h' tk (S.grow k))

theorem getSep_ok (KK : KF K) {R : Result → Shared → Prop} {x : Str} {t : Tok} (C : Cx K hp) (O : Ok A 2) (h : ∀ h' tk tk', Keep hp h' → R (.ok (.ret (.str "/" tk'))) ⟨h', gs₀, dr, tk, os⟩) :
    codeAny (model prog w) A (.call (.ref 108) ⟨[.str x t], []⟩) R ⟨hp, gs₀, dr, tk₀, os⟩ := by
  refine call_def KK.getSep (binds := [("path", .str x t)]) C O.room (fun _ _ => BindsTo.of_eq rfl) (by intro y hy; simp only [List.mem_singleton] at hy; subst hy; rfl) (by decide) ?_
  intro h₁ tk₁ S₁
  refine wpAny_execs_cons ?_
  walk_at "mm"
  exact h _ _ _ S₁.old
theorem getSep_c (KK : KF K) (S : Sx g₀ g L m mu hp) (C : Cx K g₀) (O : Ok A 2) {x : Str} {t : Tok} (h : ∀ h' tk tk', Sx g₀ g L m mu h' → Q (.str "/" tk') ⟨h', gs₀, dr, tk, os⟩) :
    wpAny (model prog w) A (call (.ref 108) [.str x t]) Q E ⟨hp, gs₀, dr, tk₀, os⟩ := wpAny_call (getSep_ok KK (C.keeps S.old) O fun h' tk tk' k => h h' tk tk' (S.grow k))

theorem call_star {f c : Addr} {qual : Str} {st : Stmt} (FI : FnIs K f c qual st) {R : Result → Shared → Prop} {args : Args} {rest : List Value} {binds : Value → List (Str × Value)} (C : Cx K hp) (hroom : A.depth < recursionLimit)
    (hbind : ∀ doc pm, bindArgs (fnX (nameOf st) qual (argsOf st) (bodyOf st) (scopeOf st) [] .none .none doc pm none (.ref c) .none) args = (newTuple rest >>= fun t => pure (binds t))) (hsz : rest.length ≤ sizeLine)
    (hloc : ∀ v, ∀ y ∈ binds v, (scopeOf st).names.lookup y.1 = some .local)
    (hcell : ∀ x ∈ (scopeOf st).names, x.2 ≠ .cell)
    (h : ∀ T L' h₁ tk, Sx hp hp L' (fun y => (binds (.ref T)).reverse.lookup y) [(T, IsT rest)] h₁ →
      wpAny (model prog w) (A.deeper (envX qual (scopeOf st) L' f (.ref c) [])) (execs (bodyOf st) (envX qual (scopeOf st) L' f (.ref c) []))
        (fun fl s' => R (.ok (.ret (match fl with | .ret v => v | _ => .none))) s')
        (fun e s' => wpAny (model prog w) (A.deeper (envX qual (scopeOf st) L' f (.ref c) [])) (leaving (envX qual (scopeOf st) L' f (.ref c) []) e) (fun _ s'' => R (.error e) s'') (fun e' s'' => R (.error e') s'') s')
        ⟨h₁, gs₀, dr, tk, os⟩)
    (hco : (scopeOf st).isCoroutine = false := by rfl) (hgen : (scopeOf st).isGenerator = false := by rfl) (hk : (scopeOf st).kind = .function := by rfl) :
    codeAny (model prog w) A (.call (.ref f) args) R ⟨hp, gs₀, dr, tk₀, os⟩ := by
  obtain ⟨od, doc, pm, osl, ho, hcd⟩ := FI
  refine codeAny_call_function (fd := fnX (nameOf st) qual (argsOf st) (bodyOf st) (scopeOf st) [] .none .none doc pm none (.ref c) .none) (body := bodyOf st) hroom (C.kin _ _ ho) rfl hco hgen rfl (codeRec_of C.kin hcd) ?_
  rw [hbind]
  refine wpAny_bind (wpAny_newObj_type (wpAny_pure ?_) (by show rest.toArray.size ≤ sizeLine; rw [List.size_toArray]; exact hsz))
  have lim : (hp.push { cls := .type "tuple", data := .seq rest.toArray }).NoLimit := (C.keeps (Keep.rfl'.push _)).noLimit
  refine wpAny_newFunctionEnv hcell (hloc _) (fun h₁ hns hsb => ⟨lim.fresh _ hsb, codeAny_func ?_⟩) hk
  have k₁ : Keep (hp.push { cls := .type "tuple", data := .seq rest.toArray }) h₁ := fun b o e => hsb.extBut b o (Nat.ne_of_lt (Heap.lt_size e)) (Heap.get?_push_of_some _ e)
  have S₁ : Sx (hp.push { cls := .type "tuple", data := .seq rest.toArray }) (hp.push { cls := .type "tuple", data := .seq rest.toArray }) _ _ [] h₁ := Sx.enter hns k₁
  refine h hp.objs.size _ h₁ _ ⟨Keep.rfl', hns, fun p hp => ?_, (Keep.rfl'.push _).trans k₁, ?_, fun p hp => ?_, fun p hp => ?_, .cons (fun _ hb => nomatch hb) .nil⟩
  · simp only [List.mem_singleton] at hp
    subst hp
    exact ⟨_, k₁ _ _ (Heap.get?_push_size _ rfl), 0, rfl⟩
  · exact Heap.get?_none_of_le (by show hp.objs.size ≤ (hp.push _).objs.size; rw [Heap.size_push]; omega)
  · simp only [List.mem_singleton] at hp
    subst hp
    exact Heap.get?_none_of_le (Nat.le_refl _)
  · simp only [List.mem_singleton] at hp
    subst hp
    show hp.objs.size ≠ (hp.push _).objs.size
    rw [Heap.size_push]; omega

theorem join_ok (KK : KF K) {R : Result → Shared → Prop} {x : Str} {t u : Tok} (C : Cx K hp) (O : Ok A 4) (hx : x.length ≤ 2000) (hs : Txt.startswith x "/" = false) (h : ∀ h' tk tk', Keep hp h' → R (.ok (.ret (.str ("/" ++ x) tk'))) ⟨h', gs₀, dr, tk, os⟩) :
    codeAny (model prog w) A (.call (.ref 115) ⟨[.str "/" u, .str x t], []⟩) R ⟨hp, gs₀, dr, tk₀, os⟩ := by
  refine call_star KK.join (rest := [.str x t]) (binds := fun T => [("a", .str "/" u), ("p", T)]) C O.room (fun _ _ => rfl) (by rw [sizeLine_eq]; simp) (by intro v y hy; simp only [List.mem_cons, List.not_mem_nil, or_false] at hy; rcases hy with rfl | rfl <;> rfl) (by decide) ?_
  intro T L' h₁ tk S₁
  refine wpAny_execs_cons ?_
  walk_at "mm"
  refine fspath_c KK S₁ C (by walk_at "ok") ?_
  intro h₂ tk₂ S₂
  walk_at "mm"
  rename Sx _ _ _ _ _ _ => S₃
  refine getSep_c KK S₃ C (by walk_at "ok") ?_
  intro h₂ tk₂ tk₂' S₂
  walk_at "mm"
  rename Sx _ _ _ _ _ _ => S₄
  refine iter_of_tup S₄ (.inr (by walk_at "mem")) ?_
  intro it h₅ S₅
  refine for_next (iter_tup (vs := [.str x t]) O.handled) S₅ (by simp) (.inr (by walk_at "mem")) ?_
  intro v h₆ tk₆ E' hv S₆
  cases hv
  refine wpAny_execs_cons ?_
  walk_at "mm"
  refine fspath_c KK S₆ C (by walk_at "ok") ?_
  intro h₇ tk₇ S₇
  walk_at "mm"
  rw [hs]
  walk_at "mm"
  refine ite_neg (by decide) ?_
  walk_at "mm"
  rename Sx _ _ _ _ _ _ => S₈
  refine for_stop (iter_tup (vs := [.str x t]) O.handled) S₈ (.inr (by walk_at "mem")) ?_
  intro h₉ tk₉ S₉
  walk_at "mm"
  exact h _ _ _ S₉.old
end
end
section
section
variable {K : Frag} {prog : Program} {w : World} {A : Around} {hp : Heap} {gs₀ : Array GenState} {dr : Drawn} {tk₀ : Nat} {os : OsState} {E : Value → Shared → Prop} {Q : Value → Shared → Prop} {g₀ g : Heap} {L : Addr} {m : Str → Option Value} {mu : Mut}

theorem splitroot_ok (KK : KF K) {R : Result → Shared → Prop} {x : Str} {t : Tok} (C : Cx K hp) (O : Ok A 4) (hx : x.length ≤ 2002) (h1 : Txt.slice x none (some 1) = "/") (h2 : (Txt.slice x (some 1) (some 2) != "/") = true)
    (h : ∀ T h' tk t1 t2 t3, Keep hp h' → Fresh hp h' T (IsT [.str "" t1, .str "/" t2, .str (Txt.slice x (some 1) none) t3]) → R (.ok (.ret (.ref T))) ⟨h', gs₀, dr, tk, os⟩) :
    codeAny (model prog w) A (.call (.ref 122) ⟨[.str x t], []⟩) R ⟨hp, gs₀, dr, tk₀, os⟩ := by
  refine call_def KK.splitroot (binds := [("p", .str x t)]) C O.room (fun _ _ => BindsTo.of_eq rfl) (by intro y hy; simp only [List.mem_singleton] at hy; subst hy; rfl) (by decide) ?_
  intro h₁ tk₁ S₁
  refine wpAny_execs_cons ?_
  walk_at "mm"
  refine fspath_c KK S₁ C (by walk_at "ok") ?_
  intro h₂ tk₂ S₂
  walk_at "mm"
  refine ite_neg (by rw [h1]; decide) ?_
  walk_at "mm"
  refine ite_pos h2 ?_
  walk_at "mm"
  rename Sx _ _ _ _ _ _ => S₃
  exact h _ _ _ _ _ _ S₃.old (S₃.give (by walk_at "mem"))
theorem splitroot_c (KK : KF K) (S : Sx g₀ g L m mu hp) (C : Cx K g₀) (O : Ok A 4) {x : Str} {t : Tok} (hx : x.length ≤ 2002) (h1 : Txt.slice x none (some 1) = "/") (h2 : (Txt.slice x (some 1) (some 2) != "/") = true)
    (h : ∀ T h' tk t1 t2 t3, Sx g₀ g L m ((T, IsT [.str "" t1, .str "/" t2, .str (Txt.slice x (some 1) none) t3]) :: mu) h' → Q (.ref T) ⟨h', gs₀, dr, tk, os⟩) :
    wpAny (model prog w) A (call (.ref 122) [.str x t]) Q E ⟨hp, gs₀, dr, tk₀, os⟩ := wpAny_call (splitroot_ok KK (C.keeps S.old) O hx h1 h2 fun T h' tk t1 t2 t3 k f => h T h' tk t1 t2 t3 (S.take k f))

theorem slash_ne (J : Str) : ("/" ++ J != "") = true := by
  rw [bne_iff_ne]
  intro e
  have := congrArg Str.length e
  rw [Str.length_append, show Str.length "/" = 1 from rfl, show Str.length "" = 0 from rfl] at this
  omega
theorem nstep_up {F : List Str} (h : F.getLast? ≠ some "..") : nstep F ".." = F.dropLast := by
  unfold nstep
  rw [if_neg (by decide), if_neg (fun q => q.elim (fun z => z rfl) h)]
theorem nstep_more {F : List Str} {c : Str} (c0 : ¬ c = "") (c1 : ¬ c = ".") (h : c ≠ ".." ∨ F.getLast? = some "..") : nstep F c = F ++ [c] := by
  unfold nstep
  rw [if_neg (by simp [c0, c1]), if_pos h]
theorem normpath_ok (KK : KF K) {R : Result → Shared → Prop} {x : Str} {t : Tok} (C : Cx K hp) (O : Ok A 6) (hx : x.length ≤ 2002) (h1 : Txt.slice x none (some 1) = "/") (h2 : (Txt.slice x (some 1) (some 2) != "/") = true) (hne : (x != "") = true)
    (h : ∀ h' tk t', Keep hp h' → R (.ok (.ret (.str (normF x) t'))) ⟨h', gs₀, dr, tk, os⟩) :
    codeAny (model prog w) A (.call (.ref 136) ⟨[.str x t], []⟩) R ⟨hp, gs₀, dr, tk₀, os⟩ := by
  refine call_def KK.normpath (binds := [("path", .str x t)]) C O.room (fun _ _ => BindsTo.of_eq rfl) (by intro y hy; simp only [List.mem_singleton] at hy; subst hy; rfl) (by decide) ?_
  intro h₁ tk₁ S₁
  refine wpAny_execs_cons ?_
  walk_at "mm"
  refine fspath_c KK S₁ C (by walk_at "ok") ?_
  intro h₂ tk₂ S₂
  walk_at "mm"
  refine ite_neg (by rw [hne]; decide) ?_
  walk_at "mm"
  rename Sx _ _ _ _ _ _ => S₃
  refine splitroot_c KK S₃ C (by walk_at "ok") hx h1 h2 ?_
  intro T h₄ tk₄ t1 t2 t3 S₄
  refine asg_tup S₄ (.inr (by walk_at "mem")) O.handled rfl rfl ?_
  intro h₅ S₅
  walk_at "mm"
  rename Sx _ _ _ _ _ _ => S₆
  refine sp_str S₆ (by walk_at "ln") (by decide) ?_
  intro D h₇ tk₇ S₇
  walk_at "mm"
  rename_i N _ _ _ _ S₈
  obtain ⟨lc, hlc, k₈⟩ := S₈.openS (a := D) (by walk_at "mem")
  have S₉ := k₈ _ (.tail .head)
  have S₉ := S₉.weaken (P' := IsS []) .head fun o p => ⟨[], rfl, p⟩
  refine iter_of_list S₉ (.inr (by walk_at "mem")) ?_
  intro it hh S₁₀
  have hw : ((Txt.split (Txt.slice x (some 1) none) "/").map (·.length)).sum + (Txt.split (Txt.slice x (some 1) none) "/").length ≤ 2003 := by
    have h3 := PyProof.Rows.split_weight (Txt.slice x (some 1) none) "/" (by decide)
    have h4 := PySem.Txt.slice_le x (some 1) none
    omega
  generalize hcs : Txt.split (Txt.slice x (some 1) none) "/" = cs at hlc hw
  have hlen : lc.length = cs.length := by rw [← hlc, List.length_map]
  refine for_run (iter_list (vs := strValues lc) O.handled)
    (fun i g' m' mu' gs => g' = hp ∧ gs = gs₀ ∧ mu' = [(N, IsS ((cs.take i).foldl nstep [])), (D, IsL (strValues lc)), (T, IsT [.str "" t1, .str "/" t2, .str (Txt.slice x (some 1) none) t3])] ∧
      (∃ t, m' "dot" = some (.str "." t)) ∧ (∃ t, m' "dotdot" = some (.str ".." t)) ∧ (∃ t, m' "initial_slashes" = some (.str "/" t)) ∧ (∃ t, m' "sep" = some (.str "/" t)) ∧ m' "new_comps" = some (.ref N))
    S₁₀ ⟨rfl, rfl, rfl, ⟨_, rfl⟩, ⟨_, rfl⟩, ⟨_, rfl⟩, ⟨_, rfl⟩, rfl⟩ (fun i g m mu gs hJ => .inr (by rw [hJ.2.2.1]; walk_at "mem")) ?_ ?_
  · intro i v g' m' mu' gs h tk E' hi hv hJ hk S'
    obtain ⟨rfl, rfl, rfl, ⟨td, hd⟩, ⟨tdd, hdd⟩, ⟨tis, his⟩, ⟨tse, hse⟩, hnc⟩ := hJ
    obtain ⟨c, tc, hc, rfl⟩ : ∃ c t, lc[i]? = some (c, t) ∧ v = .str c t := by
      simp only [strValues, List.getElem?_map, Option.map_eq_some_iff] at hv
      obtain ⟨⟨c, t⟩, e, rfl⟩ := hv
      exact ⟨c, t, e, rfl⟩
    have hci : cs[i]? = some c := by rw [← hlc, List.getElem?_map, hc]; rfl
    have hf : (cs.take (i + 1)).foldl nstep [] = nstep ((cs.take i).foldl nstep []) c := by rw [List.take_add_one, hci, List.foldl_append]; rfl
    have hcl : c.length ≤ 2003 := by
      have := len_le_sum (List.mem_of_getElem? hci)
      omega
    have hFw : wt ((cs.take i).foldl nstep []) ≤ 2003 := by
      have h1 := wt_fold nstep wt_nstep (cs.take i) []
      have h2 := wt_take cs i
      have h3 : wt ([] : List Str) = 0 := rfl
      have h4 : wt cs ≤ 2003 := hw
      omega
    rw [hf]
    generalize (cs.take i).foldl nstep [] = F at S' hFw ⊢
    have hFl : F.length ≤ sizeLine := by have := len_le_wt F; rw [sizeLine_eq]; omega
    refine wpAny_execs_cons ?_
    walk_at "mm"
    by_cases c0 : c = ""
    · refine ite_pos (by simp [c0]) ?_
      walk_at "mm"
      exact ⟨_, _, _, _, _, _, rfl, Keep.rfl', S', rfl, rfl, by simp [nstep, c0], ⟨_, by walk_at "lk"⟩, ⟨_, by walk_at "lk"⟩, ⟨_, by walk_at "lk"⟩, ⟨_, by walk_at "lk"⟩, by walk_at "lk"⟩
    refine ite_neg (by simp [c0]) ?_
    walk_at "mm"
    by_cases c1 : c = "."
    · refine ite_pos (by simp [c1]) ?_
      walk_at "mm"
      exact ⟨_, _, _, _, _, _, rfl, Keep.rfl', S', rfl, rfl, by simp [nstep, c1], ⟨_, by walk_at "lk"⟩, ⟨_, by walk_at "lk"⟩, ⟨_, by walk_at "lk"⟩, ⟨_, by walk_at "lk"⟩, by walk_at "lk"⟩
    refine ite_neg (by simp [c1]) ?_
    walk_at "mm"
    have fin : ∀ h₃ tk₃, Sx g' g' g'.objs.size (fun y => if y = "comp" then some (.str c tc) else m' y) [(it, IsLIt D (i + 1)), (N, IsS (nstep F c)), (D, IsL (strValues lc)), (T, IsT [.str "" t1, .str "/" t2, .str (Txt.slice x (some 1) none) t3])] h₃ →
        ∃ h' tk' gs' g'' m'' mu'', (⟨h₃, gs, dr, tk₃, os⟩ : Shared) = ⟨h', gs', dr, tk', os⟩ ∧ Keep g' g'' ∧ Sx g' g'' g'.objs.size m'' ((it, IsLIt D (i + 1)) :: mu'') h' ∧ g'' = g' ∧ gs' = gs ∧
          mu'' = [(N, IsS (nstep F c)), (D, IsL (strValues lc)), (T, IsT [.str "" t1, .str "/" t2, .str (Txt.slice x (some 1) none) t3])] ∧
          (∃ t, m'' "dot" = some (.str "." t)) ∧ (∃ t, m'' "dotdot" = some (.str ".." t)) ∧ (∃ t, m'' "initial_slashes" = some (.str "/" t)) ∧ (∃ t, m'' "sep" = some (.str "/" t)) ∧ m'' "new_comps" = some (.ref N) :=
      fun h₃ tk₃ S₃ => ⟨_, _, _, _, _, _, rfl, Keep.rfl', S₃, rfl, rfl, rfl, ⟨_, by walk_at "lk"⟩, ⟨_, by walk_at "lk"⟩, ⟨_, by walk_at "lk"⟩, ⟨_, by walk_at "lk"⟩, by walk_at "lk"⟩
    by_cases c2 : c = ".."
    · refine ite_neg (by simp [c2]) ?_
      walk_at "mm"
      refine ite_neg (by decide) ?_
      walk_at "mm"
      refine ls_truthy S' (by walk_at "mem") hFl ?_
      intro tk₃
      by_cases f0 : F = []
      · subst f0
        refine ite_neg (by decide) ?_
        walk_at "mm"
        refine ls_truthy S' (by walk_at "mem") hFl ?_
        intro tk₄
        refine ite_neg (by decide) ?_
        walk_at "mm"
        exact fin _ _ (by rw [show nstep [] c = [] by simp [nstep, c2]]; exact S')
      · refine ite_pos (by simpa using f0) ?_
        walk_at "mm"
        refine ls_last S' (by walk_at "mem") f0 ?_
        intro tl
        walk_at "mm"
        by_cases fl : F.getLast f0 = ".."
        · refine ite_pos (by simp [fl]) ?_
          walk_at "mm"
          refine ls_append (c := c) S' (.tail .head) hFl ?_
          intro h₃ S₃
          walk_at "mm"
          exact fin _ _ (by rw [nstep_more c0 c1 (.inr ((List.getLast?_eq_some_getLast f0).trans (congrArg some fl)))]; exact S₃)
        · refine ite_neg (by simp [fl]) ?_
          walk_at "mm"
          refine ls_truthy S' (by walk_at "mem") hFl ?_
          intro tk₄
          refine ite_pos (by simpa using f0) ?_
          walk_at "mm"
          refine ls_pop S' (.tail .head) f0 hFl ?_
          intro q tq h₃ S₃
          walk_at "mm"
          exact fin _ _ (by rw [show nstep F c = F.dropLast by rw [c2]; exact nstep_up (by rw [List.getLast?_eq_some_getLast f0]; simpa using fl)]; exact S₃)
    · refine ite_pos (by simp [c2]) ?_
      walk_at "mm"
      refine ls_append (c := c) S' (.tail .head) hFl ?_
      intro h₃ S₃
      walk_at "mm"
      exact fin _ _ (by rw [show nstep F c = F ++ [c] by simp [nstep, c0, c1, c2]]; exact S₃)
  · intro g' m' mu' gs h₁ tk₁ hJ hk S'
    obtain ⟨rfl, rfl, rfl, ⟨td, hd⟩, ⟨tdd, hdd⟩, ⟨tis, his⟩, ⟨tse, hse⟩, hnc⟩ := hJ
    have hF : (cs.take (strValues lc).length).foldl nstep [] = cs.foldl nstep [] := by rw [strValues_length, hlen, List.take_length]
    rw [hF] at S'
    have hFw : wt (cs.foldl nstep []) ≤ 2003 := by
      have h1 := wt_fold nstep wt_nstep cs []
      have h3 : wt ([] : List Str) = 0 := rfl
      have h4 : wt cs ≤ 2003 := hw
      omega
    walk_at "mm"
    rename_i S₂
    refine ls_join S₂ (by walk_at "mem") (show wt _ ≤ 1048576 by omega) (by decide) ?_
    intro tj tk₃
    have hlJ : (Txt.join "/" (cs.foldl nstep [])).length ≤ 4000 := by
      have h1 := StrLaws.join_length_le "/" (cs.foldl nstep [])
      have h2 : ((cs.foldl nstep []).map (·.length)).sum + (cs.foldl nstep []).length ≤ 2003 := hFw
      rw [show Str.length "/" = 1 from rfl] at h1
      have h3 : Txt.join "/" (cs.foldl nstep []) = Str.join "/" (cs.foldl nstep []) := StrLaws.glued_eq_join _ _
      rw [h3]
      omega
    have hlK : (Txt.join "/" (cs.foldl nstep [])).length ≤ 4096 := by omega
    have hlM : ("/" ++ Txt.join "/" (cs.foldl nstep []) : Str).length ≤ 4096 := by rw [Str.length_append, show Str.length "/" = 1 from rfl]; omega
    have hres : "/" ++ Txt.join "/" (cs.foldl nstep []) = normF x := by rw [← hcs]; rfl
    generalize Txt.join "/" (cs.foldl nstep []) = J at hlJ hlK hlM hres ⊢
    walk_at "mm"
    refine ite_pos (slash_ne J) ?_
    rename Sx _ _ _ _ _ _ => S₃
    rw [hres]
    exact h _ _ _ S₃.old
theorem normpath_c (KK : KF K) (S : Sx g₀ g L m mu hp) (C : Cx K g₀) (O : Ok A 6) {x : Str} {t : Tok} (hx : x.length ≤ 2002) (h1 : Txt.slice x none (some 1) = "/") (h2 : (Txt.slice x (some 1) (some 2) != "/") = true) (hne : (x != "") = true)
    (h : ∀ h' tk t', Sx g₀ g L m mu h' → Q (.str (normF x) t') ⟨h', gs₀, dr, tk, os⟩) :
    wpAny (model prog w) A (call (.ref 136) [.str x t]) Q E ⟨hp, gs₀, dr, tk₀, os⟩ := wpAny_call (normpath_ok KK (C.keeps S.old) O hx h1 h2 hne fun h' tk t' k => h h' tk t' (S.grow k))
theorem join_c (KK : KF K) (S : Sx g₀ g L m mu hp) (C : Cx K g₀) (O : Ok A 4) {x : Str} {t u : Tok} (hx : x.length ≤ 2000) (hs : Txt.startswith x "/" = false)
    (h : ∀ h' tk t', Sx g₀ g L m mu h' → Q (.str ("/" ++ x) t') ⟨h', gs₀, dr, tk, os⟩) :
    wpAny (model prog w) A (call (.ref 115) [.str "/" u, .str x t]) Q E ⟨hp, gs₀, dr, tk₀, os⟩ := wpAny_call (join_ok KK (C.keeps S.old) O hx hs fun h' tk t' k => h h' tk t' (S.grow k))
end
end
section
/-! ## Lists wherever they stand: slices, sums, comparisons -/
def LAt (h : Heap) (a : Addr) (vs : List Value) : Prop := ∃ o, h.get? a = some o ∧ IsL vs o
def SAt (h : Heap) (a : Addr) (ss : List Str) : Prop := ∃ o, h.get? a = some o ∧ IsS ss o
def Rd (h : Heap) (v : Value) (d : PyData) : Prop := ∃ as, Reads h v d as
def RdAll (h : Heap) (vs : List Value) (ds : List PyData) : Prop := ∃ as, ReadsAll h vs ds as
def strsD (ss : List Str) : PyData := .list (ss.map .str)
def rowsD (rs : List (List Str)) : PyData := .list (rs.map strsD)
section
variable {g₀ g h h' : Heap} {L a : Addr} {m : Str → Option Value} {mu : Mut} {vs : List Value} {ss : List Str}
theorem LAt.keeps (x : LAt h a vs) (k : Keep h h') : LAt h' a vs := let ⟨o, e, p⟩ := x; ⟨o, k _ _ e, p⟩
theorem SAt.keeps (x : SAt h a ss) (k : Keep h h') : SAt h' a ss := let ⟨o, e, p⟩ := x; ⟨o, k _ _ e, p⟩
theorem Sx.lAt (S : Sx g₀ g L m mu h) (hm : (a, IsL vs) ∈ mu) : LAt h a vs := S.get _ hm
theorem Sx.sAt (S : Sx g₀ g L m mu h) (hm : (a, IsS ss) ∈ mu) : SAt h a ss := S.get _ hm
theorem LAt.isList (x : LAt h a vs) : h.IsList a vs.toArray := let ⟨o, e, n, q⟩ := x; ⟨o, e, by rw [q], n, by rw [q]⟩
theorem SAt.open (x : SAt h a ss) : ∃ l : List (Str × Tok), l.map (·.1) = ss ∧ LAt h a (strValues l) := let ⟨o, e, l, hl, p⟩ := x; ⟨l, hl, o, e, p⟩
theorem LAt.sAt {l : List (Str × Tok)} (x : LAt h a (strValues l)) : SAt h a (l.map (·.1)) := let ⟨o, e, p⟩ := x; ⟨o, e, l, rfl, p⟩
theorem Rd.keeps {v : Value} {d : PyData} (x : Rd h v d) (k : Keep h h') : Rd h' v d := let ⟨_, r⟩ := x; ⟨_, Reads.keeps k r⟩
theorem RdAll.keeps {ds : List PyData} (x : RdAll h vs ds) (k : Keep h h') : RdAll h' vs ds := let ⟨_, r⟩ := x; ⟨_, ReadsAll.keeps k r⟩
theorem RdAll.nil : RdAll h [] [] := ⟨_, .nil⟩
theorem RdAll.cons {v : Value} {d : PyData} {ds : List PyData} (x : Rd h v d) (y : RdAll h vs ds) : RdAll h (v :: vs) (d :: ds) := let ⟨_, r⟩ := x; let ⟨_, q⟩ := y; ⟨_, .cons r q⟩
theorem Rd.str {x : Str} {t : Tok} : Rd h (.str x t) (.str x) := ⟨_, .str x t⟩
theorem RdAll.strs : ∀ l : List (Str × Tok), RdAll h (strValues l) ((l.map (·.1)).map .str)
  | [] => .nil
  | (x, t) :: l => RdAll.cons (.str) (RdAll.strs l)
theorem LAt.rd {ds : List PyData} (x : LAt h a vs) (r : RdAll h vs ds) : Rd h (.ref a) (.list ds) := by
  obtain ⟨o, e, n, rfl⟩ := x
  obtain ⟨as, r⟩ := r
  exact ⟨_, .list e rfl rfl r⟩
theorem SAt.rd (x : SAt h a ss) : Rd h (.ref a) (strsD ss) := by
  obtain ⟨l, rfl, y⟩ := x.open
  exact y.rd (RdAll.strs l)
end
/-- rows: addresses of lists of texts -/
inductive RowsAt (h : Heap) : List Addr → List (List Str) → Prop
  | nil : RowsAt h [] []
  | cons {a : Addr} {as : List Addr} {r : List Str} {rs : List (List Str)} : SAt h a r → RowsAt h as rs → RowsAt h (a :: as) (r :: rs)
section
variable {h h' : Heap} {as bs : List Addr} {rs qs : List (List Str)}
theorem RowsAt.keeps (x : RowsAt h as rs) (k : Keep h h') : RowsAt h' as rs := by
  induction x with
  | nil => exact .nil
  | cons y _ ih => exact .cons (y.keeps k) ih
theorem RowsAt.len (x : RowsAt h as rs) : as.length = rs.length := by
  induction x with
  | nil => rfl
  | cons y _ ih => simp [ih]
theorem RowsAt.app (x : RowsAt h as rs) (y : RowsAt h bs qs) : RowsAt h (as ++ bs) (rs ++ qs) := by
  induction x with
  | nil => exact y
  | cons z _ ih => exact .cons z ih
theorem RowsAt.at (x : RowsAt h as rs) {i : Nat} {r : List Str} (e : rs[i]? = some r) : ∃ a, as[i]? = some a ∧ SAt h a r := by
  induction x generalizing i with
  | nil => cases e
  | cons y _ ih =>
    cases i with
    | zero => simp at e; exact ⟨_, rfl, e ▸ y⟩
    | succ i => exact ih (by simpa using e)
theorem RowsAt.rd (x : RowsAt h as rs) : RdAll h (as.map .ref) (rs.map strsD) := by
  induction x with
  | nil => exact .nil
  | cons y _ ih => exact .cons y.rd ih
end
theorem strsD_eqv : ∀ a b : List Str, PyData.eqvAll (a.map .str) (b.map .str) = decide (a = b)
  | [], [] => by simp [PyData.eqvAll]
  | [], _ :: _ => by simp [PyData.eqvAll]
  | _ :: _, [] => by simp [PyData.eqvAll]
  | x :: a, y :: b => by
    simp only [List.map_cons, PyData.eqvAll, PyData.eqv, strsD_eqv a b]
    by_cases h : x = y <;> by_cases h' : a = b <;> simp [h, h']
theorem strsD_eq (a b : List Str) : PyData.eqv (strsD a) (strsD b) = decide (a = b) := by simp only [strsD, PyData.eqv, strsD_eqv]
theorem rowsD_eqv : ∀ a b : List (List Str), PyData.eqvAll (a.map strsD) (b.map strsD) = decide (a = b)
  | [], [] => by simp [PyData.eqvAll]
  | [], _ :: _ => by simp [PyData.eqvAll]
  | _ :: _, [] => by simp [PyData.eqvAll]
  | x :: a, y :: b => by
    simp only [List.map_cons, PyData.eqvAll, strsD_eq, rowsD_eqv a b]
    by_cases h : x = y <;> by_cases h' : a = b <;> simp [h, h']
theorem rowsD_eq (a b : List (List Str)) : PyData.eqv (rowsD a) (rowsD b) = decide (a = b) := by simp only [rowsD, PyData.eqv, rowsD_eqv]
theorem all_eq {α : Type} [DecidableEq α] : ∀ (l l' : List α), l.length = l'.length → (List.range l.length).all (fun j => decide (l[j]? = l'[j]?)) = decide (l = l') := by
  intro l l' hlen
  rw [Bool.eq_iff_iff, List.all_eq_true, decide_eq_true_iff]
  constructor
  · intro h
    refine List.ext_getElem? fun i => ?_
    by_cases hi : i < l.length
    · exact of_decide_eq_true (h i (List.mem_range.mpr hi))
    · rw [List.getElem?_eq_none (by omega), List.getElem?_eq_none (by omega)]
  · rintro rfl j _
    simp
section
open SeqAt
variable {A : Around} {s : Shared} {a b : Addr} {vs ws : List Value} {α : Type} [DecidableEq α] {xs ys : List α}
theorem rc_gen (hl : s.heap.IsList a vs.toArray) (hb : s.heap.IsList b ws.toArray) (h1 : vs.length = xs.length) (h2 : ws.length = ys.length)
    (hR : ∀ (i : Nat) (v w : Value) (x y : α), vs[i]? = some v → ws[i]? = some w → xs[i]? = some x → ys[i]? = some y → EqAt A.in1 s v w (decide (x = y))) (hu : A.units < cLine) :
    RcAt A s (.ref a) (.ref b) (decide (xs = ys)) ∧ RcNeAt A s (.ref a) (.ref b) (!decide (xs = ys)) := by
  by_cases hsz : xs.length = ys.length
  · have he : ∀ j (k1 : j < vs.toArray.size) (k2 : j < ws.toArray.size), EqAt A.in1 s vs.toArray[j] ws.toArray[j] (decide (xs[j]? = ys[j]?)) := by
      intro j k1 k2
      rw [List.size_toArray] at k1 k2
      have e1 : xs[j]? = some (xs[j]'(by omega)) := List.getElem?_eq_getElem _
      have e2 : ys[j]? = some (ys[j]'(by omega)) := List.getElem?_eq_getElem _
      have := hR j (vs[j]) (ws[j]) _ _ (List.getElem?_eq_getElem k1) (List.getElem?_eq_getElem k2) e1 e2
      rw [e1, e2]
      simpa using this
    have hz : vs.toArray.size = ws.toArray.size := by rw [List.size_toArray, List.size_toArray]; omega
    have r1 := RcAt.lists hl hb hz hu he
    have r2 := RcNeAt.lists hl hb hz hu he
    rw [List.size_toArray, h1, all_eq _ _ hsz] at r1 r2
    exact ⟨r1, r2⟩
  · have hz : (vs.toArray.size != ws.toArray.size) = true := by rw [List.size_toArray, List.size_toArray]; simp; omega
    have : decide (xs = ys) = false := decide_eq_false fun e => hsz (congrArg List.length e)
    rw [this]
    exact ⟨RcAt.lists_lengths hl hb hz hu, RcNeAt.lists_lengths hl hb hz hu⟩
end
theorem SAt.same {h : Heap} {a : Addr} {r q : List Str} (x : SAt h a r) (y : SAt h a q) : r = q := by
  obtain ⟨o, e, l, rfl, n, ho⟩ := x
  obtain ⟨o', e', l', rfl, n', ho'⟩ := y
  rw [e] at e'
  cases e'
  rw [ho] at ho'
  have e1 := congrArg Obj.data ho'
  simp only [Data.seq.injEq] at e1
  have e2 : strValues l = strValues l' := by simpa using e1.1
  clear ho' ho e e1
  induction l generalizing l' with
  | nil => cases l' with
    | nil => rfl
    | cons z l' => exact nomatch e2
  | cons z l ih => cases l' with
    | nil => exact nomatch e2
    | cons z' l' =>
      simp only [strValues, List.map_cons, List.cons.injEq, Value.str.injEq] at e2
      simp only [List.map_cons, List.cons.injEq]
      exact ⟨e2.1.1, ih l' e2.2⟩
section
open SeqAt
variable {A : Around} {s : Shared} {a b : Addr} {ss us : List Str} {as bs : List Addr} {rs qs : List (List Str)}
theorem rc_ss (ha : SAt s.heap a ss) (hb : SAt s.heap b us) (hu : A.units < cLine) : RcAt A s (.ref a) (.ref b) (decide (ss = us)) ∧ RcNeAt A s (.ref a) (.ref b) (!decide (ss = us)) := by
  obtain ⟨l, rfl, la⟩ := ha.open
  obtain ⟨l', rfl, lb⟩ := hb.open
  refine rc_gen la.isList lb.isList (by rw [strValues_length, List.length_map]) (by rw [strValues_length, List.length_map]) ?_ hu
  intro i v w x y e1 e2 e3 e4
  simp only [strValues, List.getElem?_map, Option.map_eq_some_iff] at e1 e2 e3 e4
  obtain ⟨⟨x1, t1⟩, k1, rfl⟩ := e1
  obtain ⟨⟨y1, u1⟩, k2, rfl⟩ := e2
  obtain ⟨_, k3, rfl⟩ := e3
  obtain ⟨_, k4, rfl⟩ := e4
  rw [k1] at k3; cases k3
  rw [k2] at k4; cases k4
  have := EqAt.str_str (A := A.in1) (s := s) x1 t1 y1 u1
  rwa [show (x1 == y1) = decide (x1 = y1) from by rw [Bool.eq_iff_iff]; simp] at this
theorem ea_ss (ha : SAt s.heap a ss) (hb : SAt s.heap b us) (hu : A.units < cLine) : EqAt A s (.ref a) (.ref b) (decide (ss = us)) := by
  by_cases e : a = b
  · subst e
    rw [ha.same hb, decide_eq_true rfl]
    exact EqAt.same _
  · exact EqAt.of_refs e (rc_ss ha hb hu).1
theorem rc_rs (ha : LAt s.heap a (as.map .ref)) (hb : LAt s.heap b (bs.map .ref)) (ra : RowsAt s.heap as rs) (rb : RowsAt s.heap bs qs) (hu : A.units + 1 < cLine) :
    RcAt A s (.ref a) (.ref b) (decide (rs = qs)) ∧ RcNeAt A s (.ref a) (.ref b) (!decide (rs = qs)) := by
  refine rc_gen ha.isList hb.isList (by rw [List.length_map, ra.len]) (by rw [List.length_map, rb.len]) ?_ (by omega)
  intro i v w x y e1 e2 e3 e4
  obtain ⟨a1, k1, p1⟩ := ra.at e3
  obtain ⟨b1, k2, p2⟩ := rb.at e4
  rw [List.getElem?_map, k1] at e1
  rw [List.getElem?_map, k2] at e2
  cases e1; cases e2
  exact ea_ss (A := A.in1) p1 p2 hu
end
section
variable {prog : Program} {w : World} {A : Around} {E : Value → Shared → Prop} {hp : Heap} {gs₀ : Array GenState} {dr : Drawn} {tk₀ : Nat} {os : OsState} {g₀ g : Heap} {L a b : Addr} {m : Str → Option Value} {mu mu' : Mut} {Q : Value → Shared → Prop} {vs ws : List Value} {ss us : List Str} {as bs : List Addr} {rs qs : List (List Str)} {c x : Str} {t u : Tok} {n : Nat}
theorem eq_ss (O : Ok A n) (ha : SAt hp a ss) (hb : SAt hp b us) (h : Q (.bool (decide (ss = us))) ⟨hp, gs₀, dr, tk₀, os⟩) : wpAny (model prog w) A (compareOp .Eq (.ref a) (.ref b)) Q E ⟨hp, gs₀, dr, tk₀, os⟩ :=
  (rc_ss (s := ⟨hp, gs₀, dr, tk₀, os⟩) ha hb (by have := O.units; omega)).1 prog w E Q h
theorem ne_ss (O : Ok A n) (ha : SAt hp a ss) (hb : SAt hp b us) (h : Q (.bool (!decide (ss = us))) ⟨hp, gs₀, dr, tk₀, os⟩) : wpAny (model prog w) A (compareOp .NotEq (.ref a) (.ref b)) Q E ⟨hp, gs₀, dr, tk₀, os⟩ :=
  (rc_ss (s := ⟨hp, gs₀, dr, tk₀, os⟩) ha hb (by have := O.units; omega)).2 prog w E Q h
theorem ne_rs (O : Ok A 1) (ha : LAt hp a (as.map .ref)) (hb : LAt hp b (bs.map .ref)) (ra : RowsAt hp as rs) (rb : RowsAt hp bs qs) (h : Q (.bool (!decide (rs = qs))) ⟨hp, gs₀, dr, tk₀, os⟩) : wpAny (model prog w) A (compareOp .NotEq (.ref a) (.ref b)) Q E ⟨hp, gs₀, dr, tk₀, os⟩ :=
  (rc_rs (s := ⟨hp, gs₀, dr, tk₀, os⟩) ha hb ra rb (by have := O.units; omega)).2 prog w E Q h
theorem strsAre_of (l : List (Str × Tok)) : StrsAre (strValues l) (l.map (·.1)) := by
  induction l with
  | nil => exact .nil
  | cons z l ih => obtain ⟨x, t⟩ := z; exact .cons x t ih
theorem in_ss (hl : SAt hp a ss) (h : Q (.bool (decide (x ∈ ss))) ⟨hp, gs₀, dr, tk₀, os⟩) : wpAny (model prog w) A (compareOp .In (.str x t) (.ref a)) Q E ⟨hp, gs₀, dr, tk₀, os⟩ := by
  obtain ⟨l, rfl, la⟩ := hl.open
  exact in_list_strs la.isList (strsAre_of l) (by rw [show ((l.map (·.1)).any (· == x)) = decide (x ∈ l.map (·.1)) from by rw [Bool.eq_iff_iff]; simp]; exact h)
theorem notin_ss (hl : SAt hp a ss) (h : Q (.bool (!decide (x ∈ ss))) ⟨hp, gs₀, dr, tk₀, os⟩) : wpAny (model prog w) A (compareOp .NotIn (.str x t) (.ref a)) Q E ⟨hp, gs₀, dr, tk₀, os⟩ := by
  obtain ⟨l, rfl, la⟩ := hl.open
  exact notin_list_strs la.isList (strsAre_of l) (by rw [show ((l.map (·.1)).any (· == x)) = decide (x ∈ l.map (·.1)) from by rw [Bool.eq_iff_iff]; simp]; exact h)
open Classical in
theorem any_rowsAt {h : Heap} (ra : RowsAt h as rs) (x : List Str) : ((as.map Value.ref).toArray.any fun v => decide (∃ a, v = .ref a ∧ SAt h a x)) = decide (x ∈ rs) := by
  rw [← Array.any_toList]
  show (as.map Value.ref).any _ = _
  induction ra with
  | nil => simp
  | @cons a as r rs y _ ih =>
    simp only [List.map_cons, List.any_cons, ih]
    by_cases e : x = r
    · subst e
      rw [decide_eq_true (show ∃ b, Value.ref a = .ref b ∧ SAt h b x from ⟨a, rfl, y⟩)]
      simp
    · rw [decide_eq_false (show ¬ ∃ b, Value.ref a = .ref b ∧ SAt h b x from fun ⟨b, q, z⟩ => by cases q; exact e (z.same y))]
      simp [e]
open Classical in
theorem at_rows {s : Shared} {A : Around} (ra : RowsAt s.heap as rs) {x : List Str} (hx : SAt s.heap b x) (hu : A.units < cLine) : ∀ y ∈ (as.map Value.ref).toArray, SeqAt.EqAt A s y (.ref b) (decide (∃ a, y = .ref a ∧ SAt s.heap a x)) := by
  intro y hy
  rw [List.mem_toArray, List.mem_map] at hy
  obtain ⟨a, ha, rfl⟩ := hy
  obtain ⟨r, hr⟩ : ∃ r, SAt s.heap a r := by
    induction ra with
    | nil => cases ha
    | cons z _ ih =>
      cases ha with
      | head => exact ⟨_, z⟩
      | tail _ ha => exact ih ha
  have := ea_ss hr hx hu
  have e : decide (r = x) = decide (∃ a', Value.ref a = .ref a' ∧ SAt s.heap a' x) := by
    rw [Bool.eq_iff_iff, decide_eq_true_iff, decide_eq_true_iff]
    constructor
    · rintro rfl; exact ⟨a, rfl, hr⟩
    · rintro ⟨a', e, z⟩; cases e; exact hr.same z
  rwa [e] at this
theorem in_rs (O : Ok A 1) (hl : LAt hp a (as.map .ref)) (ra : RowsAt hp as rs) {r : List Str} (hx : SAt hp b r) (h : Q (.bool (decide (r ∈ rs))) ⟨hp, gs₀, dr, tk₀, os⟩) : wpAny (model prog w) A (compareOp .In (.ref b) (.ref a)) Q E ⟨hp, gs₀, dr, tk₀, os⟩ := by
  refine SeqAt.in_listAt _ (s := ⟨hp, gs₀, dr, tk₀, os⟩) hl.isList (at_rows (A := A.in1) ra hx ?_) ?_
  · show A.units + 1 < cLine; have := O.units; omega
  · rw [any_rowsAt ra]; exact h
theorem notin_rs (O : Ok A 1) (hl : LAt hp a (as.map .ref)) (ra : RowsAt hp as rs) {r : List Str} (hx : SAt hp b r) (h : Q (.bool (!decide (r ∈ rs))) ⟨hp, gs₀, dr, tk₀, os⟩) : wpAny (model prog w) A (compareOp .NotIn (.ref b) (.ref a)) Q E ⟨hp, gs₀, dr, tk₀, os⟩ := by
  refine SeqAt.notIn_listAt _ (s := ⟨hp, gs₀, dr, tk₀, os⟩) hl.isList (at_rows (A := A.in1) ra hx ?_) ?_
  · show A.units + 1 < cLine; have := O.units; omega
  · rw [any_rowsAt ra]; exact h

/-! slices and sums -/
theorem add_l (S : Sx g₀ g L m mu hp) (ha : LAt hp a vs) (hb : LAt hp b ws) (hz : vs.length + ws.length ≤ sizeLine) (h : ∀ r h', Sx g₀ g L m ((r, IsL (vs ++ ws)) :: mu) h' → Q (.ref r) ⟨h', gs₀, dr, tk₀, os⟩) :
    wpAny (model prog w) A (binaryOp .Add (.ref a) (.ref b)) Q E ⟨hp, gs₀, dr, tk₀, os⟩ := by
  obtain ⟨o, e, k, rfl⟩ := ha
  obtain ⟨o', e', k', rfl⟩ := hb
  refine PySem.P.add_list (s := ⟨hp, gs₀, dr, tk₀, os⟩) e e' ?_ (by rw [List.size_toArray, List.size_toArray]; exact hz)
  exact h _ _ (S.alloc rfl ⟨0, by simp⟩)
theorem sl_l {value slice : PySem.Expr} {vl vu : Value} {lo hi : Option Int} (S : Sx g₀ g L m mu hp) (ha : LAt hp a vs) (pl : IsPart vl lo) (pu : IsPart vu hi) (hz : vs.length ≤ sizeLine) (hv : (slicePick vs.toArray lo hi none) = ws.toArray)
    (h : ∀ r h', Sx g₀ g L m ((r, IsL ws) :: mu) h' → Q (.ref r) ⟨h', gs₀, dr, tk₀, os⟩)
    (hs : subscripted slice false (.ref a) (.ref hp.objs.size) = operate [.ref hp.objs.size, .ref a] (getItem (.ref a) (.ref hp.objs.size)) := by with_unfolding_all rfl) :
    wpAny (model prog w) A (subscriptTail value slice (.ref a) (.ref hp.objs.size)) Q E ⟨hp.push { cls := .type "slice", data := .fields #[vl, vu, .none] }, gs₀, dr, tk₀, os⟩ := by
  have hl := ha.isList
  have S' := S.grow (Keep.rfl'.push { cls := .type "slice", data := .fields #[vl, vu, .none] })
  refine tail_any (s := ⟨hp.push { cls := .type "slice", data := .fields #[vl, vu, .none] }, gs₀, dr, tk₀, os⟩) (hl.push _).typeIs slot_list_getitem.lookup (wpAny_getItem_list_slice (hl.push _) (Heap.IsSliceOf.new ..) pl pu .none (by simp) ?_ (by rw [List.size_toArray]; exact hz)) hs
  rw [hv]
  exact h _ _ (S'.alloc rfl ⟨0, rfl⟩)
theorem add_ss (S : Sx g₀ g L m mu hp) (ha : SAt hp a ss) (hb : SAt hp b us) (hz : ss.length + us.length ≤ sizeLine) (h : ∀ r h', Sx g₀ g L m ((r, IsS (ss ++ us)) :: mu) h' → Q (.ref r) ⟨h', gs₀, dr, tk₀, os⟩) :
    wpAny (model prog w) A (binaryOp .Add (.ref a) (.ref b)) Q E ⟨hp, gs₀, dr, tk₀, os⟩ := by
  obtain ⟨l, rfl, la⟩ := ha.open
  obtain ⟨l', rfl, lb⟩ := hb.open
  rw [List.length_map, List.length_map] at hz
  refine add_l S la lb (by rw [strValues_length, strValues_length]; exact hz) fun r h' S' => h r h' (S'.weaken .head fun o p => ⟨l ++ l', by simp, ?_⟩)
  rw [show strValues (l ++ l') = strValues l ++ strValues l' by simp [strValues]]
  exact p
theorem cut_ss {value slice : PySem.Expr} {k : Nat} (S : Sx g₀ g L m mu hp) (ha : SAt hp a ss) (hz : ss.length ≤ sizeLine) (h : ∀ r h', Sx g₀ g L m ((r, IsS (ss.take k)) :: mu) h' → Q (.ref r) ⟨h', gs₀, dr, tk₀, os⟩)
    (hs : subscripted slice false (.ref a) (.ref hp.objs.size) = operate [.ref hp.objs.size, .ref a] (getItem (.ref a) (.ref hp.objs.size)) := by with_unfolding_all rfl) :
    wpAny (model prog w) A (subscriptTail value slice (.ref a) (.ref hp.objs.size)) Q E ⟨hp.push { cls := .type "slice", data := .fields #[.none, .int (k : Int) u, .none] }, gs₀, dr, tk₀, os⟩ := by
  obtain ⟨l, rfl, la⟩ := ha.open
  rw [List.length_map] at hz
  refine sl_l (ws := strValues (l.take k)) S la .none (.int _ _) (by rw [strValues_length]; exact hz) ?_ (fun r h' S' => h r h' (S'.weaken .head fun o p => ⟨l.take k, by simp [List.map_take], p⟩)) hs
  rw [slicePick_upto']
  simp [strValues, List.map_take]
theorem most_ss {value slice : PySem.Expr} (S : Sx g₀ g L m mu hp) (ha : SAt hp a ss) (hz : ss.length ≤ sizeLine) (h : ∀ r h', Sx g₀ g L m ((r, IsS ss.dropLast) :: mu) h' → Q (.ref r) ⟨h', gs₀, dr, tk₀, os⟩)
    (hs : subscripted slice false (.ref a) (.ref hp.objs.size) = operate [.ref hp.objs.size, .ref a] (getItem (.ref a) (.ref hp.objs.size)) := by with_unfolding_all rfl) :
    wpAny (model prog w) A (subscriptTail value slice (.ref a) (.ref hp.objs.size)) Q E ⟨hp.push { cls := .type "slice", data := .fields #[.none, .int (-1) u, .none] }, gs₀, dr, tk₀, os⟩ := by
  obtain ⟨l, rfl, la⟩ := ha.open
  rw [List.length_map] at hz
  refine sl_l (ws := strValues l.dropLast) S la .none (.int _ _) (by rw [strValues_length]; exact hz) ?_ (fun r h' S' => h r h' (S'.weaken .head fun o p => ⟨l.dropLast, by simp [List.map_dropLast], p⟩)) hs
  have := slicePick_butLast (strValues l).toArray 1 (Nat.le_refl _)
  rw [show (-((1 : Nat) : Int)) = -1 from rfl] at this
  rw [this]
  simp [strValues, List.dropLast_eq_take, List.map_take]
end
/-! more rules, told by parts -/
section
variable {prog : Program} {w : World} {A : Around} {E : Value → Shared → Prop} {hp : Heap} {gs₀ : Array GenState} {dr : Drawn} {tk₀ : Nat} {os : OsState} {Q : Value → Shared → Prop} {x y : Str} {t u : Tok} {i j : Int}
theorem c_addi (h : ∀ t' tk, Q (.int (i + j) t') ⟨hp, gs₀, dr, tk, os⟩) : wpAny (model prog w) A (binaryOp .Add (.int i t) (.int j u)) Q E ⟨hp, gs₀, dr, tk₀, os⟩ := PyProof.Rows.add_int (h _ _)
theorem c_len (hx : x.length ≤ 4096) (h : ∀ t' tk, Q (.int (x.length : Int) t') ⟨hp, gs₀, dr, tk, os⟩) : wpAny (model prog w) A (call (.builtin "len") [.str x t]) Q E ⟨hp, gs₀, dr, tk₀, os⟩ := by
  refine PySem.P.len_str ?_ (h _ _)
  have : ((2 : Int) ^ 63) = 9223372036854775808 := by decide
  rw [this]; omega
theorem c_mul (hok : MulOk x j) (h : ∀ t' tk, Q (.str (Txt.mul x j) t') ⟨hp, gs₀, dr, tk, os⟩) : wpAny (model prog w) A (binaryOp .Mult (.str x t) (.int j u)) Q E ⟨hp, gs₀, dr, tk₀, os⟩ := SB.mul hok (fun t' k => h t' k)
end
theorem mulOk_slash {n : Nat} (hn : n ≤ 4096) : MulOk "/" (n : Int) := by
  refine ⟨?_, ?_, ?_⟩
  · have e : ((2 : Int) ^ 63) = 9223372036854775808 := by decide
    rw [e]; simp; omega
  · intro h1 _ h2
    rw [show Str.length "/" = 1 from rfl] at h2
    have e : ((2 : Int) ^ 63 - 1) = 9223372036854775807 := by decide
    rw [e] at h2
    have h3 : (4096 : Int) * 1 ≤ 9223372036854775807 := by decide
    have h4 : (1 : Int) ≤ 9223372036854775807 / n := by
      rw [Int.le_ediv_iff_mul_le (by omega)]; omega
    omega
  · intro h1 _
    rw [show Str.length "/" = 1 from rfl]
    unfold Builtin.Str.tooLong
    rw [sizeLine_eq]
    simp
    omega
abbrev headF (p : Str) : Str := Txt.slice p none (some (Txt.rfind p "/" + 1))
abbrev tailF (p : Str) : Str := Txt.slice p (some (Txt.rfind p "/" + 1)) none
def dirF (p : Str) : Str := if (headF p != "") = true then if (headF p != Txt.mul "/" ((headF p).length : Int)) = true then Txt.rstripChars (headF p) "/" else headF p else headF p
theorem headF_len (p : Str) : (headF p).length ≤ p.length := Txt.slice_le _ _ _
section
variable {prog : Program} {w : World} {A : Around} {hp : Heap} {gs₀ : Array GenState} {dr : Drawn} {tk₀ : Nat} {os : OsState} {E : Value → Shared → Prop} {g₀ g : Heap} {L a : Addr} {m : Str → Option Value} {mu : Mut} {vs : List Value} {n : Nat}
theorem unp_tup {Q : List Value → Shared → Prop} (S : Sx g₀ g L m mu hp) (hm : TupIn g mu a vs) (hh : A.handled = none) (hn : n = vs.length) (h : ∀ h', Sx g₀ g L m mu h' → Q vs ⟨h', gs₀, dr, tk₀, os⟩) : wpAny (model prog w) A (unpackItems (.ref a) n none) Q E ⟨hp, gs₀, dr, tk₀, os⟩ := by
  subst hn
  have := unpackItems_tuple (prog := prog) (w := w) (A := A) (E := E) (s := ⟨hp, gs₀, dr, tk₀, os⟩) (Q := Q) hh (hm.here S) ?_
  · rwa [List.size_toArray] at this
  intro h' he
  refine h h' ?_
  have he' : Heap.ExtBut hp.objs.size hp h' := he
  exact S.grow fun b o e => he' b o (Nat.ne_of_lt (Heap.lt_size e)) e
theorem bnd {Q : Unit → Shared → Prop} {env : Env} {x : Str} {v : Value} (h : wpAny (model prog w) A (storeName env x v) Q E ⟨hp, gs₀, dr, tk₀, os⟩) : wpAny (model prog w) A (bindName env x v) Q E ⟨hp, gs₀, dr, tk₀, os⟩ := wpAny_bindName h
end
end
section
section
variable {K : Frag} {prog : Program} {w : World} {A : Around} {hp : Heap} {gs₀ : Array GenState} {dr : Drawn} {tk₀ : Nat} {os : OsState} {E : Value → Shared → Prop} {Q : Value → Shared → Prop} {g₀ g : Heap} {L : Addr} {m : Str → Option Value} {mu : Mut}

theorem isS_nil : ∀ o, IsL [] o → IsS [] o := fun o p => ⟨[], rfl, p⟩
theorem isS_one {c : Str} {t : Tok} : ∀ o, IsL [.str c t] o → IsS [c] o := fun o p => ⟨[(c, t)], rfl, p⟩
theorem len_le_wt' {F : List Str} {n : Nat} (h : wt F ≤ n) : F.length ≤ n := Nat.le_trans (len_le_wt F) h

theorem lawRow_ok (KK : KF K) {R : Result → Shared → Prop} {x : Str} {t : Tok} (C : Cx K hp) (O : Ok A 4) (hx : x.length ≤ 2002)
    (h : ∀ r h' tk, Keep hp h' → Fresh hp h' r (IsS (rowF x)) → R (.ok (.ret (.ref r))) ⟨h', gs₀, dr, tk, os⟩) :
    codeAny (model prog w) A (.call (.ref 221) ⟨[.str x t], []⟩) R ⟨hp, gs₀, dr, tk₀, os⟩ := by
  refine call_def KK.lawRow (binds := [("text", .str x t)]) C O.room (fun _ _ => BindsTo.of_eq rfl) (by intro y hy; simp only [List.mem_singleton] at hy; subst hy; rfl) (by decide) ?_
  intro h₁ tk₁ S₁
  refine wpAny_execs_cons ?_
  walk_at "mm"
  rename_i N _ _ _ _ S₂ _ _
  refine sp_str S₂ (by walk_at "ln") (by decide) ?_
  intro D h₇ tk₇ S₇
  obtain ⟨lc, hlc, k₈⟩ := S₇.openS (a := D) (by walk_at "mem")
  have S₉ := k₈ _ .head
  have S₉ := S₉.weaken (P' := IsS []) (.tail .head) isS_nil
  have S₉ := S₉.swap
  refine iter_of_list S₉ (.inr (by walk_at "mem")) ?_
  intro it hh S₁₀
  have hw : wt (Txt.split x "/") ≤ 2003 := by
    have h3 := PyProof.Rows.split_weight x "/" (by decide)
    show (List.map (fun x => x.length) (Txt.split x "/")).sum + (Txt.split x "/").length ≤ 2003
    omega
  have hrow : rowF x = (Txt.split x "/").foldl rstep [] := rfl
  generalize Txt.split x "/" = cs at hlc hw hrow
  have hlen : lc.length = cs.length := by rw [← hlc, List.length_map]
  refine for_run (iter_list (vs := strValues lc) O.handled)
    (fun i g' m' mu' gs => g' = hp ∧ gs = gs₀ ∧ ∃ r, m' "row" = some (.ref r) ∧ mu' = [(r, IsS ((cs.take i).foldl rstep [])), (D, IsL (strValues lc))])
    S₁₀ ⟨rfl, rfl, N, rfl, rfl⟩ (fun i g m mu gs hJ => .inr (by obtain ⟨_, _, r, _, e⟩ := hJ; rw [e]; walk_at "mem")) ?_ ?_
  · intro i v g' m' mu' gs h tk E' hi hv hJ hk S'
    obtain ⟨rfl, rfl, r, hr, rfl⟩ := hJ
    obtain ⟨c, tc, hc, rfl⟩ : ∃ c t, lc[i]? = some (c, t) ∧ v = .str c t := by
      simp only [strValues, List.getElem?_map, Option.map_eq_some_iff] at hv
      obtain ⟨⟨c, t⟩, e, rfl⟩ := hv
      exact ⟨c, t, e, rfl⟩
    have hci : cs[i]? = some c := by rw [← hlc, List.getElem?_map, hc]; rfl
    have hf : (cs.take (i + 1)).foldl rstep [] = rstep ((cs.take i).foldl rstep []) c := by rw [List.take_add_one, hci, List.foldl_append]; rfl
    have hFw : wt ((cs.take i).foldl rstep []) ≤ 2003 := by
      have h1 := wt_fold rstep wt_rstep (cs.take i) []
      have h2 := wt_take cs i
      have h3 : wt ([] : List Str) = 0 := rfl
      omega
    rw [hf]
    generalize (cs.take i).foldl rstep [] = F at S' hFw ⊢
    have hFl : F.length + 1 ≤ sizeLine := by have := len_le_wt F; rw [sizeLine_eq]; omega
    have hFl' : F.length ≤ sizeLine := by omega
    have fin : ∀ r' m₃ h₃ tk₃, Sx g' g' g'.objs.size m₃ [(it, IsLIt D (i + 1)), (r', IsS (rstep F c)), (D, IsL (strValues lc))] h₃ → m₃ "row" = some (.ref r') →
        ∃ h' tk' gs' g'' m'' mu'', (⟨h₃, gs, dr, tk₃, os⟩ : Shared) = ⟨h', gs', dr, tk', os⟩ ∧ Keep g' g'' ∧ Sx g' g'' g'.objs.size m'' ((it, IsLIt D (i + 1)) :: mu'') h' ∧ g'' = g' ∧ gs' = gs ∧
          ∃ r, m'' "row" = some (.ref r) ∧ mu'' = [(r, IsS (rstep F c)), (D, IsL (strValues lc))] :=
      fun r' m₃ h₃ tk₃ S₃ hm => ⟨_, _, _, _, _, _, rfl, Keep.rfl', S₃, rfl, rfl, r', hm, rfl⟩
    refine wpAny_execs_cons ?_
    walk_at "mm"
    by_cases c2 : c = ".."
    · refine ite_pos (by simp [c2]) ?_
      walk_at "mm"
      refine most_ss S' (S'.sAt (by walk_at "mem")) hFl' ?_
      intro r₂ h₂ S₂
      walk_at "mm"
      rename Sx _ _ _ _ _ _ => S₃
      have S₄ := S₃.swap.sub (mu' := [(it, IsLIt D (i + 1)), (r₂, IsS F.dropLast), (D, IsL (strValues lc))]) (by walk_at "sub")
      exact fin r₂ _ _ _ ((show rstep F c = F.dropLast by rw [c2]; rfl) ▸ S₄) (by walk_at "lk")
    · refine ite_neg (by simp [c2]) ?_
      walk_at "mm"
      by_cases c0 : c = ""
      · refine ite_neg (by simp [c0]) ?_
        walk_at "mm"
        exact fin r _ _ _ ((show rstep F c = F by rw [c0]; rfl) ▸ S') (by walk_at "lk")
      refine ite_pos (by simp [c0]) ?_
      walk_at "mm"
      by_cases c1 : c = "."
      · refine ite_neg (by simp [c1]) ?_
        walk_at "mm"
        exact fin r _ _ _ ((show rstep F c = F by rw [c1]; rfl) ▸ S') (by walk_at "lk")
      refine ite_pos (by simp [c1]) ?_
      walk_at "mm"
      rename Sx _ _ _ _ _ _ => S₁
      have S₂ := S₁.weaken (P' := IsS [c]) .head isS_one
      refine add_ss S₂ (S₂.sAt (by walk_at "mem")) (S₂.sAt (by walk_at "mem")) hFl ?_
      intro r₂ h₂ S₃
      walk_at "mm"
      rename Sx _ _ _ _ _ _ => S₄
      have S₅ := (S₄.sub (mu' := [(r₂, IsS (F ++ [c])), (it, IsLIt D (i + 1)), (D, IsL (strValues lc))]) (by walk_at "sub")).swap
      exact fin r₂ _ _ _ ((show rstep F c = F ++ [c] by unfold rstep; rw [if_neg c2, if_pos (And.intro c0 c1)]) ▸ S₅) (by walk_at "lk")
  · intro g' m' mu' gs h₁ tk₁ hJ hk S'
    obtain ⟨rfl, rfl, r, hr, rfl⟩ := hJ
    have hF : (cs.take (strValues lc).length).foldl rstep [] = rowF x := by rw [strValues_length, hlen, List.take_length, hrow]
    rw [hF] at S'
    walk_at "mm"
    exact h r _ _ S'.old (S'.give (by walk_at "mem"))
theorem lawRow_c (KK : KF K) (S : Sx g₀ g L m mu hp) (C : Cx K g₀) (O : Ok A 4) {x : Str} {t : Tok} (hx : x.length ≤ 2002)
    (h : ∀ r h' tk, Sx g₀ g L m ((r, IsS (rowF x)) :: mu) h' → Q (.ref r) ⟨h', gs₀, dr, tk, os⟩) :
    wpAny (model prog w) A (call (.ref 221) [.str x t]) Q E ⟨hp, gs₀, dr, tk₀, os⟩ := wpAny_call (lawRow_ok KK (C.keeps S.old) O hx fun r h' tk k f => h r h' tk (S.take k f))
end
end
section
section
variable {K : Frag} {prog : Program} {w : World} {A : Around} {hp : Heap} {gs₀ : Array GenState} {dr : Drawn} {tk₀ : Nat} {os : OsState} {E : Value → Shared → Prop} {Q : Value → Shared → Prop} {g₀ g : Heap} {L : Addr} {m : Str → Option Value} {mu : Mut}
theorem dirname_ok (KK : KF K) {R : Result → Shared → Prop} {x : Str} {t : Tok} (C : Cx K hp) (O : Ok A 4) (hx : x.length ≤ 4096) (h : ∀ h' tk t', Keep hp h' → R (.ok (.ret (.str (dirF x) t'))) ⟨h', gs₀, dr, tk, os⟩) :
    codeAny (model prog w) A (.call (.ref 129) ⟨[.str x t], []⟩) R ⟨hp, gs₀, dr, tk₀, os⟩ := by
  refine call_def KK.dirname (binds := [("p", .str x t)]) C O.room (fun _ _ => BindsTo.of_eq rfl) (by intro y hy; simp only [List.mem_singleton] at hy; subst hy; rfl) (by decide) ?_
  intro h₁ tk₁ S₁
  refine wpAny_execs_cons ?_
  walk_at "mm"
  refine fspath_c KK S₁ C (by walk_at "ok") ?_
  intro h₂ tk₂ S₂
  walk_at "mm"
  rename Sx _ _ _ _ _ _ => S₃
  refine getSep_c KK S₃ C (by walk_at "ok") ?_
  intro h₂ tk₂ tk₂' S₂
  walk_at "mm"
  have hd : dirF x = if (headF x != "") = true then if (headF x != Txt.mul "/" ((headF x).length : Int)) = true then Txt.rstripChars (headF x) "/" else headF x else headF x := rfl
  have hH : (headF x).length ≤ 4096 := Nat.le_trans (headF_len x) hx
  rw [show Txt.slice x none (some (Txt.rfind x "/" + 1)) = headF x from rfl]
  by_cases c0 : (headF x != "") = true
  · rw [if_pos c0] at hd
    refine ite_pos c0 ?_
    walk_at "mm"
    refine c_mul (mulOk_slash hH) ?_
    intro _ _
    walk_at "mm"
    by_cases c1 : (headF x != Txt.mul "/" ((headF x).length : Int)) = true
    · rw [if_pos c1] at hd
      refine ite_pos c1 ?_
      walk_at "mm"
      rename Sx _ _ _ _ _ _ => S₃
      rw [hd] at h
      exact h _ _ _ S₃.old
    · rw [if_neg c1] at hd
      refine ite_neg c1 ?_
      walk_at "mm"
      rename Sx _ _ _ _ _ _ => S₃
      rw [hd] at h
      exact h _ _ _ S₃.old
  · rw [if_neg c0] at hd
    refine ite_neg c0 ?_
    walk_at "mm"
    rename Sx _ _ _ _ _ _ => S₃
    rw [hd] at h
    exact h _ _ _ S₃.old
theorem dirname_c (KK : KF K) (S : Sx g₀ g L m mu hp) (C : Cx K g₀) (O : Ok A 4) {x : Str} {t : Tok} (hx : x.length ≤ 4096) (h : ∀ h' tk t', Sx g₀ g L m mu h' → Q (.str (dirF x) t') ⟨h', gs₀, dr, tk, os⟩) :
    wpAny (model prog w) A (call (.ref 129) [.str x t]) Q E ⟨hp, gs₀, dr, tk₀, os⟩ := wpAny_call (dirname_ok KK (C.keeps S.old) O hx fun h' tk t' k => h h' tk t' (S.grow k))

theorem kind_ok (KK : KF K) {R : Result → Shared → Prop} {x y : Str} {t u : Tok} (C : Cx K hp) (O : Ok A 2) (h : ∀ h' tk t', Keep hp h' → R (.ok (.ret (.str "" t'))) ⟨h', gs₀, dr, tk, os⟩) :
    codeAny (model prog w) A (.call (.ref 148) ⟨[.str y u, .str x t], []⟩) R ⟨hp, gs₀, dr, tk₀, os⟩ := by
  refine call_def KK.kind_ (binds := [("name", .str y u), ("x", .str x t)]) C O.room (fun _ _ => BindsTo.of_eq rfl) (by intro y hy; simp only [List.mem_cons, List.not_mem_nil, or_false] at hy; rcases hy with rfl | rfl <;> rfl) (by decide) ?_
  intro h₁ tk₁ S₁
  refine wpAny_execs_cons ?_
  walk_at "mm"
  refine call_type_of (typeIs_str _ _ _) (by decide +kernel) ?_
  walk_at "mm"
  refine wpAny_is_self (by rfl) ?_
  walk_at "mm"
  rename Sx _ _ _ _ _ _ => S₃
  exact h _ _ _ S₃.old
theorem kind_c (KK : KF K) (S : Sx g₀ g L m mu hp) (C : Cx K g₀) (O : Ok A 2) {x y : Str} {t u : Tok} (h : ∀ h' tk t', Sx g₀ g L m mu h' → Q (.str "" t') ⟨h', gs₀, dr, tk, os⟩) :
    wpAny (model prog w) A (call (.ref 148) [.str y u, .str x t]) Q E ⟨hp, gs₀, dr, tk₀, os⟩ := wpAny_call (kind_ok KK (C.keeps S.old) O fun h' tk t' k => h h' tk t' (S.grow k))

theorem fspath2_ok (KK : KF K) {R : Result → Shared → Prop} {x y : Str} {t u : Tok} (C : Cx K hp) (O : Ok A 4) (h : ∀ h' tk, Keep hp h' → R (.ok (.ret (.str x t))) ⟨h', gs₀, dr, tk, os⟩) :
    codeAny (model prog w) A (.call (.ref 155) ⟨[.str y u, .str x t], []⟩) R ⟨hp, gs₀, dr, tk₀, os⟩ := by
  refine call_def KK.fspath_ (binds := [("name", .str y u), ("x", .str x t)]) C O.room (fun _ _ => BindsTo.of_eq rfl) (by intro y hy; simp only [List.mem_cons, List.not_mem_nil, or_false] at hy; rcases hy with rfl | rfl <;> rfl) (by decide) ?_
  intro h₁ tk₁ S₁
  refine wpAny_execs_cons ?_
  walk_at "mm"
  refine kind_c KK S₁ C (by walk_at "ok") ?_
  intro h₂ tk₂ t₂ S₂
  walk_at "mm"
  refine ite_neg (by decide) ?_
  walk_at "mm"
  rename Sx _ _ _ _ _ _ => S₃
  exact h _ _ S₃.old
theorem fspath2_c (KK : KF K) (S : Sx g₀ g L m mu hp) (C : Cx K g₀) (O : Ok A 4) {x y : Str} {t u : Tok} (h : ∀ h' tk, Sx g₀ g L m mu h' → Q (.str x t) ⟨h', gs₀, dr, tk, os⟩) :
    wpAny (model prog w) A (call (.ref 155) [.str y u, .str x t]) Q E ⟨hp, gs₀, dr, tk₀, os⟩ := wpAny_call (fspath2_ok KK (C.keeps S.old) O fun h' tk k => h h' tk (S.grow k))

theorem split_ok (KK : KF K) {R : Result → Shared → Prop} {x : Str} {t : Tok} (C : Cx K hp) (O : Ok A 6) (hx : x.length ≤ 4096) (h : ∀ T h' tk t1 t2, Keep hp h' → Fresh hp h' T (IsT [.str (dirF x) t1, .str (tailF x) t2]) → R (.ok (.ret (.ref T))) ⟨h', gs₀, dr, tk, os⟩) :
    codeAny (model prog w) A (.call (.ref 162) ⟨[.str x t], []⟩) R ⟨hp, gs₀, dr, tk₀, os⟩ := by
  refine call_def KK.split (binds := [("p", .str x t)]) C O.room (fun _ _ => BindsTo.of_eq rfl) (by intro y hy; simp only [List.mem_singleton] at hy; subst hy; rfl) (by decide) ?_
  intro h₁ tk₁ S₁
  refine wpAny_execs_cons ?_
  walk_at "mm"
  refine fspath2_c KK S₁ C (by walk_at "ok") ?_
  intro h₂ tk₂ S₂
  walk_at "mm"
  refine Assign_Tuple_swapped (names := ["head", "tail"]) ?_
  walk_at "mm"
  rename_i T _ S₃
  refine unp_tup S₃ (.inr (by walk_at "mem")) O.handled rfl ?_
  intro h₄ S₄
  show wpAny _ _ (assignInOrder [bindName _ "tail", bindName _ "head"] [_, _]) _ _ _
  refine assignInOrder_cons (bnd ?_)
  walk_at "mm"
  refine bnd ?_
  walk_at "mm"
  have hd : dirF x = if (headF x != "") = true then if (headF x != Txt.mul "/" ((headF x).length : Int)) = true then Txt.rstripChars (headF x) "/" else headF x else headF x := rfl
  have hH : (headF x).length ≤ 4096 := Nat.le_trans (headF_len x) hx
  rw [show Txt.slice x none (some (Txt.rfind x "/" + 1)) = headF x from rfl]
  by_cases c0 : (headF x != "") = true
  · rw [if_pos c0] at hd
    refine ite_pos c0 ?_
    walk_at "mm"
    refine c_mul (mulOk_slash hH) ?_
    intro _ _
    walk_at "mm"
    by_cases c1 : (headF x != Txt.mul "/" ((headF x).length : Int)) = true
    · rw [if_pos c1] at hd
      refine ite_pos c1 ?_
      walk_at "mm"
      rename Sx _ _ _ _ _ _ => S₃
      rw [hd] at h
      exact h _ _ _ _ _ S₃.old (S₃.give (by walk_at "mem"))
    · rw [if_neg c1] at hd
      refine ite_neg c1 ?_
      walk_at "mm"
      rename Sx _ _ _ _ _ _ => S₃
      rw [hd] at h
      exact h _ _ _ _ _ S₃.old (S₃.give (by walk_at "mem"))
  · rw [if_neg c0] at hd
    refine ite_neg c0 ?_
    walk_at "mm"
    rename Sx _ _ _ _ _ _ => S₃
    rw [hd] at h
    exact h _ _ _ _ _ S₃.old (S₃.give (by walk_at "mem"))
theorem split_c (KK : KF K) (S : Sx g₀ g L m mu hp) (C : Cx K g₀) (O : Ok A 6) {x : Str} {t : Tok} (hx : x.length ≤ 4096)
    (h : ∀ T h' tk t1 t2, Sx g₀ g L m ((T, IsT [.str (dirF x) t1, .str (tailF x) t2]) :: mu) h' → Q (.ref T) ⟨h', gs₀, dr, tk, os⟩) :
    wpAny (model prog w) A (call (.ref 162) [.str x t]) Q E ⟨hp, gs₀, dr, tk₀, os⟩ := wpAny_call (split_ok KK (C.keeps S.old) O hx fun T h' tk t1 t2 k f => h T h' tk t1 t2 (S.take k f))
end
end
section
/-! ## The generator _ancestry -/
inductive Anc : Str → List Str → Prop
  | nil {p : Str} : Txt.rstripChars p "/" = "" → Anc p []
  | cons {p : Str} {ps : List Str} : Txt.rstripChars p "/" ≠ "" → p.length ≤ 4096 → Anc (dirF p) ps → Anc p (p :: ps)
def CxB (K : Frag) (h : Heap) (Lf : Addr) : Prop := Cx K (hideAll h [Lf])
def RelG (Lf : Addr) (s₀ s : Shared) : Prop := Heap.ExtBut Lf s₀.heap s.heap ∧ s.gens = s₀.gens ∧ s.drawn = s₀.drawn ∧ s.os = s₀.os
def Yanc (K : Frag) (Lf : Addr) (ls : List Str) : Protocol := fun m s₀ v s kap =>
  ∃ x t, v = .str x t ∧ ls[ls.length - 1 - m]? = some x ∧ RelG Lf s₀ s ∧ ∃ o, s.heap.get? Lf = some o ∧ ∀ s'', s''.heap.get? Lf = some o → CxB K s''.heap Lf → kap (.send .none) s''
def Ranc (Lf : Addr) : GenEnd := fun n s₀ r s₁ => r = .ok (.ret .none) ∧ n = 0 ∧ RelG Lf s₀ s₁
def whileTest : Stmt → PySem.Expr | .While t .. => t | _ => default
def whileBody : Stmt → List Stmt | .While _ b .. => b | _ => []
def ancWhile : Stmt := ((bodyOf (stmtAt 25))[1]?).getD (.Pass default)
abbrev ancEnv (L : Addr) : Env := envX "_ancestry" (scopeOf (stmtAt 25)) L 169 (.ref 168) []
abbrev ancLoop (L : Addr) : Code := .whileLoop (whileTest ancWhile) (whileBody ancWhile) [] (ancEnv L)
abbrev ancFunc (L : Addr) : Code := .func (bodyOf (stmtAt 25)) (ancEnv L)

theorem dirF_len (p : Str) : (dirF p).length ≤ p.length := by
  have h := headF_len p
  unfold dirF
  split
  · split
    · exact Nat.le_trans (len_rstripChars _ _) h
    · exact h
  · exact h
theorem Sx.solo {h : Heap} {L : Addr} {m : Str → Option Value} (n : h.Ns L m) : Sx (hideAll h [L]) (hideAll h [L]) L m [] h where
  base := Keep.rfl'
  ns := n
  get := fun _ hp => nomatch hp
  keep := fun b o e => of_hideAll _ e
  gL := hideAll_none _ (.head _)
  gm := fun _ hp => nomatch hp
  nL := fun _ hp => nomatch hp
  nd := .nil
theorem keep_hide {h h' : Heap} {L : Addr} (k : Keep (hideAll h [L]) h') : Heap.ExtBut L h h' := fun b o n e => k b o (hideAll_get _ e (by simpa using n))
theorem hide_keep {h h' : Heap} {L : Addr} (k : Keep (hideAll h [L]) h') : Keep (hideAll h [L]) (hideAll h' [L]) := fun b o e => by
  have e' := k b o e
  refine hideAll_get _ e' ?_
  intro q
  simp only [List.mem_singleton] at q
  subst q
  rw [hideAll_none _ (.head _)] at e
  cases e

section
variable {K : Frag} {prog : Program} {w : World} {A : Around} {Lf : Addr}
theorem okA {n : Nat} {c : Code} {fs : List Frame} (O : Ok A n) (k : Nat) (h1 : (marksOver fs (none, none)).1 = none) (h2 : frameCount (fs.map Frame.where_) + c.weight + 4 * k ≤ 4 * n) (h3 : unitsOf (fs.map Frame.where_) + c.cUnits + 8 * k ≤ 8 * n) : Ok (A.over c fs) k where
  handled := by show (marksOver fs (A.handled, A.handled)).1 = none; rw [O.handled]; exact h1
  depth := by show A.depth + frameCount (fs.map Frame.where_) + c.weight + 4 * k < recursionLimit; have := O.depth; omega
  units := by show A.units + unitsOf (fs.map Frame.where_) + c.cUnits + 8 * k < cLine; have := O.units; omega

theorem anc_loop (KK : KF K) (O : Ok A 10) (ls : List Str) (fs : List Frame) (hfs : splitAtGen fs = none) (hfg : fs.any Frame.guarded = false)
    (h1 : (marksOver fs (none, none)).1 = none) (h2 : frameCount (fs.map Frame.where_) ≤ 4) (h3 : unitsOf (fs.map Frame.where_) ≤ 8)
    (fin : ∀ s₀ s, RelG Lf s₀ s → Seg (model prog w) A (Ranc Lf) (Yanc K Lf ls) 0 s₀ (ancLoop Lf) (.pure (.done .next)) fs s) :
    ∀ (ps : List Str) (p : Str) (h₀ h : Heap) (gs : Array GenState) (m : Str → Option Value) (t : Tok) (tk tk₁ : Nat) (dr : Drawn) (os : OsState), Anc p ps → p.length ≤ 4096 → ls.drop (ls.length - ps.length) = ps → ps.length ≤ ls.length → CxB K h₀ Lf → m "path" = some (.str p t) →
      Sx (hideAll h₀ [Lf]) (hideAll h₀ [Lf]) Lf m [] h →
      Seg (model prog w) A (Ranc Lf) (Yanc K Lf ls) ps.length ⟨h₀, gs, dr, tk₁, os⟩ (ancLoop Lf) ((model prog w).den (ancLoop Lf)) fs ⟨h, gs, dr, tk, os⟩ := by
  intro ps
  induction ps with
  | nil =>
    intro p h₀ h gs m t tk tk₁ dr os ha hpl hdrop hlen hC hm S
    have C : Cx K (hideAll h₀ [Lf]) := hC
    obtain ⟨tsep, gsep⟩ := KK.g_sep
    refine seg_whileLoop (isTrue_plain (MethodCall_ ?_))
    walk_at "mm"
    have ha' : Txt.rstripChars p "/" = "" := by cases ha; assumption
    refine ite_neg (by rw [ha']; decide) ?_
    refine seg_execs_nil ?_
    exact fin _ _ ⟨keep_hide S.keep, rfl, rfl, rfl⟩
  | cons q ps ih =>
    intro p h₀ h gs m t tk tk₁ dr os ha hpl hdrop hlen hC hm S
    have C : Cx K (hideAll h₀ [Lf]) := hC
    obtain ⟨tsep, gsep⟩ := KK.g_sep
    obtain ⟨rfl, hne, hnx⟩ : p = q ∧ Txt.rstripChars p "/" ≠ "" ∧ Anc (dirF p) ps := by cases ha; exact ⟨rfl, by assumption, by assumption⟩
    refine seg_whileLoop (isTrue_plain (MethodCall_ ?_))
    walk_at "mm"
    refine ite_pos (by simp [hne]) ?_
    refine seg_execs_cons ?_
    refine seg_Expr_Yield hfs rfl hfg ?_
    walk_at "mm"
    intro kap hkap
    obtain ⟨o, es, ep, ho, hrest⟩ := S.ns
    refine ⟨p, t, rfl, ?_, ⟨keep_hide S.keep, rfl, rfl, rfl⟩, o, ho, ?_⟩
    · have hl : (p :: ps).length ≤ ls.length := hlen
      have h1 : ls.length - 1 - ps.length = ls.length - (p :: ps).length := by simp only [List.length_cons]; omega
      have h2 := congrArg (fun l => l[0]?) hdrop
      simp only [List.getElem?_drop, Nat.add_zero] at h2
      show ls[ls.length - 1 - ps.length]? = some p
      rw [h1, h2]; rfl
    intro s'' ho'' hC''
    refine hkap _ _ ?_
    obtain ⟨h₁, gs₁, dr₁, tk₃, os₁⟩ := s''
    have S₁ : Sx (hideAll h₁ [Lf]) (hideAll h₁ [Lf]) Lf m [] h₁ := Sx.solo ⟨o, es, ep, ho'', hrest⟩
    have C₁ : Cx K (hideAll h₁ [Lf]) := hC''
    refine seg_execs_cons ?_
    refine seg_wrap ?_
    walk_at "mm"
    have O₁ : Ok (A.over (ancLoop Lf) fs) 7 := okA O 7 h1 (by show _ + 0 + _ ≤ _; omega) (by show _ + 0 + _ ≤ _; omega)
    refine split_c KK S₁ C₁ (by walk_at "ok") hpl ?_
    intro T h₂ tk₂ t1 t2 S₂
    refine asg_tup S₂ (.inr (by walk_at "mem")) O₁.handled rfl rfl ?_
    intro h₅ S₅
    walk_at "mm"
    rename Sx _ _ _ _ _ _ => S₆
    refine seg_execs_nil ?_
    refine seg_again (by rfl) ?_
    refine ih (dirF p) h₁ _ gs₁ _ t1 _ _ dr₁ os₁ hnx ?_ ?_ ?_ hC'' (by walk_at "lk") (S₆.sub (List.nil_sublist _))
    · exact Nat.le_trans (dirF_len p) hpl
    · have h1 : ls.length - ps.length = (ls.length - (p :: ps).length) + 1 := by
        have : (p :: ps).length ≤ ls.length := hlen
        simp only [List.length_cons] at this ⊢; omega
      rw [h1, ← List.drop_drop, hdrop]; rfl
    · have : (p :: ps).length ≤ ls.length := hlen
      simp only [List.length_cons] at this; omega
end
end
section
def IsGenO (n : Nat) (o : Obj) : Prop := ∃ nm qn, o.cls = .type "generator" ∧ o.data = .fields #[.int n 0, nm, qn] ∧ o.slots = #[]
section
variable {K : Frag} {prog : Program} {w : World} {A : Around} {Lf : Addr}
theorem anc_start (KK : KF K) (O : Ok A 12) {ls : List Str} {p : Str} {o : Obj} {m : Str → Option Value} {t : Tok} {s : Shared} (ha : Anc (Txt.rstripChars p "/") ls) (hp : p.length ≤ 4096) (ho : s.heap.get? Lf = some o) (hn : s.heap.Ns Lf m) (hm : m "path" = some (.str p t)) (hC : CxB K s.heap Lf) :
    Seg (model prog w) A (Ranc Lf) (Yanc K Lf ls) ls.length s (ancFunc Lf) ((model prog w).den (ancFunc Lf)) [] s := by
  obtain ⟨h₀, gs, dr, tk, os⟩ := s
  have S : Sx (hideAll h₀ [Lf]) (hideAll h₀ [Lf]) Lf m [] h₀ := Sx.solo hn
  have C : Cx K (hideAll h₀ [Lf]) := hC
  obtain ⟨tsep, gsep⟩ := KK.g_sep
  refine seg_func ?_
  refine seg_execs_cons ?_
  refine seg_wrap ?_
  walk_at "mm"
  rename Sx _ _ _ _ _ _ => S₂
  refine seg_execs_cons ?_
  refine seg_While fun pp => ?_
  refine anc_loop KK ⟨O.handled, by have := O.depth; omega, by have := O.units; omega⟩ ls _ rfl rfl rfl (Nat.le_of_ble_eq_true rfl) (Nat.le_of_ble_eq_true rfl) ?_ ls (Txt.rstripChars p "/") h₀ _ gs _ _ _ _ dr os ha (Nat.le_trans (len_rstripChars _ _) hp) (by simp) (Nat.le_refl _) hC (by walk_at "lk") S₂
  intro s₀ s hr
  refine seg_leaf (.ok .next) ?_
  exact seg_end (.ok (.ret .none)) ⟨rfl, rfl, hr⟩

def AncSt (K : Frag) (prog : Program) (w : World) (Ag : Around) (Lf : Addr) (ls : List Str) (i : Nat) (o : Obj) (gst : GenState) : Prop :=
  ∀ s, s.heap.get? Lf = some o → CxB K s.heap Lf → gst.Goes (model prog w) Ag (Ranc Lf) (Yanc K Lf ls) (ls.length - i) (.send .none) s
end
section
variable {K : Frag} {prog : Program} {w : World} {A : Around} {hp : Heap} {gs₀ : Array GenState} {dr : Drawn} {tk₀ : Nat} {os : OsState} {E : Value → Shared → Prop} {Q : Value → Shared → Prop} {g₀ g : Heap} {L : Addr} {m : Str → Option Value} {mu : Mut}
theorem anc_ok (KK : KF K) {R : Result → Shared → Prop} {p : Str} {t : Tok} {ls : List Str} (C : Cx K hp) (O : Ok A 2) (ha : Anc (Txt.rstripChars p "/") ls) (hl : p.length ≤ 4096)
    (h : ∀ Lf ga o og h' tk, Keep hp h' → hp.get? Lf = none → hp.get? ga = none → Lf ≠ ga → h'.get? Lf = some o → h'.get? ga = some og → IsGenO gs₀.size og → (∀ Ag, Ok Ag 12 → AncSt K prog w Ag Lf ls 0 o (.fresh (ancFunc Lf))) → R (.ok (.ret (.ref ga))) ⟨h', gs₀.push (.fresh (ancFunc Lf)), dr, tk, os⟩) :
    codeAny (model prog w) A (.call (.ref 169) ⟨[.str p t], []⟩) R ⟨hp, gs₀, dr, tk₀, os⟩ := by
  obtain ⟨od, doc, pm, osl, ho, hcd⟩ := KK.ancestry
  refine codeAny_call_generator (fd := fnX (nameOf (stmtAt 25)) "_ancestry" (argsOf (stmtAt 25)) (bodyOf (stmtAt 25)) (scopeOf (stmtAt 25)) [] .none .none doc pm none (.ref 168) .none) (body := bodyOf (stmtAt 25)) O.room (C.kin _ _ ho) rfl rfl rfl rfl (codeRec_of C.kin hcd) ?_
  rw [show bindArgs (fnX (nameOf (stmtAt 25)) "_ancestry" (argsOf (stmtAt 25)) (bodyOf (stmtAt 25)) (scopeOf (stmtAt 25)) [] .none .none doc pm none (.ref 168) .none) ⟨[.str p t], []⟩ = pure [(("path" : Str), Value.str p t)] from rfl]
  refine wpAny_pure (wpAny_newFunctionEnv (show ∀ x ∈ (scopeOf (stmtAt 25)).names, x.2 ≠ .cell by decide) (by intro y hy; simp only [List.mem_singleton] at hy; subst hy; rfl) (fun h₁ hns hsb => ?_))
  have lim : hp.NoLimit := C.noLimit
  refine ⟨lim.fresh _ hsb, ?_⟩
  obtain ⟨o, es, ep, e₁, hrest⟩ := id hns
  have k₁ : Keep hp h₁ := fun b o e => hsb.extBut b o (Nat.ne_of_lt (Heap.lt_size e)) (Heap.get?_push_of_some _ e)
  refine h hp.objs.size h₁.objs.size o _ _ _ (k₁.push _) (Heap.get?_none_of_le (Nat.le_refl _)) ?_ ?_ (Heap.get?_push_of_some _ e₁) (Heap.get?_push_size _ rfl) ⟨_, _, rfl, rfl, rfl⟩ ?_
  · cases e : hp.get? h₁.objs.size with
    | none => rfl
    | some o' => exact absurd (Heap.lt_size (k₁ _ _ e)) (Nat.lt_irrefl _)
  · exact Nat.ne_of_lt (Heap.lt_size e₁)
  · intro Ag OA s hs hC
    exact ⟨rfl, anc_start KK OA ha hl hs ⟨o, es, ep, hs, hrest⟩ rfl hC⟩
theorem anc_c (KK : KF K) (S : Sx g₀ g L m mu hp) (C : Cx K g₀) (O : Ok A 2) {p : Str} {t : Tok} {ls : List Str} (ha : Anc (Txt.rstripChars p "/") ls) (hl : p.length ≤ 4096)
    (h : ∀ Lf ga o h' tk, (∀ Ag, Ok Ag 12 → AncSt K prog w Ag Lf ls 0 o (.fresh (ancFunc Lf))) → Sx g₀ g L m ((Lf, (· = o)) :: (ga, IsGenO gs₀.size) :: mu) h' → Q (.ref ga) ⟨h', gs₀.push (.fresh (ancFunc Lf)), dr, tk, os⟩) :
    wpAny (model prog w) A (call (.ref 169) [.str p t]) Q E ⟨hp, gs₀, dr, tk₀, os⟩ := by
  refine wpAny_call (anc_ok KK (C.keeps S.old) O ha hl fun Lf ga o og h' tk k n1 n2 hne e1 e2 e3 hA => h Lf ga o h' tk hA ?_)
  have S₁ := S.adopt (P := IsGenO gs₀.size) k n2 e2 e3
  refine ⟨S₁.base, S₁.ns, ?_, S₁.keep, S₁.gL, ?_, ?_, ?_⟩
  · intro q hq
    cases hq with
    | head => exact ⟨o, e1, rfl⟩
    | tail _ hq => exact S₁.get q hq
  · intro q hq
    cases hq with
    | head =>
      show g.get? Lf = none
      cases e : g.get? Lf with
      | none => rfl
      | some o' => rw [S.keep _ _ e] at n1; cases n1
    | tail _ hq => exact S₁.gm q hq
  · intro q hq
    cases hq with
    | head =>
      intro e
      have e : Lf = L := e
      obtain ⟨ol, _, _, e', _⟩ := S.ns
      rw [← e, n1] at e'; cases e'
    | tail _ hq => exact S₁.nL q hq
  · refine .cons ?_ S₁.nd
    intro b hb
    simp only [List.map_cons, List.mem_cons] at hb
    rcases hb with rfl | hb
    · exact hne
    · obtain ⟨q, hq, rfl⟩ := List.mem_map.mp hb
      intro e
      obtain ⟨o', e', _⟩ := S.get q hq
      have e : Lf = q.1 := e
      rw [← e, n1] at e'; cases e'
end

/-! the generator drawn -/
section
variable {K : Frag} {prog : Program} {w : World} {A : Around} {hp : Heap} {gs : Array GenState} {dr : Drawn} {tk₀ : Nat} {os : OsState} {E : Value → Shared → Prop} {g₀ g : Heap} {L Lf ga : Addr} {m : Str → Option Value} {mu : Mut} {ls : List Str} {gn : Nat}
theorem ext_turn {g₀ g h h' : Heap} {L C : Addr} {m : Str → Option Value} {mu : Mut} {P P' : Obj → Prop} {o' : Obj} (S : Sx g₀ g L m ((C, P) :: mu) h) (hs : Heap.ExtBut C h h') (e : h'.get? C = some o') (q : P' o') : Sx g₀ g L m ((C, P') :: mu) h' where
  base := S.base
  ns := let ⟨o, es, ep, e, r⟩ := S.ns; ⟨o, es, ep, hs _ _ (Ne.symm (S.nL _ (.head _))) e, r⟩
  get := fun p hp => by
    cases hp with
    | head => exact ⟨o', e, q⟩
    | tail _ hp => obtain ⟨o, e, r⟩ := S.get p (.tail _ hp); exact ⟨o, hs _ _ (Ne.symm ((List.pairwise_cons.mp S.nd).1 _ (List.mem_map_of_mem hp))) e, r⟩
  keep := fun b o e => hs b _ (fun q => by have := S.gm _ (.head _); rw [q] at e; rw [e] at this; cases this) (S.keep b o e)
  gL := S.gL
  gm := fun p hp => by
    cases hp with
    | head => exact S.gm (C, P) (.head _)
    | tail _ hp => exact S.gm p (.tail _ hp)
  nL := fun p hp => by
    cases hp with
    | head => exact S.nL (C, P) (.head _)
    | tail _ hp => exact S.nL p (.tail _ hp)
  nd := S.nd
theorem cxB_of (S : Sx g₀ g L m mu hp) (C : Cx K g₀) (hL : g.get? Lf = none) : CxB K hp Lf := by
  refine C.keeps fun b o e => ?_
  have e' := S.base _ _ e
  refine hideAll_get _ (S.keep _ _ e') ?_
  intro q
  simp only [List.mem_singleton] at q
  subst q
  rw [hL] at e'; cases e'
theorem gens_at {gs : Array GenState} {gn : Nat} {a b : GenState} (h : gs[gn]? = some a) : (gs.setIfInBounds gn b)[gn]? = some b := by
  have hlt : gn < gs.size := by
    rcases Nat.lt_or_ge gn gs.size with h' | h'
    · exact h'
    · rw [Array.getElem?_eq_none h'] at h; cases h
  simp [hlt]
theorem gen_item {Q : Option Value → Shared → Prop} (O : Ok A 14) (C : Cx K g₀) {i : Nat} {o : Obj} {gst : GenState} (S : Sx g₀ g L m ((Lf, (· = o)) :: mu) hp) (hg : (ga, IsGenO gn) ∈ mu) (hgs : gs[gn]? = some gst) (hA : AncSt K prog w A.in1 Lf ls i o gst) (hi : i < ls.length)
    (h : ∀ x t h' tk o' gst', ls[i]? = some x → AncSt K prog w A.in1 Lf ls (i + 1) o' gst' → Sx g₀ g L m ((Lf, (· = o')) :: mu) h' → Q (some (.str x t)) ⟨h', gs.setIfInBounds gn gst', dr, tk, os⟩) :
    wpAny (model prog w) A (pyNext (.ref ga)) Q E ⟨hp, gs, dr, tk₀, os⟩ := by
  obtain ⟨og, eg, nm, qn, c1, c2, c3⟩ := S.get _ (.tail _ hg)
  obtain ⟨o1, e1, rfl⟩ := S.get _ (.head _)
  have hC : CxB K hp Lf := cxB_of S C (S.gm _ (.head _))
  have hgo := hA ((⟨hp, gs, dr, tk₀, os⟩ : Shared).setGen gn .running) e1 hC
  obtain ⟨k, hk0⟩ : ∃ k, ls.length - i = k + 1 := ⟨ls.length - i - 1, by omega⟩
  rw [hk0] at hgo
  refine wpAny_pyNext_gen (P := fun n s₀ s₁ => n = 0 ∧ RelG Lf s₀ s₁) (n := k + 1) O.handled ((C.keeps S.old).noLimit) (by have := O.depth; omega) ⟨og, nm, qn, eg, c1, c2, c3⟩ hgs hgo ?_ ?_
  · intro v s₁ gs' hY
    obtain ⟨x, t, rfl, hx, ⟨r1, r2, r3, r4⟩, o', e', hk⟩ := hY
    obtain ⟨h₁, gs₁, dr₁, tk₁, os₁⟩ := s₁
    dsimp only [Shared.setGen] at r2 r3 r4
    subst r2 r3 r4
    have := h x t h₁ tk₁ o' gs' (by rw [← hx]; congr 1; omega) (fun s'' e'' hC'' => by
      have := hk s'' e'' hC''
      rw [show ls.length - (i + 1) = k by omega]
      exact this) (ext_turn S r1 e' rfl)
    show Q _ ⟨h₁, (gs.setIfInBounds gn GenState.running).setIfInBounds gn gs', _, _, _⟩
    rw [Array.setIfInBounds_setIfInBounds]
    exact this
  · rintro s₁ ⟨h0, _⟩
    cases h0
theorem gen_stop {Q : Option Value → Shared → Prop} (O : Ok A 14) (C : Cx K g₀) {o : Obj} {gst : GenState} (S : Sx g₀ g L m ((Lf, (· = o)) :: mu) hp) (hg : (ga, IsGenO gn) ∈ mu) (hgs : gs[gn]? = some gst) (hA : AncSt K prog w A.in1 Lf ls ls.length o gst)
    (h : ∀ h' tk, Sx g₀ g L m mu h' → Q none ⟨h', gs.setIfInBounds gn .finished, dr, tk, os⟩) :
    wpAny (model prog w) A (pyNext (.ref ga)) Q E ⟨hp, gs, dr, tk₀, os⟩ := by
  obtain ⟨og, eg, nm, qn, c1, c2, c3⟩ := S.get _ (.tail _ hg)
  obtain ⟨o1, e1, rfl⟩ := S.get _ (.head _)
  have hC : CxB K hp Lf := cxB_of S C (S.gm _ (.head _))
  have hgo := hA ((⟨hp, gs, dr, tk₀, os⟩ : Shared).setGen gn .running) e1 hC
  rw [Nat.sub_self] at hgo
  refine wpAny_pyNext_gen (P := fun n s₀ s₁ => n = 0 ∧ RelG Lf s₀ s₁) (n := 0) O.handled ((C.keeps S.old).noLimit) (by have := O.depth; omega) ⟨og, nm, qn, eg, c1, c2, c3⟩ hgs hgo ?_ ?_
  · intro v s₁ gs' hY
    obtain ⟨x, t, rfl, hx, ⟨r1, r2, r3, r4⟩, o', e', hk⟩ := hY
    exact (hk s₁ e' (cxB_of (ext_turn S r1 e' (P' := fun _ => True) trivial) C (S.gm _ (.head _)))).elim
  · rintro s₁ ⟨_, r1, r2, r3, r4⟩ h' hk
    obtain ⟨h₁, gs₁, dr₁, tk₁, os₁⟩ := s₁
    dsimp only [Shared.setGen] at r2 r3 r4
    subst r2 r3 r4
    have := h h' tk₁ ((ext_lose S r1).grow hk)
    show Q _ ⟨h', (gs.setIfInBounds gn GenState.running).setIfInBounds gn .finished, _, _, _⟩
    rw [Array.setIfInBounds_setIfInBounds]
    exact this
theorem gen_self {Q : Value → Shared → Prop} (S : Sx g₀ g L m mu hp) (hg : (ga, IsGenO gn) ∈ mu) (h : Q (.ref ga) ⟨hp, gs, dr, tk₀, os⟩) : wpAny (model prog w) A (pyIter (.ref ga)) Q E ⟨hp, gs, dr, tk₀, os⟩ := by
  obtain ⟨og, eg, nm, qn, c1, c2, c3⟩ := S.get _ hg
  exact wpAny_pyIter_gen ⟨og, nm, qn, eg, c1, c2, c3⟩ h
end
end
section
/-! ## The class filterfalse: what K says of it -/
structure FF (K : Frag) : Prop where
  makes : makesIn K 203 = true
  init : findIn K (.ref 203) "__init__" = some (some (.ref 185))
  iter : findIn K (.ref 203) "__iter__" = some (some (.ref 192))
  next : findIn K (.ref 203) "__next__" = some (some (.ref 199))
  setattr : findIn K (.ref 203) "__setattr__" = some (some (.builtin "object.__setattr__"))
  over : plainOver K 203 = true
  tIt : takerIn K 203 "_it" = some (some (.ref 205))
  tFunc : takerIn K 203 "_func" = some (some (.ref 204))
  m5 : typeIn K (.ref 205) = some (.type "member_descriptor")
  m4 : typeIn K (.ref 204) = some (.type "member_descriptor")
  s5 : slotIn K 205 203 = some 1
  s4 : slotIn K 204 203 = some 0
  plain : ∀ n, plainGet K 203 n = true
  cls : isClsIn K 203 = true
  fIt : findIn K (.ref 203) "_it" = some (some (.ref 205))
  fFunc : findIn K (.ref 203) "_func" = some (some (.ref 204))
  g5 : specialIn K (.ref 205) "__get__" = some (some (.builtin "member_descriptor.__get__"))
  g4 : specialIn K (.ref 204) "__get__" = some (some (.builtin "member_descriptor.__get__"))
  k5 : takesIn K (.ref 205) = some true
  k4 : takesIn K (.ref 204) = some true
  noLen : findIn K (.ref 203) "__len__" = some none
  noHint : findIn K (.ref 203) "__length_hint__" = some none
  keep : keepIn K (.ref 203) = true
/-- an object of the class, its two slots told -/
def ffObj (dx : Addr) (sl : Array (Option Value)) : Obj := { instObj 203 dx with slots := sl }
section
variable {K : Frag} {prog : Program} {w : World} {A : Around} {hp : Heap} {gs₀ : Array GenState} {dr : Drawn} {tk₀ : Nat} {os : OsState} {E : Value → Shared → Prop} {x dx p : Addr} {v : Value} {sl : Array (Option Value)}
theorem ffInst (e : hp.get? x = some (ffObj dx sl)) (e' : hp.get? dx = some emptyDict) : InstAt hp x (ffObj dx sl) 203 (some emptyDict) := ⟨e, rfl, rfl, e'⟩
theorem ff_get {Q : Value → Shared → Prop} {name : Str} {expr : Bool} {i : Nat} (X : K.In hp) (F : FF K) (e : hp.get? x = some (ffObj dx sl)) (e' : hp.get? dx = some emptyDict)
    (ha : findIn K (.ref 203) name = some (some (.ref p))) (hn : specialIn K (.ref p) "__get__" = some (some (.builtin "member_descriptor.__get__"))) (ht : takesIn K (.ref p) = some true) (hp' : slotIn K p 203 = some i)
    (hv : (sl[i]?).join = some v) (hh : handedIn v = true) (h : ∀ tk, Q v ⟨hp, gs₀, dr, tk, os⟩) : wpAny (model prog w) A (getAttr (.ref x) name expr) Q E ⟨hp, gs₀, dr, tk₀, os⟩ := by
  have I := ffInst e e'
  have pg := plainGet_of (F.plain name)
  exact get_bind (s := ⟨hp, gs₀, dr, tk₀, os⟩) X I pg.1 (findObj_data F.cls ha hn ht) pg.2 (wpAny_call (slot_get (s := ⟨hp, gs₀, dr, tk₀ + 1, os⟩) X I hp' hv (handed_on hh (h _))))
open Builtin Builtin.ObjectAttr Builtin.Getset_descriptor in
theorem ff_store {R : Result → Shared → Prop} {i : Nat} (X : K.In hp) (e : hp.get? x = some (ffObj dx sl)) (e' : hp.get? dx = some emptyDict) (hs : slotIn K p 203 = some i) (hi : i < 1000)
    (h : R (.ok (.ret .none)) ⟨hp.update x (fun o => { o with slots := (o.slots ++ Array.replicate (i + 1 - o.slots.size) none).setIfInBounds i (some v) }), gs₀, dr, tk₀, os⟩) :
    codeAny (model prog w) A (.call (.builtin "member_descriptor.__set__") ⟨[.ref p, .ref x, v], []⟩) R ⟨hp, gs₀, dr, tk₀, os⟩ := by
  obtain ⟨n, tn, owner, behind, tb, d, sl', cd, ho, hc, hm, hb, rfl⟩ := slot_of X hs
  have I := ffInst e e'
  have t0 := I.type (M := model prog w)
  have t1 := looks_mroIn (M := model prog w) X hm
  have t2 : Looks (model prog w) hp (Slots.slotNamesOf (.ref 203)) cd.slotNames := (looks_clsIn X hc).andThen .now
  have t3 := looks_field (M := model prog w) ho 0 (v := .str n tn) rfl
  have t4 := looks_field (M := model prog w) ho 1 (v := owner) rfl
  have t5 := looks_field (M := model prog w) ho 3 (v := .builtin "proto.slot#set") rfl
  have t6 := looks_field (M := model prog w) ho 4 (v := .int behind tb) rfl
  have t7 : Looks (model prog w) hp (descrItself (.ref p)) [.ref p] := ((Looks.ld (part := none) ho).andThen .now).andThen (Looks.of_pure (by kernel_rfl))
  refine codeAny_call_builtin KF.slot_mset.plain KF.entry_mset (KF.slot_mset.check _ _ _ _ _ _ _ _ ⟨_, ho, rfl⟩ (KF.args_mset _ _ _) ?_)
  unfold Builtin.«member_descriptor.__set__» descrSet descrStoreThrough descrCheckInstance descrNameAndClass isInstance
  repeat lk
  refine ⟨Code.quiet_builtin _ (by decide +kernel), codeAny_builtin KF.entry_slotset ?_⟩
  unfold Builtin.«proto.slot#set» Slots.target
  repeat lk
  rw [if_neg hb]
  refine wpAny_pure (wpAny_bind ?_)
  unfold setSlotAt
  dsimp only
  rw [if_neg (by rw [sizeLine_eq]; omega)]
  exact wpAny_updatePart e (wpAny_pure h)
end
end
section
/-! ## StopIteration raised; `next` and `iter` -/
def NewStop (h h' : Heap) (e : Addr) : Prop := Keep h h' ∧ h.get? e = none ∧ ∃ oe vs a0, h'.get? e = some oe ∧ oe.cls = .type "StopIteration" ∧ oe.data = .fields vs ∧ vs[1]? = some .none ∧ vs[0]? = some a0
section
variable {prog : Program} {w : World} {A : Around} {hp : Heap} {gs₀ : Array GenState} {dr : Drawn} {tk₀ : Nat} {os : OsState} {E : Value → Shared → Prop} {a it : Addr} {vs : List Value}
theorem stop_core (hh : A.handled = none) (h : ∀ h' e, NewStop hp h' e → E (.ref e) ⟨h', gs₀, dr, tk₀, os⟩) :
    wpAny (model prog w) A (newExc (.type "StopIteration") []) (fun v s' => ∀ (α : Type) (Q : α → Shared → Prop), wpAny (model prog w) A (raiseNew v : Sem α) Q E s') E ⟨hp, gs₀, dr, tk₀, os⟩ := by
  simp only [newExc, newTuple]
  refine wpAny_bind (wpAny_newObj_type ?_ (by size_fits))
  refine wpAny_bind (m := firstArgMember _ _) (wpAny_of_eq (a := Value.none) (by first | rfl | (simp only [firstArgMember]; rfl)) ?_)
  refine wpAny_newObj_type ?_ (by size_fits)
  intro α Q
  simp only [raiseNew]
  refine wpAny_bind (wpAny_handled ?_)
  rw [hh]
  refine wpAny_bind (wpAny_pure (wpAny_throw ?_))
  refine h _ _ ⟨(Keep.rfl'.push _).push _, Heap.get?_none_of_le ?_, _, _, _, Heap.get?_push_size _ rfl, rfl, rfl, rfl, rfl⟩
  show hp.objs.size ≤ (hp.push _).objs.size
  rw [Heap.size_push]; omega
theorem raise_stop {α : Type} {Q : α → Shared → Prop} (hh : A.handled = none) (h : ∀ h' e, NewStop hp h' e → E (.ref e) ⟨h', gs₀, dr, tk₀, os⟩) :
    wpAny (model prog w) A (newExc (.type "StopIteration") [] >>= fun e => (raiseNew e : Sem α)) Q E ⟨hp, gs₀, dr, tk₀, os⟩ := wpAny_bind (wpAny_mono (stop_core hh h) (fun _ _ z => z _ _) fun _ _ z => z)
theorem raise_stop2 {α β : Type} {Q : β → Shared → Prop} {k : α → Sem β} (hh : A.handled = none) (h : ∀ h' e, NewStop hp h' e → E (.ref e) ⟨h', gs₀, dr, tk₀, os⟩) :
    wpAny (model prog w) A (newExc (.type "StopIteration") [] >>= fun e => (raiseNew e : Sem α) >>= k) Q E ⟨hp, gs₀, dr, tk₀, os⟩ := wpAny_bind (wpAny_mono (stop_core hh h) (fun _ _ z => wpAny_bind (z _ _)) fun _ _ z => z)
theorem next_b {Q : Value → Shared → Prop} {T id : String} {v : Value} (hT : (⟨hp, gs₀, dr, tk₀, os⟩ : Shared).TypeIs v T) (hl : typeLookup (.type T) "__next__" = pure (some (.builtin id)))
    (h : wpAny (model prog w) A.in1 (callSpecial? v (Str.ofString "__next__")) (fun o s' => ∃ x, o = some x ∧ Q x s') E ⟨hp, gs₀, dr, tk₀, os⟩) : wpAny (model prog w) A (call (.builtin "next") [v]) Q E ⟨hp, gs₀, dr, tk₀, os⟩ := by
  refine call_function_entry (by decide +kernel) (by decide +kernel) kdk_entry_next (kdk_args_next _) ?_
  unfold Builtin.«next»
  refine wpAny_bind (m := someArgs "next" 1 2 _) (wpAny_of_eq (a := [v]) (by first | rfl | kernel_rfl!) ?_)
  dsimp only
  refine wpAny_bind (wpAny_specialOf (name := Str.ofString "__next__") hT hl ?_)
  refine wpAny_ite_split (fun hab => absurd hab (by simp)) (fun _ => ?_)
  refine wpAny_bind (wpAny_mono h (fun o s' z => ?_) fun _ _ z => z)
  obtain ⟨x, rfl, q⟩ := z
  exact wpAny_pure ⟨_, rfl, q⟩
theorem iter_b {Q : Value → Shared → Prop} {v : Value} (h : wpAny (model prog w) A.in1 (pyIter v) Q E ⟨hp, gs₀, dr, tk₀, os⟩) : wpAny (model prog w) A (call (.builtin "iter") [v]) Q E ⟨hp, gs₀, dr, tk₀, os⟩ := by
  refine call_function_entry (by decide +kernel) (by decide +kernel) kdk_entry_iter (kdk_args_iter _) ?_
  unfold Builtin.«iter»
  refine wpAny_bind (m := someArgs "iter" 1 2 _) (wpAny_of_eq (a := [v]) (by first | rfl | kernel_rfl!) ?_)
  show wpAny _ _ (pyIter v >>= _) _ _ _
  exact wpAny_bind (wpAny_mono h (fun x s' q => wpAny_pure ⟨_, rfl, q⟩) fun _ _ z => z)
end
section
variable {prog : Program} {w : World} {A : Around} {hp : Heap} {gs₀ : Array GenState} {dr : Drawn} {tk₀ : Nat} {os : OsState} {E : Value → Shared → Prop} {g₀ g : Heap} {L a it : Addr} {m : Str → Option Value} {mu : Mut} {vs : List Value}
theorem cs_item {Q : Option Value → Shared → Prop} {i : Nat} (hi : i < vs.length) (S : Sx g₀ g L m ((it, IsLIt a i) :: mu) hp) (hl : ListIn g mu a vs) (h : ∀ v h', vs[i]? = some v → Sx g₀ g L m ((it, IsLIt a (i + 1)) :: mu) h' → Q (some v) ⟨h', gs₀, dr, tk₀, os⟩) :
    wpAny (model prog w) A (callSpecial? (.ref it) (Str.ofString "__next__")) Q E ⟨hp, gs₀, dr, tk₀, os⟩ := by
  obtain ⟨o, ho, hc, hd⟩ := S.get _ (.head _)
  obtain ⟨ol, hol, _, nl, hdl⟩ := hl.here S.drop
  have hx : vs.toArray[i]? = some vs[i] := by simp [hi]
  have hT : (⟨hp, gs₀, dr, tk₀, os⟩ : Shared).TypeIs (.ref it) "list_iterator" := ⟨o, ho, hc⟩
  refine wpAny_callSpecial?_slot (name := Str.ofString "__next__") hT slot_listiter_next (wpAny_call_entry slot_listiter_next hT entry_listiter_next ?_ (args_listiter_next _))
  show wpAny _ _ (field (.ref it) 0 >>= _) _ _ _
  refine wpAny_bind (wpAny_field ho hd (x := .ref a) rfl ?_)
  show wpAny _ _ (if (Value.ref a == Value.none) = true then _ else _) _ _ _
  rw [if_neg (show ¬ ((Value.ref a == Value.none) = true) from Bool.false_ne_true)]
  show wpAny _ _ (field (.ref it) 1 >>= _) _ _ _
  refine wpAny_bind (wpAny_field ho hd (x := .int i 0) rfl ?_)
  show wpAny _ _ (seqItems? (.ref a) >>= _) _ _ _
  refine wpAny_bind (wpAny_seqItems hol hdl ?_)
  simp only [Int.toNat_natCast, hx]
  refine wpAny_bind (wpAny_setField ho hd (by simp) (wpAny_pure ⟨vs[i], rfl, h _ _ (by simp [hi]) ?_⟩))
  exact S.upd .head (Heap.SameBut.update ..) (Heap.get?_update_self _ ho (Obj.isFreed_of_fields (Obj.data_mapFields hd _))) ⟨(Obj.cls_mapFields ..).trans hc, by rw [Obj.data_mapFields hd]; simp [rawInt]⟩
theorem cs_end {Q : Option Value → Shared → Prop} (hh : A.handled = none) (S : Sx g₀ g L m ((it, IsLIt a vs.length) :: mu) hp) (hl : ListIn g mu a vs) (h : ∀ h₁ h' e, Sx g₀ g L m mu h₁ → NewStop h₁ h' e → E (.ref e) ⟨h', gs₀, dr, tk₀, os⟩) :
    wpAny (model prog w) A (callSpecial? (.ref it) (Str.ofString "__next__")) Q E ⟨hp, gs₀, dr, tk₀, os⟩ := by
  obtain ⟨o, ho, hc, hd⟩ := S.get _ (.head _)
  obtain ⟨ol, hol, _, nl, hdl⟩ := hl.here S.drop
  have hx : vs.toArray[vs.length]? = none := by simp
  have hT : (⟨hp, gs₀, dr, tk₀, os⟩ : Shared).TypeIs (.ref it) "list_iterator" := ⟨o, ho, hc⟩
  refine wpAny_callSpecial?_slot (name := Str.ofString "__next__") hT slot_listiter_next (wpAny_call_entry slot_listiter_next hT entry_listiter_next ?_ (args_listiter_next _))
  show wpAny _ _ (field (.ref it) 0 >>= _) _ _ _
  refine wpAny_bind (wpAny_field ho hd (x := .ref a) rfl ?_)
  show wpAny _ _ (if (Value.ref a == Value.none) = true then _ else _) _ _ _
  rw [if_neg (show ¬ ((Value.ref a == Value.none) = true) from Bool.false_ne_true)]
  show wpAny _ _ (field (.ref it) 1 >>= _) _ _ _
  refine wpAny_bind (wpAny_field ho hd (x := .int (vs.length : Nat) 0) rfl ?_)
  show wpAny _ _ (seqItems? (.ref a) >>= _) _ _ _
  refine wpAny_bind (wpAny_seqItems hol hdl ?_)
  simp only [Int.toNat_natCast, hx]
  refine wpAny_bind (wpAny_rule (wpAny_bind (wpAny_setField ho hd (by simp) ?_)))
  show wpAny _ _ (newExc (.type "StopIteration") [] >>= _) _ _ _
  refine raise_stop hh fun h' e hn => h _ h' e ?_ hn
  exact S.lose (Heap.SameBut.update ..)
end
section
variable {K : Frag} {prog : Program} {w : World} {A : Around} {hp : Heap} {gs : Array GenState} {dr : Drawn} {tk₀ : Nat} {os : OsState} {E : Value → Shared → Prop} {g₀ g : Heap} {L Lf ga : Addr} {m : Str → Option Value} {mu : Mut} {ls : List Str} {gn : Nat}
theorem cs_gen_item {Q : Option Value → Shared → Prop} (O : Ok A 14) (C : Cx K g₀) {i : Nat} {o : Obj} {gst : GenState} (S : Sx g₀ g L m ((Lf, (· = o)) :: mu) hp) (hg : (ga, IsGenO gn) ∈ mu) (hgs : gs[gn]? = some gst) (hA : AncSt K prog w A.in1 Lf ls i o gst) (hi : i < ls.length)
    (h : ∀ x t h' tk o' gst', ls[i]? = some x → AncSt K prog w A.in1 Lf ls (i + 1) o' gst' → Sx g₀ g L m ((Lf, (· = o')) :: mu) h' → Q (some (.str x t)) ⟨h', gs.setIfInBounds gn gst', dr, tk, os⟩) :
    wpAny (model prog w) A (callSpecial? (.ref ga) (Str.ofString "__next__")) Q E ⟨hp, gs, dr, tk₀, os⟩ := by
  obtain ⟨og, eg, nm, qn, c1, c2, c3⟩ := S.get _ (.tail _ hg)
  obtain ⟨o1, e1, rfl⟩ := S.get _ (.head _)
  have hC : CxB K hp Lf := cxB_of S C (S.gm _ (.head _))
  have hgo := hA ((⟨hp, gs, dr, tk₀, os⟩ : Shared).setGen gn .running) e1 hC
  obtain ⟨k, hk0⟩ : ∃ k, ls.length - i = k + 1 := ⟨ls.length - i - 1, by omega⟩
  rw [hk0] at hgo
  have hgen : hp.IsGen ga gn := ⟨og, nm, qn, eg, c1, c2, c3⟩
  have hT : (⟨hp, gs, dr, tk₀, os⟩ : Shared).TypeIs (.ref ga) "generator" := ⟨og, eg, c1⟩
  refine wpAny_callSpecial?_slot (name := Str.ofString "__next__") hT slot_gen_next (wpAny_call_entry slot_gen_next hT entry_gen_next ?_ (args_gen_next _))
  show wpAny _ _ (Builtin.Generator.genWake (.ref ga) (.send .none)) _ _ _
  unfold Builtin.Generator.genWake
  refine wpAny_bind (wpAny_holding (wpAny_genNumber hgen (wpAny_bind (wpAny_genState hgs ?_))))
  cases gst with
  | running => exact hgo.elim
  | finished => exact hgo.elim
  | _ =>
    refine wpAny_bind (wpAny_roomToWake (C.keeps S.old).noLimit (by show A.depth < recursionLimit; have := O.depth; omega) ?_)
    show wpAny _ _ (.resume gn (.send .none) [] _) _ _ _
    refine wpAny_resume hgs hgo (fun x s₁ hx => ?_) (fun v s₁ gs' hv => ?_)
    · obtain ⟨_, h0, _⟩ := hx
      cases h0
    · obtain ⟨x, t, rfl, hx, ⟨r1, r2, r3, r4⟩, o', e', hk⟩ := hv
      obtain ⟨h₁, gs₁, dr₁, tk₁, os₁⟩ := s₁
      dsimp only [Shared.setGen] at r2 r3 r4
      subst r2 r3 r4
      have := h x t h₁ tk₁ o' gs' (by rw [← hx]; congr 1; omega) (fun s'' e'' hC'' => by
        have := hk s'' e'' hC''
        rw [show ls.length - (i + 1) = k by omega]
        exact this) (ext_turn S r1 e' rfl)
      refine wpAny_pure ⟨_, rfl, ?_⟩
      show Q _ ⟨h₁, (gs.setIfInBounds gn GenState.running).setIfInBounds gn gs', _, _, _⟩
      rw [Array.setIfInBounds_setIfInBounds]
      exact this
theorem cs_gen_stop {Q : Option Value → Shared → Prop} (O : Ok A 14) (C : Cx K g₀) {o : Obj} {gst : GenState} (S : Sx g₀ g L m ((Lf, (· = o)) :: mu) hp) (hg : (ga, IsGenO gn) ∈ mu) (hgs : gs[gn]? = some gst) (hA : AncSt K prog w A.in1 Lf ls ls.length o gst)
    (h : ∀ h₁ h' tk e, Sx g₀ g L m mu h₁ → NewStop h₁ h' e → E (.ref e) ⟨h', gs.setIfInBounds gn .finished, dr, tk, os⟩) :
    wpAny (model prog w) A (callSpecial? (.ref ga) (Str.ofString "__next__")) Q E ⟨hp, gs, dr, tk₀, os⟩ := by
  obtain ⟨og, eg, nm, qn, c1, c2, c3⟩ := S.get _ (.tail _ hg)
  obtain ⟨o1, e1, rfl⟩ := S.get _ (.head _)
  have hC : CxB K hp Lf := cxB_of S C (S.gm _ (.head _))
  have hgo := hA ((⟨hp, gs, dr, tk₀, os⟩ : Shared).setGen gn .running) e1 hC
  rw [Nat.sub_self] at hgo
  have hgen : hp.IsGen ga gn := ⟨og, nm, qn, eg, c1, c2, c3⟩
  have hT : (⟨hp, gs, dr, tk₀, os⟩ : Shared).TypeIs (.ref ga) "generator" := ⟨og, eg, c1⟩
  refine wpAny_callSpecial?_slot (name := Str.ofString "__next__") hT slot_gen_next (wpAny_call_entry slot_gen_next hT entry_gen_next ?_ (args_gen_next _))
  show wpAny _ _ (Builtin.Generator.genWake (.ref ga) (.send .none)) _ _ _
  unfold Builtin.Generator.genWake
  refine wpAny_bind (wpAny_holding (wpAny_genNumber hgen (wpAny_bind (wpAny_genState hgs ?_))))
  cases gst with
  | running => exact hgo.elim
  | finished => exact hgo.elim
  | _ =>
    refine wpAny_bind (wpAny_roomToWake (C.keeps S.old).noLimit (by show A.depth < recursionLimit; have := O.depth; omega) ?_)
    show wpAny _ _ (.resume gn (.send .none) [] _) _ _ _
    refine wpAny_resume hgs hgo (fun x s₁ hx => ?_) (fun v s₁ gs' hv => ?_)
    · obtain ⟨rfl, _, r1, r2, r3, r4⟩ := hx
      obtain ⟨h₁, gs₁, dr₁, tk₁, os₁⟩ := s₁
      dsimp only [Shared.setGen] at r2 r3 r4
      subst r2 r3 r4
      show wpAny _ _ (newExc (.type "StopIteration") [] >>= _) _ _ ⟨h₁, (gs.setIfInBounds gn GenState.running).setIfInBounds gn .finished, _, _, _⟩
      rw [Array.setIfInBounds_setIfInBounds]
      exact raise_stop2 (A := A.in1) O.handled fun h' e hn => h h₁ h' tk₁ e (ext_lose S r1) hn
    · obtain ⟨x, t, rfl, hx, ⟨r1, r2, r3, r4⟩, o', e', hk⟩ := hv
      exact (hk s₁ e' (cxB_of (ext_turn S r1 e' (P' := fun _ => True) trivial) C (S.gm _ (.head _)))).elim
end
end
section
/-! ## Instances of filterfalse -/
def Around.blur (A : Around) : Around := ⟨A.handled, A.depth, none, none, A.units⟩
theorem wpAny_blur {α : Type} {M : Model} {A : Around} {t : Sem α} {Q : α → Shared → Prop} {E : Value → Shared → Prop} {s : Shared} (h : wpAny M (Around.blur A) t Q E s) : wpAny M A t Q E s := fun Γ p hΓ =>
  h Γ p ⟨hΓ.1, hΓ.2.1, fun _ e => (nomatch e), fun _ e => (nomatch e), hΓ.2.2.2.2⟩
section
variable {g₀ g h h' hp : Heap} {L L' x : Addr} {m m' : Str → Option Value} {mu nu : Mut} {P P' : Obj → Prop} {o : Obj}
theorem Sx.thaw (S : Sx hp hp L m [] h) (e : hp.get? x = some o) : Sx (hideAll hp [x]) (hideAll hp [x]) L m [(x, (· = o))] h where
  base := Keep.rfl'
  ns := S.ns
  get := fun p q => by simp only [List.mem_singleton] at q; subst q; exact ⟨o, S.keep _ _ e, rfl⟩
  keep := fun b o' e' => S.keep _ _ (of_hideAll _ e')
  gL := by
    cases q : (hideAll hp [x]).get? L with
    | none => rfl
    | some o' => have := of_hideAll _ q; rw [S.gL] at this; cases this
  gm := fun p q => by simp only [List.mem_singleton] at q; subst q; exact hideAll_none _ (.head _)
  nL := fun p q => by
    simp only [List.mem_singleton] at q
    subst q
    intro q
    have q : x = L := q
    rw [q, S.gL] at e; cases e
  nd := .cons (fun _ hb => nomatch hb) .nil
theorem Sx.back (S : Sx g₀ g L m ((x, P) :: mu) hp) (T : Sx (hideAll hp [x]) (hideAll hp [x]) L' m' ((x, P') :: nu) h') : Sx g₀ g L m (nu ++ (x, P') :: mu) h' := by
  have k : ∀ b o, b ≠ x → hp.get? b = some o → h'.get? b = some o := fun b o n e => T.keep _ _ (hideAll_get _ e (by simpa using n))
  have fr : ∀ p ∈ nu, hp.get? p.1 = none := fun p hp' => by
    have n1 : x ≠ p.1 := (List.pairwise_cons.mp T.nd).1 _ (List.mem_map_of_mem hp')
    have n2 := T.gm p (.tail _ hp')
    cases q : hp.get? p.1 with
    | none => rfl
    | some o => rw [hideAll_get _ q (by simpa using Ne.symm n1)] at n2; cases n2
  have nx : ∀ p ∈ mu, p.1 ≠ x := fun p q => Ne.symm ((List.pairwise_cons.mp S.nd).1 _ (List.mem_map_of_mem q))
  refine ⟨S.base, ?_, ?_, ?_, S.gL, ?_, ?_, ?_⟩
  · obtain ⟨o, es, ep, e, r⟩ := S.ns
    exact ⟨o, es, ep, k _ _ (Ne.symm (S.nL _ (.head _))) e, r⟩
  · intro p q
    rcases List.mem_append.mp q with q | q
    · exact T.get p (.tail _ q)
    · cases q with
      | head => exact T.get _ (.head _)
      | tail _ q => obtain ⟨o, e, r⟩ := S.get p (.tail _ q); exact ⟨o, k _ _ (nx p q) e, r⟩
  · intro b o e
    have n : b ≠ x := fun q => by have := S.gm _ (.head _); rw [q] at e; rw [e] at this; cases this
    exact k b o n (S.keep _ _ e)
  · intro p q
    rcases List.mem_append.mp q with q | q
    · cases e : g.get? p.1 with
      | none => rfl
      | some o => have := S.keep _ _ e; rw [fr p q] at this; cases this
    · cases q with
      | head => exact S.gm (x, P) (.head _)
      | tail _ q => exact S.gm p (.tail _ q)
  · intro p q
    rcases List.mem_append.mp q with q | q
    · intro e
      obtain ⟨o, _, _, e', _⟩ := S.ns
      have := fr p q
      rw [e, e'] at this; cases this
    · cases q with
      | head => exact S.nL (x, P) (.head _)
      | tail _ q => exact S.nL p (.tail _ q)
  · rw [List.map_append]
    refine List.pairwise_append.mpr ⟨(List.pairwise_cons.mp T.nd).2, S.nd, ?_⟩
    intro a ha b hb
    obtain ⟨p, hp', rfl⟩ := List.mem_map.mp ha
    obtain ⟨q, hq, rfl⟩ := List.mem_map.mp hb
    intro e
    have n := fr p hp'
    cases hq with
    | head => obtain ⟨o, e', _⟩ := S.get _ (.head _); rw [e] at n; rw [e'] at n; cases n
    | tail _ hq => obtain ⟨o, e', _⟩ := S.get _ (.tail _ hq); rw [e] at n; rw [e'] at n; cases n
end
section
variable {K : Frag} {prog : Program} {w : World} {A : Around} {hp : Heap} {gs₀ : Array GenState} {dr : Drawn} {tk₀ : Nat} {os : OsState} {E : Value → Shared → Prop} {g₀ g : Heap} {L x dx p : Addr} {m : Str → Option Value} {mu mu' : Mut} {sl sl' : Array (Option Value)} {v : Value}
theorem Up.under {a : Addr} {P P' : Obj → Prop} {r r' : Mut} (u : Up a P P' r r') : ∀ {nu : Mut}, Up a P P' (nu ++ r) (nu ++ r')
  | [] => u
  | _ :: _ => .tail (Up.under u)
theorem ff_set {Q : Unit → Shared → Prop} {name : Str} {i : Nat} (F : FF K) (C : Cx K g₀) (S : Sx g₀ g L m mu hp) (u : Up x (· = ffObj dx sl) (· = ffObj dx sl') mu mu') (e' : hp.get? dx = some emptyDict)
    (ht : takerIn K 203 name = some (some (.ref p))) (hT : typeIn K (.ref p) = some (.type "member_descriptor")) (hs : slotIn K p 203 = some i) (hi : i < 1000) (hsl : (sl ++ Array.replicate (i + 1 - sl.size) none).setIfInBounds i (some v) = sl')
    (h : ∀ h' tk, Sx g₀ g L m mu' h' → Q () ⟨h', gs₀, dr, tk, os⟩) : wpAny (model prog w) A (setAttr (.ref x) name v) Q E ⟨hp, gs₀, dr, tk₀, os⟩ := by
  obtain ⟨o, e, rfl⟩ := S.get _ u.mem
  have X : K.In hp := (C.keeps S.old).kin
  have I := ffInst e e'
  refine set_plain (s := ⟨hp, gs₀, dr, tk₀, os⟩) X I F.setattr (osa_descr (s := ⟨hp, gs₀, dr, tk₀ + 1, os⟩) PySem.W.KF.slot_mset X I F.over ht hT (ff_store X e e' hs hi (h _ _ ?_)))
  refine S.upd u (Heap.SameBut.update ..) (Heap.get?_update_self _ e rfl) ?_
  show ({ instObj 203 dx with slots := _ } : Obj) = _
  rw [← hsl]; rfl
theorem ffInit_ok (KK : KF K) (F : FF K) {R : Result → Shared → Prop} {fn iterable : Value} {V : Value → Prop} {ents : Value → Mut} (C : CxB K hp x) (O : Ok A 2) (e : hp.get? x = some (ffObj dx #[])) (e' : hp.get? dx = some emptyDict)
    (hIter : ∀ {A : Around} {L : Addr} {m : Str → Option Value} {mu : Mut} {h : Heap} {tk : Nat} {E : Value → Shared → Prop} {Q : Value → Shared → Prop}, A.handled = none → Sx (hideAll hp [x]) (hideAll hp [x]) L m mu h →
      (∀ v h', V v → Sx (hideAll hp [x]) (hideAll hp [x]) L m (ents v ++ mu) h' → Q v ⟨h', gs₀, dr, tk, os⟩) → wpAny (model prog w) A (call (.builtin "iter") [iterable]) Q E ⟨h, gs₀, dr, tk, os⟩)
    (h : ∀ v L m h' tk, V v → Sx (hideAll hp [x]) (hideAll hp [x]) L m (ents v ++ [(x, (· = ffObj dx #[some fn, some v]))]) h' → R (.ok (.ret .none)) ⟨h', gs₀, dr, tk, os⟩) :
    codeAny (model prog w) A (.call (.ref 185) ⟨[.ref x, fn, iterable], []⟩) R ⟨hp, gs₀, dr, tk₀, os⟩ := by
  have hne : dx ≠ x := fun q => by rw [q, e] at e'; cases e'
  have CC : Cx K hp := Cx.keeps C fun b o q => of_hideAll _ q
  refine call_def KK.ffInit (binds := [("self", .ref x), ("function", fn), ("iterable", iterable)]) CC O.room (fun _ _ => BindsTo.of_eq rfl) (by intro y hy; simp only [List.mem_cons, List.not_mem_nil, or_false] at hy; rcases hy with rfl | rfl | rfl <;> rfl) (by decide) ?_
  intro h₁ tk₁ S₀
  have S₁ := S₀.thaw e
  have C : Cx K (hideAll hp [x]) := C
  refine wpAny_execs_cons ?_
  refine plainObj_wpAny_Assign_Attribute ?_
  walk_at "mm"
  refine hIter O.handled S₁ ?_
  intro v h₂ hv S₂
  walk_at "mm"
  have d₂ : ∀ {h : Heap} {m : Str → Option Value} {mu : Mut}, Sx (hideAll hp [x]) (hideAll hp [x]) hp.objs.size m mu h → h.get? dx = some emptyDict := fun S => S.keep _ _ (hideAll_get _ e' (by simpa using hne))
  refine ff_set F C S₂ (Up.under .head) (d₂ S₂) F.tIt F.m5 F.s5 (by decide) rfl ?_
  intro h₃ tk₃ S₃
  walk_at "mm"
  refine plainObj_wpAny_Assign_Attribute ?_
  walk_at "mm"
  refine ff_set F C S₃ (Up.under .head) (d₂ S₃) F.tFunc F.m4 F.s4 (by decide) rfl ?_
  intro h₄ tk₄ S₄
  walk_at "mm"
  exact h v _ _ _ _ hv S₄
theorem ff_make (KK : KF K) (F : FF K) {Q : Value → Shared → Prop} {fn iterable : Value} {V : Value → Prop} {ents : Value → Mut} (S : Sx g₀ g L m mu hp) (C : Cx K g₀) (O : Ok A 4)
    (hIter : ∀ {A : Around} {hh : Heap} {x : Addr} {L : Addr} {m : Str → Option Value} {mu' : Mut} {h : Heap} {tk : Nat} {E : Value → Shared → Prop} {Q : Value → Shared → Prop}, Keep hp hh → (∀ p ∈ mu, p.1 ≠ x) → hp.get? x = none → A.handled = none → Sx (hideAll hh [x]) (hideAll hh [x]) L m mu' h →
      (∀ v h', V v → Sx (hideAll hh [x]) (hideAll hh [x]) L m (ents v ++ mu') h' → Q v ⟨h', gs₀, dr, tk, os⟩) → wpAny (model prog w) A (call (.builtin "iter") [iterable]) Q E ⟨h, gs₀, dr, tk, os⟩)
    (h : ∀ v x dx h' tk, V v → Sx g₀ g L m (ents v ++ (x, (· = ffObj dx #[some fn, some v])) :: (dx, (· = emptyDict)) :: mu) h' → Q (.ref x) ⟨h', gs₀, dr, tk, os⟩) :
    wpAny (model prog w) A (call (.ref 203) [fn, iterable]) Q E ⟨hp, gs₀, dr, tk₀, os⟩ := by
  have X : K.In hp := (C.keeps S.old).kin
  obtain ⟨od, doc, pm, osl, hoI, _⟩ := KK.ffInit
  have hfI : typeIn K (.ref 185) = some (.type "function") := by show (K.lookup 185).map _ = _; rw [hoI]; rfl
  refine wpAny_call ?_
  refine make_core (makes_of X F.makes) (looks_findIn X F.init) (fun self => bind_fn X self hfI) (.inl rfl) ?_
  have S₁ := S.alloc (o := emptyDict) (P := (· = emptyDict)) rfl rfl
  have S₂ := S₁.alloc (o := instObj 203 hp.objs.size) (P := (· = ffObj hp.objs.size #[])) rfl rfl
  rw [Heap.size_push] at S₂
  have OU : Ok (A.under (Code.builtin "type.__call__" { pos := [Value.ref 203, fn, iterable] })) 2 := by
    refine ⟨O.handled, ?_, ?_⟩
    · have := depth_under_kw A 203 [fn, iterable] []
      rw [this]; have := O.depth; omega
    · have e : (A.under (Code.builtin "type.__call__" { pos := [Value.ref 203, fn, iterable] })).units = A.units + (Code.builtin "type.__call__" { pos := [Value.ref 203, fn, iterable] }).cUnits := rfl
      have e2 : (Code.builtin "type.__call__" { pos := [Value.ref 203, fn, iterable] }).cUnits ≤ 16 := by first | exact Nat.le_of_ble_eq_true rfl | exact Nat.le_of_ble_eq_true (by kernel_rfl)
      rw [e]; have := O.units; omega
  obtain ⟨o1, e1, r1⟩ := S₂.get _ (.head _)
  obtain ⟨o2, e2, r2⟩ := S₂.get _ (.tail _ (.head _))
  dsimp only at e1 e2 r1 r2
  subst r1 r2
  refine ffInit_ok KK F (V := V) (ents := ents) (dx := hp.objs.size) (cxB_of S₂ C (S₂.gm _ (.head _))) OU e1 e2 ?_ ?_
  · intro A' L' m' mu' h₁ tk E' Q' hh S' k
    exact hIter ((Keep.rfl'.push _).push _) (fun p q => S₂.nd |> fun nd => Ne.symm ((List.pairwise_cons.mp nd).1 _ (List.mem_map_of_mem (.tail _ q)))) (Heap.get?_none_of_le (Nat.le_succ _)) hh S' k
  · intro v L' m' h₁ tk hv T
    refine ⟨rfl, ?_⟩
    have T' := T.perm List.perm_append_comm
    have B := S₂.back T'
    exact h v _ _ h₁ tk hv B
end
end
section
/-! ## Sets of texts -/
def IsSS (prog : Program) (w : World) (ss : List Str) (o : Obj) : Prop := ∃ n S, o.SetObjOf (strKind prog w) S n ∧ n ≤ ss.length ∧ ∀ k, S k = decide (k ∈ ss)
section
variable {prog : Program} {w : World} {A : Around} {hp : Heap} {gs₀ : Array GenState} {dr : Drawn} {tk₀ : Nat} {os : OsState} {E : Value → Shared → Prop} {g₀ g : Heap} {L a it l : Addr} {m : Str → Option Value} {mu : Mut} {ps : List (Str × Tok)}
theorem set_loop {R : Result → Shared → Prop} (hh : A.handled = none) (hb : ps.length + 1 < scanBound) :
    ∀ (k i : Nat) (mu : Mut) (hp : Heap) (tk₀ : Nat), ps.length - i = k → i ≤ ps.length → ListIn g mu l (strValues ps) → Sx g₀ g L m ((it, IsLIt l i) :: (a, IsSS prog w ((ps.take i).map (·.1))) :: mu) hp →
      (∀ h' tk, Sx g₀ g L m ((a, IsSS prog w (ps.map (·.1))) :: mu) h' → R (.ok (.ret .none)) ⟨h', gs₀, dr, tk, os⟩) →
      codeAny (model prog w) A (.builtin "set.update.loop" ⟨[.ref a, .ref it], []⟩) R ⟨hp, gs₀, dr, tk₀, os⟩ := by
  intro k
  induction k with
  | zero =>
    intro i mu hp tk₀ hk hi hl S hR
    have hin : i = ps.length := by omega
    subst hin
    refine codeAny_builtin F.entry_set_update_loop ?_
    rw [Around.under_plainId F.plain_set_update_loop _]
    show wpAny _ A.in1 (pyNext (.ref it) >>= _) _ _ _
    have S' : Sx g₀ g L m ((it, IsLIt l (strValues ps).length) :: (a, IsSS prog w ((ps.take ps.length).map (·.1))) :: mu) hp := by rw [strValues_length]; exact S
    refine wpAny_bind ((iter_list (A := A.in1) hh).stop S' (hl.more _) fun h' tk S₂ => ?_)
    show wpAny _ A.in1 (ret Value.none) _ _ _
    rw [List.take_length] at S₂
    exact wpAny_pure (hR h' tk S₂)
  | succ k ih =>
    intro i mu hp tk₀ hk hi hl S hR
    have hlt : i < ps.length := by omega
    refine codeAny_builtin F.entry_set_update_loop ?_
    rw [Around.under_plainId F.plain_set_update_loop _]
    show wpAny _ A.in1 (pyNext (.ref it) >>= _) _ _ _
    refine wpAny_bind ((iter_list (A := A.in1) hh).next i (by rw [strValues_length]; exact hlt) S (hl.more _) fun v h' tk hv S₂ => ?_)
    obtain ⟨x, t, rfl, hx⟩ : ∃ x t, v = .str x t ∧ ps[i]? = some (x, t) := by
      simp only [strValues, List.getElem?_map, Option.map_eq_some_iff] at hv
      obtain ⟨⟨x, t⟩, e, rfl⟩ := hv
      exact ⟨x, t, rfl, e⟩
    show wpAny _ A.in1 (holding [Value.str x t] (setAdd a (.str x t)) >>= _) _ _ _
    refine wpAny_bind (wpAny_holding ?_)
    unfold setAdd
    refine wpAny_holding ?_
    refine wpAny_bind ((strKind prog w).pyHash (k := x) (strKind_is _ _ _ _) ?_)
    obtain ⟨o, e, n, Sf, hS, hn, hSf⟩ := S₂.get _ (.tail _ (.head _))
    refine wpAny_setAddHashed_of (knd := strKind prog w) (s := ⟨h', gs₀, dr, tk + 1, os⟩) (strKind_is _ _ _ _) rfl (hS.setOf e ?_) ?_ fun h₃ hsb hS₃ => ?_
    · simp only [List.length_map, List.length_take] at hn; omega
    · simp only [List.length_map, List.length_take] at hn; omega
    · obtain ⟨so', ho', hso'⟩ := hS₃.objOf
      have htake : (ps.take (i + 1)).map (·.1) = (ps.take i).map (·.1) ++ [x] := by rw [List.take_add_one, hx]; simp
      have S₄ : Sx g₀ g L m ((it, IsLIt l (i + 1)) :: (a, IsSS prog w ((ps.take (i + 1)).map (·.1))) :: mu) h₃ := by
        refine S₂.upd (.tail .head) hsb ho' ⟨_, _, hso', ?_, ?_⟩
        · rw [htake, List.length_append]
          split <;> simp only [List.length_singleton] <;> omega
        · intro k'
          rw [hSf k', htake]
          rw [Bool.eq_iff_iff]
          simp
      exact wpAny_pure ⟨plainId_quiet F.plain_set_update_loop _, ih (i + 1) mu h₃ (tk + 1) (by omega) hlt hl S₄ hR⟩
theorem set_strs {Q : Value → Shared → Prop} {ss : List Str} (hh : A.handled = none) (S : Sx g₀ g L m mu hp) (hl : SAt hp l ss) (hin : ListIn g mu l (strValues ps)) (hps : ps.map (·.1) = ss) (hb : ss.length + 1 < scanBound) (h : ∀ a h' tk, Sx g₀ g L m ((a, IsSS prog w ss) :: mu) h' → Q (.ref a) ⟨h', gs₀, dr, tk, os⟩) :
    wpAny (model prog w) A (call (.type "set") [.ref l]) Q E ⟨hp, gs₀, dr, tk₀, os⟩ := by
  obtain ⟨c, tl, hmro⟩ := F.called_set.mro
  have hmade := F.called_set.made
  have hsub := F.called_set.sub
  refine wpAny_call (codeAny_of_tree ?_)
  show wpAny _ _ (callAny (.type "set") _) _ _ _
  refine wpAny_pure ⟨Code.quiet_builtin _ (by decide +kernel), codeAny_builtin F.entry_type_call ?_⟩
  rw [Around.under_plain (weight_type_call_type "set" [.ref l] []) rfl]
  have h1 := F.called_set.notType
  have h2 := F.called_set.canCreate
  have hct := F.typeCall_set_1 (.ref l)
  repeat (any_goals (first | with_reducible assumption | wp_step))
  refine codeAny_mono (code_set_new_1 (.ref l) (s := ⟨hp, gs₀, dr, tk₀, os⟩) (E := E) (Q₁ := fun obj s₁ => ∃ led : Bool, obj = .ref hp.objs.size ∧ s₁ = ⟨hp.push { cls := .type "set", dict := none, data := .set #[] 0 (.fresh 0 0 led) }, gs₀, dr, tk₀, os⟩) fun led => ⟨led, rfl, rfl⟩) fun r s₁ hr => ?_
  rcases r with e | (obj | _ | _ | _) <;> first | exact hr | exact hr.elim | skip
  obtain ⟨led, rfl, rfl⟩ := hr
  have S₁ := S.alloc (o := { cls := .type "set", dict := none, data := .set #[] 0 (.fresh 0 0 led) }) (P := IsSS prog w []) rfl ⟨0, fun _ => false, PyProof.Rows.setObjOf_fresh (knd := strKind prog w) led, Nat.le_refl _, fun k => by simp⟩
  have hT : Shared.TypeIs ⟨hp.push { cls := .type "set", dict := none, data := .set #[] 0 (.fresh 0 0 led) }, gs₀, dr, tk₀, os⟩ (.ref hp.objs.size) "set" := ⟨_, Heap.get?_push_size _ rfl, rfl⟩
  have hli := F.called_set.init.lookup
  have hbi := F.called_set.init.bind (.ref hp.objs.size)
  repeat (any_goals (first | with_reducible assumption | wp_step))
  refine codeAny_mono (codeAny_call_builtin (R := wants (fun r s₂ => r = .none ∧ ∃ h' tk, s₂ = ⟨h', gs₀, dr, tk, os⟩ ∧ Sx g₀ g L m ((hp.objs.size, IsSS prog w ss) :: mu) h') E) F.called_set.init.plain F.entry_set_init (check_set_init_1 hT ?_)) fun r₂ s₂ hr₂ => ?_
  · obtain ⟨ps', hps', o, e, k, rfl⟩ := hl.open
    have hol' : (hp.push { cls := .type "set", dict := none, data := .set #[] 0 (.fresh 0 0 led) }).get? l = some { cls := .type "list", dict := none, data := .seq (strValues ps').toArray k, slots := #[] } := Heap.get?_push_of_some _ e
    have hl1 : (hp.push { cls := .type "set", dict := none, data := .set #[] 0 (.fresh 0 0 led) }).IsList l (strValues ps').toArray := ⟨_, hol', rfl, k, rfl⟩
    have hsls := F.sub_list_set
    have hslf := F.sub_list_frozenset
    have hne : (Value.type "list" == Value.type "dict") = false := by decide
    unfold Builtin.«set.__init__» noKeywords Builtin.Frozenset.updateFrom
    generalize hPI : pyIter = PI
    wp_walk
    subst hPI
    refine wpAny_pyIter_list hl1 ?_
    refine wpAny_bind (wpAny_runValue ?_)
    have S₂ := S₁.alloc (o := { cls := .type "list_iterator", data := .fields #[.ref l, .int 0 0] }) (P := IsLIt l 0) rfl ⟨rfl, rfl⟩
    have hlen : ps.length = ss.length := by rw [← hps, List.length_map]
    refine set_loop (A := A.in1.in1) (ps := ps) hh (by omega) ps.length 0 mu _ tk₀ (by omega) (Nat.zero_le _) hin S₂ fun h' tk S₃ => ?_
    show wpAny _ _ _ _ _ _
    refine wpAny_pure ?_
    show wpAny _ _ (ret Value.none) _ _ _
    rw [hps] at S₃
    exact wpAny_pure ⟨rfl, h', tk, rfl, S₃⟩
  · rcases r₂ with e | (r | _ | _ | _) <;> first | exact hr₂ | exact hr₂.elim | skip
    obtain ⟨rfl, h', tk, rfl, S'⟩ := hr₂
    repeat (any_goals (first | with_reducible assumption | wp_step))
    exact h _ _ _ S'
end
end
section
/-! ## The bound method of a set -/
theorem slot_mdget : Slot "method_descriptor" "__get__" "method_descriptor.__get__" :=
  .of (owner := "method_descriptor") (n := "__get__") (by rw [typeLookup_type, builtinLookup_eq_fast]; kernel_rfl) (by decide +kernel) (by decide +kernel) (by decide +kernel)
    (by first | exact .inl (by decide +kernel) | exact .inr (by decide +kernel)) (by rw [isSubtype_type]; kernel_rfl)
theorem entry_mdget : entryFor table "method_descriptor.__get__" = some Builtin.«method_descriptor.__get__» := entryFor_of_tree (by kernel_rfl)
theorem md_noset : typeLookup (.type "method_descriptor") "__set__" = pure none := by rw [typeLookup_type, builtinLookup_eq_fast]; kernel_rfl
theorem md_nodel : typeLookup (.type "method_descriptor") "__delete__" = pure none := by rw [typeLookup_type, builtinLookup_eq_fast]; kernel_rfl
theorem type_contains : typeOf (.builtin "set.__contains__") = pure (.type "method_descriptor") := by show builtinType _ = _; rw [builtinType_eq_fast]; kernel_rfl
theorem owner_contains : (".".intercalate ("set.__contains__".cutAt '.').dropLast) = "set" := by first | decide +kernel | kernel_rfl
theorem sub_contains : isSubtype (.type "set") (.type (".".intercalate ("set.__contains__".cutAt '.').dropLast)) = pure true := by rw [owner_contains]; exact sub_set_self
theorem args_mdget (a b c : Value) : argsOk "method_descriptor.__get__" ⟨[a, b, c], []⟩ := by unfold argsOk; kernel_rfl
section
variable {prog : Program} {w : World} {A : Around} {h : Heap} {g : Array GenState} {d : Drawn} {t : Nat} {os : OsState} {E : Value → Shared → Prop} {a : Addr} {od : Option Addr} {es : Array (Int × Value)} {ep : Nat} {tb : SetTable} {sl : Array (Option Value)}
theorem bm_get {R : Result → Shared → Prop} (hx : h.get? a = some ⟨.type "set", none, .set es ep tb, sl⟩) (hq : R (.ok (.ret (.ref h.objs.size))) ⟨h.push { cls := .type "builtin_function_or_method", data := .fields #[.builtin "set.__contains__", .ref a] }, g, d, t, os⟩) :
    codeAny (model prog w) A (.call (.builtin "method_descriptor.__get__") ⟨[.builtin "set.__contains__", .ref a, .type "set"], []⟩) R ⟨h, g, d, t, os⟩ := by
  have hT : (⟨h, g, d, t, os⟩ : Shared).TypeIs (.ref a) "set" := ⟨_, hx, rfl⟩
  have hT5 : (⟨h, g, d, t, os⟩ : Shared).TypeIs (.builtin "set.__contains__") "method_descriptor" := type_contains
  refine codeAny_call_builtin slot_mdget.plain entry_mdget (slot_mdget.check _ _ _ _ _ _ _ _ hT5 (args_mdget _ _ _) ?_)
  have f8 := sub_contains
  repeat (any_goals (first | assumption | wp_step))
theorem bm_entry {tk : Tok} {Q : Fin → Shared → Prop} (hx : h.get? a = some ⟨.type "set", none, .set es ep tb, sl⟩) (hq : Q (.done (.ret (.ref h.objs.size))) ⟨h.push { cls := .type "builtin_function_or_method", data := .fields #[.builtin "set.__contains__", .ref a] }, g, d, t, os⟩) :
    wpAny (model prog w) A (Builtin.«object.__getattribute__» ⟨[.ref a, .str "__contains__" tk], []⟩) Q E ⟨h, g, d, t, os⟩ := by
  have hT : (⟨h, g, d, t, os⟩ : Shared).TypeIs (.ref a) "set" := ⟨_, hx, rfl⟩
  have f4 := F.slot_set_contains.lookup
  have f5 := type_contains
  have f6 := slot_mdget.lookup
  have f7 := md_noset
  have f8 := md_nodel
  repeat (any_goals (first | assumption | wp_step))
  refine bm_get hx ?_
  repeat (any_goals (first | assumption | wp_step))
theorem bm_call {tk : Tok} {R : Result → Shared → Prop} (hx : h.get? a = some ⟨.type "set", none, .set es ep tb, sl⟩) (hq : R (.ok (.ret (.ref h.objs.size))) ⟨h.push { cls := .type "builtin_function_or_method", data := .fields #[.builtin "set.__contains__", .ref a] }, g, d, t, os⟩) :
    codeAny (model prog w) A (.call (.builtin "set.__getattribute__") ⟨[.ref a, .str "__contains__" tk], []⟩) R ⟨h, g, d, t, os⟩ :=
  codeAny_call_builtin F.slot_set_getattribute.plain F.entry_set_ga (F.slot_set_getattribute.check _ _ _ _ _ _ _ _ (show (⟨h, g, d, t, os⟩ : Shared).TypeIs (.ref a) "set" from ⟨_, hx, rfl⟩) (F.args_set_getattribute_2 _ _) (bm_entry hx hq))
theorem bm_attr {Q : Value → Shared → Prop} (hx : h.get? a = some ⟨.type "set", none, .set es ep tb, sl⟩) (hq : ∀ tk, Q (.ref h.objs.size) ⟨h.push { cls := .type "builtin_function_or_method", data := .fields #[.builtin "set.__contains__", .ref a] }, g, d, tk, os⟩) :
    wpAny (model prog w) A (getAttr (.ref a) "__contains__" true) Q E ⟨h, g, d, t, os⟩ := by
  have hT : (⟨h, g, d, t, os⟩ : Shared).TypeIs (.ref a) "set" := ⟨_, hx, rfl⟩
  have hT' : (⟨h, g, d, t + 1, os⟩ : Shared).TypeIs (.ref a) "set" := ⟨_, hx, rfl⟩
  have f2 := F.slot_set_getattribute.lookup
  have f3 := F.slot_set_getattribute.bind (.ref a)
  unfold getAttr getAttrBy
  repeat (any_goals (first | assumption | wp_step))
  refine bm_call hx ?_
  exact wpAny_of_eq (a := Value.ref h.objs.size) rfl (hq _)
end
end
section
def bmObj (a : Addr) : Obj := { cls := .type "builtin_function_or_method", data := .fields #[.builtin "set.__contains__", .ref a] }
section
variable {prog : Program} {w : World} {A : Around} {hp : Heap} {gs₀ : Array GenState} {dr : Drawn} {tk₀ : Nat} {os : OsState} {E : Value → Shared → Prop} {a b : Addr} {ss : List Str} {x : Str} {t : Tok}
theorem bm_use {Q : Value → Shared → Prop} {o : Obj} (hb : hp.get? b = some (bmObj a)) (ha : hp.get? a = some o) (hs : IsSS prog w ss o) (hn : ss.length < scanBound) (h : ∀ tk, Q (.bool (decide (x ∈ ss))) ⟨hp, gs₀, dr, tk, os⟩) :
    wpAny (model prog w) A (call (.ref b) [.str x t]) Q E ⟨hp, gs₀, dr, tk₀, os⟩ := by
  refine wpAny_call (codeAny_of_tree ?_)
  show wpAny _ _ (callAny (.ref b) _) _ _ _
  unfold callAny
  refine wpAny_bind (wpAny_load hb ?_)
  obtain ⟨n, S, hS, hle, hSk⟩ := hs
  obtain ⟨⟨c1, c2, c3⟩, es, ep, tb, hd, _⟩ := id hS
  obtain ⟨oc, od, odt, osl⟩ := o
  dsimp only at c1 c2 c3 hd
  subst c1 c2 c3 hd
  have hSet := hS.setOf (h := hp) ha (by omega)
  have hT := hSet.typeIs (s := ⟨hp, gs₀, dr, tk₀, os⟩)
  show wpAny _ _ (checkBoundCall "set.__contains__" ⟨[.ref a, .str x t], []⟩ >>= fun _ => again (.builtin "set.__contains__" ⟨[.ref a, .str x t], []⟩)) _ _ _
  refine wpAny_bind ?_
  have k1 : isSubtype (.type "set") (.type "module") = pure false := by rw [isSubtype_type]; kernel_rfl
  have k2 : isSubtype (.type "set") (.type "type") = pure false := by rw [isSubtype_type]; kernel_rfl
  unfold checkBoundCall
  repeat (any_goals (first | with_reducible assumption | wp_step))
  refine ⟨Code.quiet_builtin _ (by decide +kernel), codeAny_builtin entry_set_contains ?_⟩
  unfold Builtin.«frozenset.__contains__» Builtin.Frozenset.oneOther
  simp only [List.isEmpty_nil, bind_assoc]
  unfold Builtin.Frozenset.addrOf Builtin.Frozenset.withSetAsKey setContains
  refine wpAny_bind (wpAny_pure ?_)
  try dsimp only
  refine wpAny_bind (wpAny_pure ?_)
  try dsimp only
  refine wpAny_bind (wpAny_tryCatch ?_)
  refine wpAny_holding ?_
  refine wpAny_bind ((strKind prog w).pyHash (k := x) (strKind_is _ _ _ _) ?_)
  refine wpAny_bind (wpAny_setFind_of (knd := strKind prog w) (s := ⟨hp, gs₀, dr, tk₀ + 1, os⟩) (strKind_is _ _ _ _) rfl hSet fun r hr => ?_)
  refine wpAny_pure ?_
  show wpAny _ _ (ret (Value.bool r.isSome)) _ _ _
  rw [hr, hSk]
  exact wpAny_pure (h _)
end
end
section
section
variable {K : Frag} {prog : Program} {w : World} {A : Around} {hp : Heap} {gs₀ : Array GenState} {dr : Drawn} {tk₀ : Nat} {os : OsState} {E : Value → Shared → Prop} {Q : Value → Shared → Prop} {g₀ g : Heap} {L : Addr} {m : Str → Option Value} {mu : Mut}
theorem cw_ff (F : FF K) {M : Model} {A : Around} {E : Value → Shared → Prop} {env : Env} {pos : Pos} {Q : Value → Shared → Prop} {e : PySem.Expr} {rest : List PySem.Expr}
    (h : wpAny M A (spliced (backTo pos (starEach (e :: rest) env))) (fun vs s₁ => K.In s₁.heap ∧ wpAny M A (call (.ref 203) vs) Q E s₁) E ⟨hp, gs₀, dr, tk₀, os⟩)
    (he : starEach (e :: rest) env = (false, eval e env) :: starEach rest env := by rfl) (hplain : (backTo pos (starEach rest env)).any (·.1) = false := by rfl) :
    wpAny M A (callWith pos (.ref 203) [] (backTo pos (starEach (e :: rest) env)) []) Q E ⟨hp, gs₀, dr, tk₀, os⟩ := by
  rw [he] at h ⊢
  exact callWith_of (by show ((false || (backTo pos (starEach rest env)).any (·.1)) || false) = false; rw [hplain]; rfl) (keeps_K F.keep) (evalArgs_plain h)
def IterSrc (prog : Program) (w : World) (hp : Heap) (gs₀ : Array GenState) (dr : Drawn) (os : OsState) (src : Value) (V : Value → Prop) (ents : Value → Mut) : Prop :=
  ∀ {A : Around} {hh : Heap} {x : Addr} {L : Addr} {m : Str → Option Value} {mu' : Mut} {h : Heap} {tk : Nat} {E : Value → Shared → Prop} {Q : Value → Shared → Prop}, Keep hp hh → hp.get? x = none → A.handled = none → Sx (hideAll hh [x]) (hideAll hh [x]) L m mu' h →
      (∀ v h', V v → Sx (hideAll hh [x]) (hideAll hh [x]) L m (ents v ++ mu') h' → Q v ⟨h', gs₀, dr, tk, os⟩) → wpAny (model prog w) A (call (.builtin "iter") [src]) Q E ⟨h, gs₀, dr, tk, os⟩
theorem difference_ok (KK : KF K) (F : FF K) {R : Result → Shared → Prop} {ss : List Str} {src : Value} {sub : Addr} {V : Value → Prop} {ents : Value → Mut} (C : Cx K hp) (O : Ok A 8) (hs : SAt hp sub ss) (hz : ss.length + 1 < scanBound) (hI : IterSrc prog w hp gs₀ dr os src V ents)
    (h : ∀ v x dx b st L m h' tk, V v → Sx hp hp L m (ents v ++ [(x, (· = ffObj dx #[some (.ref b), some v])), (dx, (· = emptyDict)), (b, (· = bmObj st)), (st, IsSS prog w ss)]) h' → R (.ok (.ret (.ref x))) ⟨h', gs₀, dr, tk, os⟩) :
    codeAny (model prog w) A (.call (.ref 214) ⟨[src, .ref sub], []⟩) R ⟨hp, gs₀, dr, tk₀, os⟩ := by
  refine call_def KK.difference (binds := [("minuend", src), ("subtrahend", .ref sub)]) C O.room (fun _ _ => BindsTo.of_eq rfl) (by intro y hy; simp only [List.mem_cons, List.not_mem_nil, or_false] at hy; rcases hy with rfl | rfl <;> rfl) (by decide) ?_
  intro h₁ tk₁ S₁
  refine wpAny_execs_cons ?_
  walk_at "mm"
  refine cw_ff F ?_
  walk_at "mm"
  refine Attribute_any_ ?_
  walk_at "mm"
  obtain ⟨ps, hps, hl⟩ := hs.open
  refine set_strs (ps := ps) O.handled S₁ (hs.keeps S₁.keep) (.inl hl.isList) hps hz ?_
  intro st h₂ tk₂ S₂
  obtain ⟨o, e, hset⟩ := S₂.get _ (.head _)
  obtain ⟨n, Sf, ⟨⟨c1, c2, c3⟩, es, ep, tb, hd, _⟩, _⟩ := id hset
  obtain ⟨oc, od, odt, osl⟩ := o
  dsimp only at c1 c2 c3 hd
  subst c1 c2 c3 hd
  refine bm_attr e ?_
  intro tk₃
  have S₃ := S₂.alloc (o := bmObj st) (P := (· = bmObj st)) rfl rfl
  walk_at "mm"
  refine ff_make KK F (V := V) (ents := ents) S₃ C (by walk_at "ok") ?_ ?_
  · intro A' hh x L' m' mu' h' tk' E' Q' kk _ hx hA S' k
    refine hI (fun b o e => kk _ _ (S₃.keep _ _ e)) ?_ hA S' k
    cases q : hp.get? x with
    | none => rfl
    | some o' => have q' := (S₃.keep _ _ q).symm.trans hx; cases q'
  · intro v x dx h' tk' hv S₄
    exact h v x dx _ st _ _ h' tk' hv S₄
/-- what a callee has made comes onto the caller's ledger -/
theorem Sx.ret {g₀ g hp h' : Heap} {L L' : Addr} {m m' : Str → Option Value} {mu nu : Mut} (S : Sx g₀ g L m mu hp) (T : Sx hp hp L' m' nu h') : Sx g₀ g L m (nu ++ mu) h' := by
  refine ⟨S.base, ns_keep S.ns T.keep, ?_, S.keep.trans T.keep, S.gL, ?_, ?_, ?_⟩
  · intro p q
    rcases List.mem_append.mp q with q | q
    · exact T.get p q
    · obtain ⟨o, e, r⟩ := S.get p q; exact ⟨o, T.keep _ _ e, r⟩
  · intro p q
    rcases List.mem_append.mp q with q | q
    · cases e : g.get? p.1 with
      | none => rfl
      | some o => have := S.keep _ _ e; rw [T.gm p q] at this; cases this
    · exact S.gm p q
  · intro p q
    rcases List.mem_append.mp q with q | q
    · intro e
      obtain ⟨o, _, _, e', _⟩ := S.ns
      have := T.gm p q
      rw [e, e'] at this; cases this
    · exact S.nL p q
  · rw [List.map_append]
    refine List.pairwise_append.mpr ⟨T.nd, S.nd, ?_⟩
    intro a ha b hb
    obtain ⟨p, hp', rfl⟩ := List.mem_map.mp ha
    obtain ⟨q, hq, rfl⟩ := List.mem_map.mp hb
    intro e
    have n := T.gm p hp'
    obtain ⟨o, e', _⟩ := S.get _ hq
    rw [e] at n; rw [e'] at n; cases n
theorem difference_c (KK : KF K) (F : FF K) (S : Sx g₀ g L m mu hp) (C : Cx K g₀) (O : Ok A 8) {ss : List Str} {src : Value} {sub : Addr} {V : Value → Prop} {ents : Value → Mut} (hs : SAt hp sub ss) (hz : ss.length + 1 < scanBound) (hI : IterSrc prog w hp gs₀ dr os src V ents)
    (h : ∀ v x dx b st h' tk, V v → Sx g₀ g L m ((ents v ++ [(x, (· = ffObj dx #[some (.ref b), some v])), (dx, (· = emptyDict)), (b, (· = bmObj st)), (st, IsSS prog w ss)]) ++ mu) h' → Q (.ref x) ⟨h', gs₀, dr, tk, os⟩) :
    wpAny (model prog w) A (call (.ref 214) [src, .ref sub]) Q E ⟨hp, gs₀, dr, tk₀, os⟩ := wpAny_call (difference_ok KK F (C.keeps S.old) O hs hz hI fun v x dx b st _ _ h' tk hv T => h v x dx b st h' tk hv (S.ret T))
end
end
section
section
variable {prog : Program} {w : World} {hp : Heap} {gs₀ : Array GenState} {dr : Drawn} {os : OsState} {a ga : Addr} {vs : List Value} {gn : Nat}
theorem src_list (hl : LAt hp a vs) : IterSrc prog w hp gs₀ dr os (.ref a) (fun v => ∃ it, v = .ref it) (fun v => match v with | .ref it => [(it, IsLIt a 0)] | _ => []) := by
  intro A hh x L m mu' h tk E Q k hx hA S hQ
  have hne : a ≠ x := fun q => by obtain ⟨o, e, _⟩ := hl; rw [q, hx] at e; cases e
  have hl' : LAt (hideAll hh [x]) a vs := let ⟨o, e, p⟩ := hl; ⟨o, hideAll_get _ (k _ _ e) (by simpa using hne), p⟩
  exact iter_b (iter_of_list S (.inl hl'.isList) fun it h' S' => hQ _ h' ⟨it, rfl⟩ S')
theorem src_gen {og : Obj} (e : hp.get? ga = some og) (hg : IsGenO gn og) : IterSrc prog w hp gs₀ dr os (.ref ga) (fun v => v = .ref ga) (fun _ => []) := by
  intro A hh x L m mu' h tk E Q k hx hA S hQ
  have hne : ga ≠ x := fun q => by rw [q, hx] at e; cases e
  obtain ⟨nm, qn, c1, c2, c3⟩ := hg
  have e' := S.keep _ _ (hideAll_get _ (k _ _ e) (show ga ∉ [x] by simpa using hne))
  exact iter_b (wpAny_pyIter_gen ⟨og, nm, qn, e', c1, c2, c3⟩ (hQ _ h rfl S))
end
end
section
section
variable {K : Frag} {prog : Program} {w : World} {A : Around} {hp : Heap} {gs₀ : Array GenState} {dr : Drawn} {tk₀ : Nat} {os : OsState} {g₀ g : Heap} {L : Addr} {m : Str → Option Value} {mu : Mut}
/-- a call whose caller's frame and ledger stay in sight -/
theorem call_in {f c : Addr} {qual : Str} {st : Stmt} (FI : FnIs K f c qual st) {R : Result → Shared → Prop} {args : Args} {binds : List (Str × Value)} (S : Sx g₀ g L m mu hp) (C : Cx K g₀) (hroom : A.depth < recursionLimit)
    (hbind : ∀ doc pm, BindsTo ⟨hp, gs₀, dr, tk₀, os⟩ (fnX (nameOf st) qual (argsOf st) (bodyOf st) (scopeOf st) [] .none .none doc pm none (.ref c) .none) args binds) (hloc : ∀ y ∈ binds, (scopeOf st).names.lookup y.1 = some .local)
    (hcell : ∀ x ∈ (scopeOf st).names, x.2 ≠ .cell)
    (h : ∀ Lc h₁ tk₁, hp.get? Lc = none → Keep hp h₁ → Sx g₀ g Lc (fun y => binds.reverse.lookup y) ((L, IsNs m) :: mu) h₁ →
      wpAny (model prog w) (A.deeper (envX qual (scopeOf st) Lc f (.ref c) [])) (execs (bodyOf st) (envX qual (scopeOf st) Lc f (.ref c) []))
        (fun fl s' => R (.ok (.ret (match fl with | .ret v => v | _ => .none))) s')
        (fun e s' => wpAny (model prog w) (A.deeper (envX qual (scopeOf st) Lc f (.ref c) [])) (leaving (envX qual (scopeOf st) Lc f (.ref c) []) e) (fun _ s'' => R (.error e) s'') (fun e' s'' => R (.error e') s'') s')
        ⟨h₁, gs₀, dr, tk₁, os⟩)
    (hco : (scopeOf st).isCoroutine = false := by rfl) (hgen : (scopeOf st).isGenerator = false := by rfl) (hk : (scopeOf st).kind = .function := by rfl) :
    codeAny (model prog w) A (.call (.ref f) args) R ⟨hp, gs₀, dr, tk₀, os⟩ := by
  refine call_def FI (C.keeps S.old) hroom hbind hloc hcell (fun h₁ tk₁ S₀ => ?_) hco hgen hk
  obtain ⟨o, es, ep, e, r⟩ := S₀.ns
  have hn : hp.get? hp.objs.size = none := Heap.get?_none_of_le (Nat.le_refl _)
  exact h hp.objs.size h₁ tk₁ hn S₀.keep (S.adopt (P := IsNs _) S₀.keep hn e ⟨es, ep, r⟩).front
end
end
section
/-! ## A StopIteration leaves the frame at the front -/
section
variable {prog : Program} {w : World} {A : Around} {hp h : Heap} {gs₀ : Array GenState} {dr : Drawn} {tk₀ : Nat} {os : OsState} {E : Value → Shared → Prop} {g₀ g : Heap} {L e : Addr} {m : Str → Option Value} {mu : Mut} {env : Env} {outer : List Env}
/-- the frames that are running: all are on the ledger -/
def Fms (L : Addr) (mu : Mut) (l : List Env) : Prop := ∀ env ∈ l, env.scope.kind ≠ .module ∧ ∃ Lx, env.frame = some Lx ∧ (Lx = L ∨ ∃ m, (Lx, IsNs m) ∈ mu)
theorem Fms.fun {base : Heap} (S : Sx g₀ g L m mu h) {l : List Env} (hf : Fms L mu l) (hb : ∀ env ∈ l, ∀ Lx, env.frame = some Lx → base.get? Lx = none) : h.FunFrames base l := by
  induction l with
  | nil => trivial
  | cons env l ih =>
    obtain ⟨hk, Lx, hfr, hor⟩ := hf env (.head _)
    refine ⟨hk, ⟨Lx, ?_⟩, ih (fun e he => hf e (.tail _ he)) fun e he => hb e (.tail _ he)⟩
    rcases hor with rfl | ⟨m', hm⟩
    · obtain ⟨o, es, ep, ho, hd, _⟩ := S.ns
      exact ⟨o, hfr, hb env (.head _) _ hfr, ho, fun vs q => by rw [hd] at q; cases q⟩
    · obtain ⟨o, ho, es, ep, hd, _⟩ := S.get _ hm
      exact ⟨o, hfr, hb env (.head _) _ hfr, ho, fun vs q => by rw [hd] at q; cases q⟩
theorem nd_same {mu : Mut} (nd : (mu.map (·.1)).Pairwise (· ≠ ·)) {p q : Addr × (Obj → Prop)} (hp : p ∈ mu) (hq : q ∈ mu) (e : p.1 = q.1) : p = q := by
  induction mu with
  | nil => cases hp
  | cons r mu ih =>
    obtain ⟨n1, n2⟩ := List.pairwise_cons.mp nd
    cases hp with
    | head => cases hq with
      | head => rfl
      | tail _ hq => exact absurd e (n1 _ (List.mem_map_of_mem hq))
    | tail _ hp => cases hq with
      | head => exact absurd e.symm (n1 _ (List.mem_map_of_mem hp))
      | tail _ hq => exact ih n2 hp hq
theorem leave_stop {Q : Unit → Shared → Prop} (S : Sx g₀ g L m mu h) (hfr : A.frames = some (env :: outer)) (hfL : env.frame = some L) (hF : Fms L mu (env :: outer)) (hn : NewStop h hp e)
    (hQ : ∀ h', Sx g₀ g L m mu h' → (∃ oe, h'.get? e = some oe ∧ oe.cls = .type "StopIteration") → Q () ⟨h', gs₀, dr, tk₀, os⟩) : wpAny (model prog w) A (leaving env (.ref e)) Q E ⟨hp, gs₀, dr, tk₀, os⟩ := by
  obtain ⟨kh, he0, oe, vs, a0, he, hc, hd, h1, h0⟩ := hn
  have hb : ∀ en ∈ env :: outer, ∀ Lx, en.frame = some Lx → (hideAll h ((env :: outer).filterMap (·.frame))).get? Lx = none := fun en hen Lx hx => hideAll_none _ (List.mem_filterMap.mpr ⟨en, hen, hx⟩)
  have S' := S.grow kh
  refine wpAny_leaving_firstW (base := hideAll h ((env :: outer).filterMap (·.frame))) (s := ⟨hp, gs₀, dr, tk₀, os⟩) hfr (hF.fun S' hb) hfL he (fun b o q => kh _ _ (of_hideAll _ q)) ?_ hd h1 h0 fun h' hL => ?_
  · cases q : (hideAll h ((env :: outer).filterMap (·.frame))).get? e with
    | none => rfl
    | some o => have := of_hideAll _ q; rw [he0] at this; cases this
  obtain ⟨k1, _, k3, k4⟩ := hL
  have fr : ∀ Lx, Lx ∈ (env :: outer).filterMap (·.frame) → Lx = L ∨ ∃ m', (Lx, IsNs m') ∈ mu := fun Lx hx => by
    obtain ⟨en, hen, e1⟩ := List.mem_filterMap.mp hx
    obtain ⟨_, Ly, e2, hor⟩ := hF en hen
    rw [e1] at e2; cases e2; exact hor
  refine hQ h' ⟨S.base, Heap.UpToSlots.ns k4 S'.ns, ?_, ?_, S.gL, S.gm, S.nL, S.nd⟩ ?_
  · intro p q
    by_cases hm : p.1 ∈ (env :: outer).filterMap (·.frame)
    · rcases fr p.1 hm with e1 | ⟨m', hm'⟩
      · exact absurd e1 (S.nL p q)
      · have hp' : p = (p.1, IsNs m') := nd_same S.nd q hm' rfl
        obtain ⟨o, e1, r⟩ := S'.get _ hm'
        obtain ⟨es, ep, d1, d2⟩ := r
        obtain ⟨sl, e2⟩ := k4 _ o e1 fun vs q => by rw [d1] at q; cases q
        rw [hp']
        exact ⟨_, e2, es, ep, d1, d2⟩
    · obtain ⟨o, e1, r⟩ := S.get p q
      exact ⟨o, k1 _ _ (hideAll_get _ e1 hm), r⟩
  · intro b o q
    refine k1 _ _ (hideAll_get _ (S.keep _ _ q) fun hm => ?_)
    rcases fr b hm with rfl | ⟨m', hm'⟩
    · rw [S.gL] at q; cases q
    · have := S.gm _ hm'; rw [q] at this; cases this
  · obtain ⟨oe', _, _, _, _, e1, ⟨e2, _⟩, _⟩ := k3
    exact ⟨oe', e1, e2.trans hc⟩
end
end
section
/-! ## The StopIteration passes a loop of the frame, then leaves it -/
def HeldX (h₀ h : Heap) (e L : Addr) : Prop := h₀.get? e = none ∧ ∃ oe vs T oT ts, h.get? e = some oe ∧ oe.cls = .type "StopIteration" ∧ oe.data = .fields vs ∧ vs[1]? = some (.ref T) ∧ h.get? T = some oT ∧ oT.data = .fields ts ∧ ts[3]? = some (rawInt L) ∧ h₀.get? T = none ∧ T ≠ e
section
variable {prog : Program} {w : World} {A : Around} {hp h : Heap} {gs₀ : Array GenState} {dr : Drawn} {tk₀ : Nat} {os : OsState} {E : Value → Shared → Prop} {g₀ g : Heap} {L e : Addr} {m : Str → Option Value} {mu : Mut} {env : Env} {outer : List Env}
theorem note_again {Q : Unit → Shared → Prop} (H : HeldX h hp e L) (hfL : env.frame = some L) (hQ : Q () ⟨hp, gs₀, dr, tk₀, os⟩) : wpAny (model prog w) A (noteFrame (.ref e) env) Q E ⟨hp, gs₀, dr, tk₀, os⟩ := by
  obtain ⟨_, oe, vs, T, oT, ts, he, hc, hd, h1, hT, hdT, h3, _⟩ := H
  unfold noteFrame
  simp only [hfL]
  refine wpAny_bind (wpAny_field he hd h1 ?_)
  rw [if_pos (show (Value.ref T != Value.none) = true from by simp)]
  refine wpAny_bind (wpAny_field hT hdT h3 ?_)
  rw [if_pos (show (rawInt L == rawInt L) = true from by simp)]
  exact wpAny_pure hQ
theorem keep_frames {h h' : Heap} {fs : List Addr} (S : Sx g₀ g L m mu h) (kh : Keep h hp) (fr : ∀ Lx, Lx ∈ fs → Lx = L ∨ ∃ m', (Lx, IsNs m') ∈ mu) (k1 : (hideAll h fs).StaysIn h') (k4 : hp.UpToSlots h') : Sx g₀ g L m mu h' := by
  have S' := S.grow kh
  refine ⟨S.base, Heap.UpToSlots.ns k4 S'.ns, ?_, ?_, S.gL, S.gm, S.nL, S.nd⟩
  · intro p q
    by_cases hm : p.1 ∈ fs
    · rcases fr p.1 hm with e1 | ⟨m', hm'⟩
      · exact absurd e1 (S.nL p q)
      · have hp' : p = (p.1, IsNs m') := nd_same S.nd q hm' rfl
        obtain ⟨o, e1, es, ep, d1, d2⟩ := S'.get _ hm'
        obtain ⟨sl, e2⟩ := k4 _ o e1 fun vs q => by rw [d1] at q; cases q
        rw [hp']
        exact ⟨_, e2, es, ep, d1, d2⟩
    · obtain ⟨o, e1, r⟩ := S.get p q
      exact ⟨o, k1 _ _ (hideAll_get _ e1 hm), r⟩
  · intro b o q
    refine k1 _ _ (hideAll_get _ (S.keep _ _ q) fun hm => ?_)
    rcases fr b hm with rfl | ⟨m', hm'⟩
    · rw [S.gL] at q; cases q
    · have := S.gm _ hm'; rw [q] at this; cases this
theorem note_stop {Q : Unit → Shared → Prop} (S : Sx g₀ g L m mu h) (hfr : A.frames = some (env :: outer)) (hfL : env.frame = some L) (hF : Fms L mu (env :: outer)) (hn : NewStop h hp e)
    (hQ : ∀ h', Sx g₀ g L m mu h' → HeldX h h' e L → Q () ⟨h', gs₀, dr, tk₀, os⟩) : wpAny (model prog w) A (noteFrame (.ref e) env) Q E ⟨hp, gs₀, dr, tk₀, os⟩ := by
  obtain ⟨kh, he0, oe, vs, a0, he, hc, hd, h1, h0⟩ := hn
  have hb : ∀ en ∈ env :: outer, ∀ Lx, en.frame = some Lx → (hideAll h ((env :: outer).filterMap (·.frame))).get? Lx = none := fun en hen Lx hx => hideAll_none _ (List.mem_filterMap.mpr ⟨en, hen, hx⟩)
  have S' := S.grow kh
  unfold noteFrame
  simp only [hfL]
  refine wpAny_bind (wpAny_field he hd h1 ?_)
  rw [if_neg (by decide)]
  refine wpAny_entryW (base := hideAll h ((env :: outer).filterMap (·.frame))) (s := ⟨hp, gs₀, dr, tk₀, os⟩) hfr (hF.fun S' hb) hfL he (fun b o q => kh _ _ (of_hideAll _ q)) ?_ hd (Array.getElem?_eq_some_iff.mp h1).1 h0 fun h' hL => ?_
  · cases q : (hideAll h ((env :: outer).filterMap (·.frame))).get? e with
    | none => rfl
    | some o => have := of_hideAll _ q; rw [he0] at this; cases this
  obtain ⟨k1, _, k3, k4⟩ := hL
  have fr : ∀ Lx, Lx ∈ (env :: outer).filterMap (·.frame) → Lx = L ∨ ∃ m', (Lx, IsNs m') ∈ mu := fun Lx hx => by
    obtain ⟨en, hen, e1⟩ := List.mem_filterMap.mp hx
    obtain ⟨_, Ly, e2, hor⟩ := hF en hen
    rw [e1] at e2; cases e2; exact hor
  obtain ⟨oe', vs', T, oT, ts, x1, ⟨x2, _⟩, x3, x4, x5, x6, x7, x8, x9⟩ := k3
  refine hQ h' (keep_frames S kh fr k1 k4) ⟨he0, oe', vs', T, oT, ts, x1, x2.trans hc, x3, x4, x7, x8, x9, ?_, x6⟩
  cases q : h.get? T with
  | none => rfl
  | some o =>
    by_cases hm : T ∈ (env :: outer).filterMap (·.frame)
    · have hns : ∃ o es ep, hp.get? T = some o ∧ o.data = .dict es ep := by
        rcases fr T hm with rfl | ⟨m', hm'⟩
        · obtain ⟨o, es, ep, a, b, _⟩ := S'.ns; exact ⟨o, es, ep, a, b⟩
        · obtain ⟨o, a, es, ep, b, _⟩ := S'.get _ hm'; exact ⟨o, es, ep, a, b⟩
      obtain ⟨o', es, ep, a, b⟩ := hns
      obtain ⟨sl, c⟩ := k4 _ o' a fun vs q => by rw [b] at q; cases q
      rw [x7] at c; cases c
      rw [b] at x8; cases x8
    · rw [hideAll_get _ q hm] at x5; cases x5
theorem same_new {h' : Heap} {T : Addr} (S : Sx g₀ g L m mu h) (S' : Sx g₀ g L m mu hp) (hT : h.get? T = none) (hs : Heap.SameBut T hp h') : Sx g₀ g L m mu h' := by
  have nT : ∀ b o, h.get? b = some o → b ≠ T := fun b o e q => by rw [q, hT] at e; cases e
  refine ⟨S.base, ?_, ?_, ?_, S.gL, S.gm, S.nL, S.nd⟩
  · obtain ⟨o, es, ep, e, r⟩ := S'.ns
    obtain ⟨o2, _, _, e2, _⟩ := S.ns
    exact ⟨o, es, ep, (hs.2 _ (nT _ _ e2)).trans e, r⟩
  · intro p q
    obtain ⟨o, e, r⟩ := S'.get p q
    obtain ⟨o2, e2, _⟩ := S.get p q
    exact ⟨o, (hs.2 _ (nT _ _ e2)).trans e, r⟩
  · intro b o q
    exact (hs.2 _ (nT _ _ (S.keep _ _ q))).trans (S'.keep _ _ q)
theorem came_back {E : Value → Shared → Prop} (S : Sx g₀ g L m mu h) (S' : Sx g₀ g L m mu hp) (H : HeldX h hp e L) (hfL : env.frame = some L)
    (hE : ∀ h', Sx g₀ g L m mu h' → HeldX h h' e L → E (.ref e) ⟨h', gs₀, dr, tk₀, os⟩) : cameBackBy (model prog w) A env E (.ref e) ⟨hp, gs₀, dr, tk₀, os⟩ := by
  obtain ⟨he0, oe, vs, T, oT, ts, he, hc, hd, h1, hT, hdT, h3, hT0, hTe⟩ := H
  have hlt : 3 < ts.size := (Array.getElem?_eq_some_iff.mp h3).1
  unfold cameBackBy
  refine wpAny_bind (wpAny_field he hd h1 ?_)
  rw [if_neg (show ¬ ((Value.ref T == Value.none) = true) from Bool.false_ne_true)]
  unfold setFlight
  refine wpAny_bind (wpAny_field he hd h1 ?_)
  rw [if_pos (show (Value.ref T != Value.none) = true from by simp)]
  rw [hfL]
  refine wpAny_setField hT hdT hlt (hE _ (same_new S S' hT0 (Heap.SameBut.update ..)) ?_)
  refine ⟨he0, oe, vs, T, _, _, (Heap.get?_update_other _ _ hTe).trans he, hc, hd, h1, Heap.get?_update_self _ hT (Obj.isFreed_of_fields (Obj.data_mapFields hdT _)), Obj.data_mapFields hdT _, ?_, hT0, hTe⟩
  simp [hlt]
theorem leave_held {Q : Unit → Shared → Prop} (S : Sx g₀ g L m mu h) (S' : Sx g₀ g L m mu hp) (H : HeldX h hp e L) (hfL : env.frame = some L)
    (hQ : ∀ h', Sx g₀ g L m mu h' → (∃ oe, h'.get? e = some oe ∧ oe.cls = .type "StopIteration") → Q () ⟨h', gs₀, dr, tk₀, os⟩) : wpAny (model prog w) A (leaving env (.ref e)) Q E ⟨hp, gs₀, dr, tk₀, os⟩ := by
  unfold leaving
  refine wpAny_bind (note_again H hfL ?_)
  obtain ⟨he0, oe, vs, T, oT, ts, he, hc, hd, h1, hT, hdT, h3, hT0, hTe⟩ := H
  have hlt : 3 < ts.size := (Array.getElem?_eq_some_iff.mp h3).1
  unfold setFlight
  refine wpAny_bind (wpAny_field he hd h1 ?_)
  rw [if_pos (show (Value.ref T != Value.none) = true from by simp)]
  exact wpAny_setField hT hdT hlt (hQ _ (same_new S S' hT0 (Heap.SameBut.update ..)) ⟨oe, (Heap.get?_update_other _ _ hTe).trans he, hc⟩)
end
end
section
/-! ## filterfalse.__next__ -/
theorem cw_bm0 {u a : Addr} {prog : Program} {w : World} {A : Around} {E : Value → Shared → Prop} {s : Shared} {pos : Pos} {Q : Value → Shared → Prop} {args : List (Bool × Sem Value)} (hplain : args.any (·.1) = false)
    (h : wpAny (model prog w) A (evalArgs (.ref u) true args []) (fun x s₁ => s₁.heap.get? u = some (bmObj a) ∧ wpAny (model prog w) A (call (.ref u) ([] ++ x.pos) x.kw) Q E s₁) E s) :
    wpAny (model prog w) A (callWith pos (.ref u) [] args []) Q E s := by
  unfold callWith
  refine wpAny_bind (wpAny_holding (wpAny_mono h (fun x s₁ h₁ => wpAny_bind (wpAny_standAt ?_)) fun _ _ x => x))
  obtain ⟨ho, hcall⟩ := h₁
  simp only [hplain, List.any_nil, Bool.or_false]
  refine wpAny_bind (m := keeperOf (.ref u)) ?_
  unfold keeperOf
  refine wpAny_bind (wpAny_load ho ?_)
  simp only [bmObj, show (Value.type "builtin_function_or_method" != Value.type "method") = true by decide, show (Value.type "builtin_function_or_method" == Value.type "builtin_function_or_method" || Value.type "builtin_function_or_method" == Value.type "method-wrapper") = true by decide, if_true]
  refine wpAny_pure ?_
  exact wpAny_bind (wpAny_mono hcall (fun r s₂ hr => wpAny_bind (wpAny_holding (wpAny_point (wpAny_pure hr)))) fun _ _ x => x)
theorem cw_bm {u a : Addr} {prog : Program} {w : World} {A : Around} {E : Value → Shared → Prop} {s : Shared} {env : Env} {pos : Pos} {Q : Value → Shared → Prop} {e : PySem.Expr} {rest : List PySem.Expr}
    (h : wpAny (model prog w) A (spliced (backTo pos (starEach (e :: rest) env))) (fun vs s₁ => s₁.heap.get? u = some (bmObj a) ∧ wpAny (model prog w) A (call (.ref u) vs) Q E s₁) E s)
    (he : starEach (e :: rest) env = (false, eval e env) :: starEach rest env := by rfl) (hplain : (backTo pos (starEach rest env)).any (·.1) = false := by rfl) :
    wpAny (model prog w) A (callWith pos (.ref u) [] (backTo pos (starEach (e :: rest) env)) []) Q E s := by
  rw [he] at h ⊢
  refine cw_bm0 (a := a) (by show (false || (backTo pos (starEach rest env)).any (·.1)) = false; rw [hplain]; rfl) ?_
  exact evalArgs_plain h

/-- an iterator of texts, drawn by its `__next__` at the Around `A` -/
structure Draw (K : Frag) (prog : Program) (w : World) (A : Around) (v : Value) (Here : Heap → Mut → Prop) (n : Nat) (item : Nat → Str) (St : Nat → Addr × (Obj → Prop) → Array GenState → Prop) (End : Array GenState → Prop) : Prop where
  typ : ∀ {g₀ g : Heap} {L : Addr} {m : Str → Option Value} {mu : Mut} {hp : Heap} {gs : Array GenState} {dr : Drawn} {tk : Nat} {os : OsState} (i : Nat) (p : Addr × (Obj → Prop)), St i p gs → Sx g₀ g L m (p :: mu) hp → Here g mu →
    ∃ T id, (⟨hp, gs, dr, tk, os⟩ : Shared).TypeIs v T ∧ typeLookup (.type T) "__next__" = pure (some (.builtin id))
  next : ∀ {g₀ g : Heap} {L : Addr} {m : Str → Option Value} {mu : Mut} {hp : Heap} {gs : Array GenState} {dr : Drawn} {tk : Nat} {os : OsState} {E : Value → Shared → Prop} {Q : Option Value → Shared → Prop} (i : Nat) (p : Addr × (Obj → Prop)), i < n → St i p gs → Cx K g₀ → Sx g₀ g L m (p :: mu) hp → Here g mu →
    (∀ t h' tk' p' gs', St (i + 1) p' gs' → Sx g₀ g L m (p' :: mu) h' → Q (some (.str (item i) t)) ⟨h', gs', dr, tk', os⟩) → wpAny (model prog w) A (callSpecial? v (Str.ofString "__next__")) Q E ⟨hp, gs, dr, tk, os⟩
  stop : ∀ {g₀ g : Heap} {L : Addr} {m : Str → Option Value} {mu : Mut} {hp : Heap} {gs : Array GenState} {dr : Drawn} {tk : Nat} {os : OsState} {E : Value → Shared → Prop} {Q : Option Value → Shared → Prop} (p : Addr × (Obj → Prop)), St n p gs → Cx K g₀ → Sx g₀ g L m (p :: mu) hp → Here g mu →
    (∀ h₁ h' tk' e gs', End gs' → Sx g₀ g L m mu h₁ → NewStop h₁ h' e → E (.ref e) ⟨h', gs', dr, tk', os⟩) → wpAny (model prog w) A (callSpecial? v (Str.ofString "__next__")) Q E ⟨hp, gs, dr, tk, os⟩
  more : ∀ {g : Heap} {mu : Mut} (p : Addr × (Obj → Prop)), Here g mu → Here g (p :: mu)
def ffWhile : Stmt := ((bodyOf (methAt 28 3))[1]?).getD (.Pass default)
section
variable {K : Frag} {prog : Program} {w : World} {A : Around} {hp : Heap} {gs₀ : Array GenState} {dr : Drawn} {tk₀ : Nat} {os : OsState} {g₀ g : Heap} {L x dx b st : Addr} {m : Str → Option Value} {mu : Mut} {v : Value} {outer : List Env}
  {Here : Heap → Mut → Prop} {n : Nat} {item : Nat → Str} {St : Nat → Addr × (Obj → Prop) → Array GenState → Prop} {End : Array GenState → Prop} {ss : List Str}
/-- what the filterfalse object is, on the ledger -/
structure FfIs (prog : Program) (w : World) (x dx b st : Addr) (v : Value) (ss : List Str) (mu : Mut) : Prop where
  x : (x, (· = ffObj dx #[some (.ref b), some v])) ∈ mu
  dx : (dx, (· = emptyDict)) ∈ mu
  b : (b, (· = bmObj st)) ∈ mu
  st : (st, IsSS prog w ss) ∈ mu
theorem FfIs.more (F : FfIs prog w x dx b st v ss mu) (p : Addr × (Obj → Prop)) : FfIs prog w x dx b st v ss (p :: mu) := ⟨.tail _ F.x, .tail _ F.dx, .tail _ F.b, .tail _ F.st⟩
abbrev nextEnv (L : Addr) : Env := envX "filterfalse.__next__" (scopeOf (methAt 28 3)) L 199 (.ref 198) []
theorem ffNext_ok (KK : KF K) (F : FF K) {R : Result → Shared → Prop} {p : Addr × (Obj → Prop)} (i : Nat) (S : Sx g₀ g L m (p :: mu) hp) (C : Cx K g₀) (O : Ok A 20)
    (D : ∀ Lc, Draw K prog w (Around.blur ((A.deeper (nextEnv Lc)).in1)) v Here n item St End) (hfr : A.frames = some outer) (hF : Fms L mu outer) (hss : ss.length < scanBound)
    (hx : FfIs prog w x dx b st v ss mu) (hH : Here g mu) (hv : handedIn v = true) (hSt : St i p gs₀) (hi : i ≤ n)
    (got : ∀ j h' tk' t p' gs', i ≤ j → j < n → item j ∉ ss → (∀ k, i ≤ k → k < j → item k ∈ ss) → St (j + 1) p' gs' → Sx g₀ g L m (p' :: mu) h' → R (.ok (.ret (.str (item j) t))) ⟨h', gs', dr, tk', os⟩)
    (out : ∀ e h' tk' gs', (∀ k, i ≤ k → k < n → item k ∈ ss) → End gs' → Sx g₀ g L m mu h' → (∃ oe, h'.get? e = some oe ∧ oe.cls = .type "StopIteration") → R (.error (.ref e)) ⟨h', gs', dr, tk', os⟩) :
    codeAny (model prog w) A (.call (.ref 199) ⟨[.ref x], []⟩) R ⟨hp, gs₀, dr, tk₀, os⟩ := by
  refine call_in KK.ffNext (binds := [("self", .ref x)]) S C O.room (fun _ _ => BindsTo.of_eq rfl) (by intro y hy; simp only [List.mem_singleton] at hy; subst hy; rfl) (by decide) ?_
  intro Lc h₁ tk₁ hL kh S₁
  refine wpAny_execs_cons ?_
  walk_at "mm"
  refine Attribute_Name_ ?_
  walk_at "mm"
  have e1 : h₁.get? x = some (ffObj dx #[some (.ref b), some v]) := by obtain ⟨o, e, r⟩ := S₁.get _ (.tail _ (.tail _ hx.x)); cases r; exact e
  have e2 : h₁.get? dx = some emptyDict := by obtain ⟨o, e, r⟩ := S₁.get _ (.tail _ (.tail _ hx.dx)); cases r; exact e
  refine ff_get (C.keeps S₁.old).kin F e1 e2 F.fFunc F.g4 F.k4 F.s4 rfl rfl ?_
  intro tk₂
  walk_at "mm"
  rename Sx _ _ _ _ _ _ => S₂
  refine wpAny_While (codeAny_whileLoop (fun k s' => ∃ j p' h' gs' tk' m', k = n + 1 - j ∧ i ≤ j ∧ j ≤ n ∧ s' = ⟨h', gs', dr, tk', os⟩ ∧ (∀ k, i ≤ k → k < j → item k ∈ ss) ∧ St j p' gs' ∧ m' "func" = some (.ref b) ∧ m' "self" = some (.ref x) ∧ Sx g₀ g Lc m' ((L, IsNs m) :: p' :: mu) h')
    ?_ (n + 1 - i) ⟨i, p, _, _, _, _, rfl, Nat.le_refl _, hi, rfl, fun k h1 h2 => absurd h2 (by omega), hSt, by walk_at "lk", by walk_at "lk", S₂⟩)
  rintro _ _ ⟨j, p', h', gs', tk', m', rfl, hij, hjn, rfl, hall, hSt', hm1, hm2, S₃⟩
  refine isTrue_plain ?_
  walk_at "mm"
  refine Attribute_Name_ ?_
  walk_at "mm"
  have e3 : h'.get? x = some (ffObj dx #[some (.ref b), some v]) := by obtain ⟨o, e, r⟩ := S₃.get _ (.tail _ (.tail _ hx.x)); cases r; exact e
  have e4 : h'.get? dx = some emptyDict := by obtain ⟨o, e, r⟩ := S₃.get _ (.tail _ (.tail _ hx.dx)); cases r; exact e
  refine ff_get (C.keeps S₃.old).kin F e3 e4 F.fIt F.g5 F.k5 F.s5 rfl hv ?_
  intro tk₃
  walk_at "mm"
  have S₃' := S₃.swap
  obtain ⟨T, id, hT, hl⟩ := (D Lc).typ (dr := dr) (tk := tk₃) (os := os) j p' hSt' S₃' ((D Lc).more _ hH)
  refine next_b hT hl (wpAny_blur ?_)
  by_cases hlt : j < n
  · refine (D Lc).next j p' hlt hSt' C S₃' ((D Lc).more _ hH) ?_
    intro t h₄ tk₄ p₄ gs₄ hSt₄ S₄
    refine ⟨_, rfl, ?_⟩
    walk_at "mm"
    refine wpAny_Constant_none ?_
    refine wpAny_is_other (by rfl) (by simp) ?_
    walk_at "mm"
    refine wpAny_is_other (by rfl) (by simp) ?_
    walk_at "mm"
    refine cw_bm (a := st) ?_
    walk_at "mm"
    rename Sx _ _ _ _ _ _ => S₅
    obtain ⟨o5, e5, r5⟩ := S₅.get _ (.tail _ (.tail _ hx.b))
    cases r5
    refine ⟨e5, ?_⟩
    obtain ⟨o6, e6, r6⟩ := S₅.get _ (.tail _ (.tail _ hx.st))
    refine bm_use e5 e6 r6 hss ?_
    intro tk₆
    walk_at "mm"
    by_cases hin : item j ∈ ss
    · refine ite_neg (by simp [hin]) ?_
      walk_at "mm"
      refine ⟨n + 1 - (j + 1), by omega, j + 1, p₄, _, _, _, _, rfl, by omega, hlt, rfl, ?_, hSt₄, by walk_at "lk", by walk_at "lk", S₅.swap⟩
      intro k h1 h2
      by_cases hk : k = j
      · rw [hk]; exact hin
      · exact hall k h1 (by omega)
    · refine ite_pos (by simp [hin]) ?_
      walk_at "mm"
      exact got j _ _ t p₄ gs₄ hij hlt hin hall hSt₄ S₅.swap.front.drop
  · have hjn' : j = n := by omega
    subst hjn'
    refine (D Lc).stop p' hSt' C S₃' ((D Lc).more _ hH) ?_
    intro h₄ h₅ tk₅ e gs₅ hEnd S₄ hn
    have hfr' : (A.deeper (nextEnv Lc)).frames = some (nextEnv Lc :: outer) := by show A.frames.map _ = _; rw [hfr]; rfl
    have hF' : Fms Lc ((L, IsNs m) :: mu) (nextEnv Lc :: outer) := by
      intro en hen
      cases hen with
      | head => exact ⟨by show (scopeOf (methAt 28 3)).kind ≠ _; decide, Lc, rfl, .inl rfl⟩
      | tail _ hen =>
        obtain ⟨a1, Lx, a2, a3⟩ := hF en hen
        refine ⟨a1, Lx, a2, .inr ?_⟩
        rcases a3 with rfl | ⟨mx, a3⟩
        · exact ⟨m, .head _⟩
        · exact ⟨mx, .tail _ a3⟩
    refine note_stop S₄ hfr' rfl hF' hn ?_
    intro h₆ S₆ H₆
    refine came_back S₄ S₆ H₆ rfl ?_
    intro h₇ S₇ H₇
    refine leave_held S₄ S₇ H₇ rfl ?_
    intro h₈ S₈ hcl
    exact out e h₈ _ gs₅ hall hEnd S₈.front.drop hcl
end
end
section
/-! ## Iterators of texts, drawn by pyNext; the loops over them -/
structure Pull (K : Frag) (prog : Program) (w : World) (A : Around) (it : Addr) (Cond : Heap → Addr → Mut → Prop) (T : List Str → Addr × (Obj → Prop) → Array GenState → Prop) (End : Array GenState → Prop) : Prop where
  next : ∀ {g₀ g : Heap} {L : Addr} {m : Str → Option Value} {mu : Mut} {hp : Heap} {gs : Array GenState} {dr : Drawn} {tk : Nat} {os : OsState} {E : Value → Shared → Prop} {Q : Option Value → Shared → Prop} {y : Str} {todo : List Str} {p : Addr × (Obj → Prop)}, T (y :: todo) p gs → Cx K g₀ → Sx g₀ g L m (p :: mu) hp → Cond g L mu →
    (∀ t h' tk' p' gs', T todo p' gs' → Sx g₀ g L m (p' :: mu) h' → Q (some (.str y t)) ⟨h', gs', dr, tk', os⟩) → wpAny (model prog w) A (pyNext (.ref it)) Q E ⟨hp, gs, dr, tk, os⟩
  stop : ∀ {g₀ g : Heap} {L : Addr} {m : Str → Option Value} {mu : Mut} {hp : Heap} {gs : Array GenState} {dr : Drawn} {tk : Nat} {os : OsState} {E : Value → Shared → Prop} {Q : Option Value → Shared → Prop} {p : Addr × (Obj → Prop)}, T [] p gs → Cx K g₀ → Sx g₀ g L m (p :: mu) hp → Cond g L mu →
    (∀ h' tk' gs', End gs' → Sx g₀ g L m mu h' → Q none ⟨h', gs', dr, tk', os⟩) → wpAny (model prog w) A (pyNext (.ref it)) Q E ⟨hp, gs, dr, tk, os⟩
  more : ∀ {g : Heap} {L : Addr} {mu : Mut} (p : Addr × (Obj → Prop)), Cond g L mu → Cond g L (p :: mu)
theorem fms_more {L : Addr} {mu : Mut} {l : List Env} (h : Fms L mu l) (p : Addr × (Obj → Prop)) : Fms L (p :: mu) l := fun env he => let ⟨a, Lx, b, c⟩ := h env he; ⟨a, Lx, b, c.imp id fun ⟨m, d⟩ => ⟨m, .tail _ d⟩⟩
theorem sub_stop_self : isSubtype (.type "StopIteration") (.type "StopIteration") = pure true := by rw [isSubtype_type]; kernel_rfl
section
variable {K : Frag} {prog : Program} {w : World} {A : Around} {x dx b st : Addr} {v : Value} {outer : List Env} {Here : Heap → Mut → Prop} {St : Nat → Addr × (Obj → Prop) → Array GenState → Prop} {End : Array GenState → Prop} {ss ls : List Str}
theorem drop_cons {ls : List Str} {j : Nat} (h : j < ls.length) : ls.drop j = ls[j] :: ls.drop (j + 1) := List.drop_eq_getElem_cons h
theorem todo_got {ls ss : List Str} {j : Nat} (hj : j < ls.length) : ∀ (k i : Nat), j - i = k → i ≤ j → (ls.getD j "") ∉ ss → (∀ k, i ≤ k → k < j → ls.getD k "" ∈ ss) → (ls.drop i).filter (fun y => decide (y ∉ ss)) = ls.getD j "" :: (ls.drop (j + 1)).filter (fun y => decide (y ∉ ss)) := by
  intro k
  induction k with
  | zero =>
    intro i hk hi hn _
    have e : i = j := by omega
    subst e
    rw [drop_cons hj]
    have e2 : ls.getD i "" = ls[i] := by simp [List.getD_eq_getElem?_getD, hj]
    rw [e2] at hn ⊢
    rw [List.filter_cons_of_pos (by simpa using hn)]
  | succ k ih =>
    intro i hk hi hn hall
    have hi' : i < ls.length := by omega
    rw [drop_cons hi']
    have e2 : ls.getD i "" = ls[i] := by simp [List.getD_eq_getElem?_getD, hi']
    have := hall i (Nat.le_refl _) (by omega)
    rw [e2] at this
    rw [List.filter_cons_of_neg (by simp [this])]
    exact ih (i + 1) (by omega) (by omega) hn fun k h1 h2 => hall k (by omega) h2
theorem todo_out {ls ss : List Str} : ∀ (k i : Nat), ls.length - i = k → (∀ k, i ≤ k → k < ls.length → ls.getD k "" ∈ ss) → (ls.drop i).filter (fun y => decide (y ∉ ss)) = [] := by
  intro k
  induction k with
  | zero => intro i hk _; rw [List.drop_eq_nil_of_le (by omega)]; rfl
  | succ k ih =>
    intro i hk hall
    have hi' : i < ls.length := by omega
    rw [drop_cons hi']
    have e2 : ls.getD i "" = ls[i] := by simp [List.getD_eq_getElem?_getD, hi']
    have := hall i (Nat.le_refl _) hi'
    rw [e2] at this
    rw [List.filter_cons_of_neg (by simp [this])]
    exact ih (i + 1) (by omega) fun k h1 h2 => hall k (by omega) h2
/-- what must hold of the ledger while a filterfalse is drawn -/
structure FfCond (prog : Program) (w : World) (x dx b st : Addr) (v : Value) (ss : List Str) (outer : List Env) (Here : Heap → Mut → Prop) (g : Heap) (L : Addr) (mu : Mut) : Prop where
  is : FfIs prog w x dx b st v ss mu
  fms : Fms L mu outer
  here : Here g mu
def FfT (ls ss : List Str) (St : Nat → Addr × (Obj → Prop) → Array GenState → Prop) (todo : List Str) (p : Addr × (Obj → Prop)) (gs : Array GenState) : Prop := ∃ i, i ≤ ls.length ∧ St i p gs ∧ todo = (ls.drop i).filter (fun y => decide (y ∉ ss))
theorem inst_next (KK : KF K) {hp : Heap} {gs : Array GenState} {dr : Drawn} {tk : Nat} {os : OsState} {E : Value → Shared → Prop} {Q : Option Value → Shared → Prop} {sl : Array (Option Value)} (F : FF K) (X : K.In hp) (e : hp.get? x = some (ffObj dx sl)) (e' : hp.get? dx = some emptyDict)
    (h : codeAny (model prog w) A (.call (.ref 199) ⟨[.ref x], []⟩) (fun r s' => match r with | .ok (.ret v) => Q (some v) s' | .ok _ => False | .error e => (∃ oe, (∃ a, e = .ref a ∧ s'.heap.get? a = some oe) ∧ oe.cls = .type "StopIteration") ∧ Q none s') ⟨hp, gs, dr, tk, os⟩) :
    wpAny (model prog w) A (pyNext (.ref x)) Q E ⟨hp, gs, dr, tk, os⟩ := by
  obtain ⟨od, doc, pm, osl, hoI, _⟩ := KK.ffNext
  have hfI : typeIn K (.ref 199) = some (.type "function") := by show (K.lookup 199).map _ = _; rw [hoI]; rfl
  unfold pyNext
  refine wpAny_bind (wpAny_attempt (special_fn (s := ⟨hp, gs, dr, tk, os⟩) X (ffInst e e') F.next hfI (wpAny_call ?_)))
  refine codeAny_mono h fun r s' hr => ?_
  cases r with
  | error e =>
    obtain ⟨⟨oe, ⟨a, rfl, ha⟩, hc⟩, hq⟩ := hr
    refine wpAny_bind (wpAny_isInstance (T := "StopIteration") (b := true) ⟨oe, ha, hc⟩ sub_stop_self ?_)
    exact wpAny_pure hq
  | ok f =>
    cases f with
    | ret v => exact wpAny_pure hr
    | _ => exact hr.elim
theorem pull_ff (KK : KF K) (F : FF K) (O : Ok A 20) (D : Draw K prog w (Around.blur ((A.deeper (nextEnv 0)).in1)) v Here ls.length (fun i => ls.getD i "") St End) (hfr : A.frames = some outer) (hss : ss.length < scanBound) (hv : handedIn v = true) :
    Pull K prog w A x (FfCond prog w x dx b st v ss outer Here) (FfT ls ss St) End where
  next := by
    intro g₀ g L m mu hp gs dr tk os E Q y todo p hT C S hC hQ
    obtain ⟨i, hi, hSt, hty⟩ := hT
    obtain ⟨o1, e1, r1⟩ := S.get _ (.tail _ hC.is.x)
    obtain ⟨o2, e2, r2⟩ := S.get _ (.tail _ hC.is.dx)
    cases r1; cases r2
    refine inst_next KK F (C.keeps S.old).kin e1 e2 ?_
    refine ffNext_ok KK F i S C O (fun Lc => D) hfr (hC.fms) hss hC.is hC.here hv hSt hi ?_ ?_
    · intro j h' tk' t p' gs' h1 h2 h3 h4 h5 S'
      have := todo_got h2 (j - i) i rfl h1 h3 h4
      rw [this] at hty
      obtain ⟨rfl, rfl⟩ := List.cons.inj hty
      exact hQ t h' tk' p' gs' ⟨j + 1, h2, h5, rfl⟩ S'
    · intro e h' tk' gs' h1 _ _ _
      rw [todo_out _ i rfl h1] at hty
      cases hty
  stop := by
    intro g₀ g L m mu hp gs dr tk os E Q p hT C S hC hQ
    obtain ⟨i, hi, hSt, hty⟩ := hT
    obtain ⟨o1, e1, r1⟩ := S.get _ (.tail _ hC.is.x)
    obtain ⟨o2, e2, r2⟩ := S.get _ (.tail _ hC.is.dx)
    cases r1; cases r2
    refine inst_next KK F (C.keeps S.old).kin e1 e2 ?_
    refine ffNext_ok KK F i S C O (fun Lc => D) hfr (hC.fms) hss hC.is hC.here hv hSt hi ?_ ?_
    · intro j h' tk' t p' gs' h1 h2 h3 h4 h5 S'
      have := todo_got h2 (j - i) i rfl h1 h3 h4
      rw [this] at hty
      cases hty
    · intro e h' tk' gs' h1 hE S' hcl
      obtain ⟨oe, a1, a2⟩ := hcl
      exact ⟨⟨oe, ⟨e, rfl, a1⟩, a2⟩, hQ h' tk' gs' hE S'⟩
  more := fun p h => ⟨h.is.more p, fms_more h.fms p, D.more p h.here⟩
end
end
section
/-! ## list(..) of an iterator of texts -/
section
variable {K : Frag} {prog : Program} {w : World} {A : Around} {hp : Heap} {gs₀ : Array GenState} {dr : Drawn} {tk₀ : Nat} {os : OsState} {E : Value → Shared → Prop} {g₀ g : Heap} {L x dx a it : Addr} {m : Str → Option Value} {mu : Mut} {sl : Array (Option Value)}
  {Cond : Heap → Addr → Mut → Prop} {T : List Str → Addr × (Obj → Prop) → Array GenState → Prop} {End : Array GenState → Prop}
theorem ffIter_ok (KK : KF K) {R : Result → Shared → Prop} (S : Sx g₀ g L m mu hp) (C : Cx K g₀) (O : Ok A 2) (h : ∀ h' tk', Sx g₀ g L m mu h' → R (.ok (.ret (.ref x))) ⟨h', gs₀, dr, tk', os⟩) :
    codeAny (model prog w) A (.call (.ref 192) ⟨[.ref x], []⟩) R ⟨hp, gs₀, dr, tk₀, os⟩ := by
  refine call_in KK.ffIter (binds := [("self", .ref x)]) S C O.room (fun _ _ => BindsTo.of_eq rfl) (by intro y hy; simp only [List.mem_singleton] at hy; subst hy; rfl) (by decide) ?_
  intro Lc h₁ tk₁ hL kh S₁
  refine wpAny_execs_cons ?_
  walk_at "mm"
  exact h _ _ S₁.front.drop
theorem ff_pyIter (KK : KF K) (F : FF K) {Q : Value → Shared → Prop} (S : Sx g₀ g L m mu hp) (C : Cx K g₀) (O : Ok A 2) (hx : (x, (· = ffObj dx sl)) ∈ mu) (hdx : (dx, (· = emptyDict)) ∈ mu)
    (h : ∀ h' tk', Sx g₀ g L m mu h' → Q (.ref x) ⟨h', gs₀, dr, tk', os⟩) : wpAny (model prog w) A (pyIter (.ref x)) Q E ⟨hp, gs₀, dr, tk₀, os⟩ := by
  obtain ⟨od, doc, pm, osl, hoI, _⟩ := KK.ffIter
  have hfI : typeIn K (.ref 192) = some (.type "function") := by show (K.lookup 192).map _ = _; rw [hoI]; rfl
  obtain ⟨o1, e1, r1⟩ := S.get _ hx
  obtain ⟨o2, e2, r2⟩ := S.get _ hdx
  cases r1; cases r2
  have X : K.In hp := (C.keeps S.old).kin
  have I := ffInst e1 e2
  unfold pyIter
  refine wpAny_bind (wpAny_bind (I.type.here ((looks_findIn X F.iter).here ?_)))
  show wpAny _ _ (callSpecialIfBoundUnlessNone? (.ref x) "__iter__" _ >>= _) _ _ _
  refine wpAny_bind ?_
  simp only [callSpecialIfBoundUnlessNone?, bindSpecialIfBound?]
  refine wpAny_holding (wpAny_bind (wpAny_bind (wpAny_bind (I.type.here ((looks_findIn X F.iter).here ?_)))))
  dsimp only
  refine wpAny_bind (wpAny_askSetting (wpAny_ite ?_))
  have fin : ∀ Q', (∀ h' tk', Sx g₀ g L m mu h' → Q' (some (.ref x)) ⟨h', gs₀, dr, tk', os⟩) → ∀ refuse, wpAny (model prog w) A (if (Value.ref 192 == Value.none) = true then (refuse >>= fun v => pure (some v)) else (call (.ref 192) [.ref x] >>= fun v => pure (some v))) Q' E ⟨hp, gs₀, dr, tk₀, os⟩ := by
    intro Q' hQ' refuse
    rw [if_neg (show ¬ ((Value.ref 192 == Value.none) = true) from Bool.false_ne_true)]
    exact wpAny_bind (wpAny_call (ffIter_ok KK S C O fun h' tk' S' => wpAny_pure (hQ' h' tk' S')))
  have tail : ∀ h' tk', Sx g₀ g L m mu h' → wpAny (model prog w) A (specialOf (.ref x) "__next__" >>= fun o => match o with
      | none => (do rule "iter.non-iterator"; raiseError "TypeError" s!"iter() returned non-iterator of type '{← typeNameOf (.ref x)}'" : Sem Value)
      | some _ => pure (.ref x)) Q E ⟨h', gs₀, dr, tk', os⟩ := by
    intro h' tk' S'
    obtain ⟨o1, e1, r1⟩ := S'.get _ hx
    obtain ⟨o2, e2, r2⟩ := S'.get _ hdx
    cases r1; cases r2
    have X' : K.In h' := (C.keeps S'.old).kin
    have I' := ffInst e1 e2
    refine wpAny_bind (wpAny_bind (I'.type.here ((looks_findIn X' F.next).here ?_)))
    exact wpAny_pure (h h' tk' S')
  split
  · refine wpAny_bind ((bind_fn X (.ref x) hfI).here (wpAny_pure ?_))
    exact fin _ (fun h' tk' S' => tail h' tk' S') _
  · refine wpAny_tryCatch (wpAny_bind ((bind_fn X (.ref x) hfI).here (wpAny_pure ?_)))
    exact fin _ (fun h' tk' S' => tail h' tk' S') _
end
section
variable {K : Frag} {prog : Program} {w : World} {A : Around} {hp : Heap} {gs₀ : Array GenState} {dr : Drawn} {tk₀ : Nat} {os : OsState} {E : Value → Shared → Prop} {g₀ g : Heap} {L x dx a it : Addr} {m : Str → Option Value} {mu : Mut} {sl : Array (Option Value)}
  {Cond : Heap → Addr → Mut → Prop} {T : List Str → Addr × (Obj → Prop) → Array GenState → Prop} {End : Array GenState → Prop}
theorem upd_push {hp : Heap} {mu mu' : Mut} {ss : List Str} {y : Str} {t : Tok} {Q : Unit → Shared → Prop} (S : Sx g₀ g L m mu hp) (u : Up a (IsS ss) (IsS (ss ++ [y])) mu mu') (hn : ss.length ≤ sizeLine) (h : ∀ h', Sx g₀ g L m mu' h' → Q () ⟨h', gs₀, dr, tk₀, os⟩) :
    wpAny (model prog w) A (updateSeq a (·.push (.str y t))) Q E ⟨hp, gs₀, dr, tk₀, os⟩ := by
  obtain ⟨o, e, l, rfl, n, rfl⟩ := S.get _ u.mem
  rw [List.length_map] at hn
  refine wpAny_updateSeq e rfl (h _ (S.upd u (Heap.SameBut.update ..) (Heap.get?_update_self _ e rfl) ⟨l ++ [(y, t)], by simp, ?_⟩)) (by rw [List.size_toArray, strValues_length]; exact hn) (by rw [Array.size_push, List.size_toArray, strValues_length]; omega)
  rw [strValues_append]
  exact mapSeq_is (by simp)
theorem extend_loop (P : Pull K prog w A.in1 it Cond T End) {R : Result → Shared → Prop} {res : Value} (C : Cx K g₀) :
    ∀ (todo acc : List Str) (p : Addr × (Obj → Prop)) (gs : Array GenState) (hp : Heap) (tk : Nat), T todo p gs → Sx g₀ g L m (p :: (a, IsS acc) :: mu) hp → acc.length + todo.length ≤ sizeLine → Cond g L mu →
      (∀ h' tk' gs', End gs' → Sx g₀ g L m ((a, IsS (acc ++ todo)) :: mu) h' → R (.ok (.ret res)) ⟨h', gs', dr, tk', os⟩) →
      codeAny (model prog w) A (.builtin "list.extend.loop" ⟨[.ref a, .ref it, res], []⟩) R ⟨hp, gs, dr, tk, os⟩ := by
  intro todo
  induction todo with
  | nil =>
    intro acc p gs hp tk hT S hn hC hR
    refine codeAny_builtin F.entry_extend_loop ?_
    rw [Around.under_plainId F.plain_extend_loop _]
    show wpAny _ A.in1 (pyNext (.ref it) >>= _) _ _ _
    refine wpAny_bind (P.stop hT C S (P.more _ hC) fun h' tk' gs' hE S' => ?_)
    rw [List.append_nil] at hR
    exact wpAny_pure (hR h' tk' gs' hE S')
  | cons y todo ih =>
    intro acc p gs hp tk hT S hn hC hR
    rw [List.length_cons] at hn
    refine codeAny_builtin F.entry_extend_loop ?_
    rw [Around.under_plainId F.plain_extend_loop _]
    show wpAny _ A.in1 (pyNext (.ref it) >>= _) _ _ _
    refine wpAny_bind (P.next hT C S (P.more _ hC) fun t h' tk' p' gs' hT' S' => ?_)
    show wpAny _ A.in1 (updateSeq a (·.push _) >>= _) _ _ _
    refine wpAny_bind (upd_push S' (.tail .head) (by omega) fun h₂ S₂ => wpAny_pure ⟨plainId_quiet F.plain_extend_loop _, ?_⟩)
    refine ih (acc ++ [y]) p' gs' h₂ tk' hT' S₂ (by rw [List.length_append, List.length_singleton]; omega) hC fun h₃ tk₃ gs₃ hE S₃ => ?_
    refine hR h₃ tk₃ gs₃ hE ?_
    rw [List.append_assoc] at S₃
    exact S₃
theorem list_shell {Q : Value → Shared → Prop} {v : Value} (S : Sx g₀ g L m mu hp)
    (h : ∀ a h', Sx g₀ g L m ((a, IsS []) :: mu) h' → wpAny (model prog w) A.in1.in1 (Builtin.List.listExtendWith (.ref a) v .none)
      (fun fin s' => match fin with | .done f => wants (fun r s₂ => r = .none ∧ Q (.ref a) s₂) E (.ok f) s' | .again c' => c'.quiet = true ∧ codeAny (model prog w) A.in1 c' (wants (fun r s₂ => r = .none ∧ Q (.ref a) s₂) E) s')
      (fun e s' => wants (fun r s₂ => r = .none ∧ Q (.ref a) s₂) E (.error e) s') ⟨h', gs₀, dr, tk₀, os⟩) :
    wpAny (model prog w) A (call (.type "list") [v]) Q E ⟨hp, gs₀, dr, tk₀, os⟩ := by
  refine callType_codes (Q₁ := fun obj s₁ => obj = .ref hp.objs.size ∧ s₁ = ⟨hp.push { cls := .type "list", data := .seq #[] }, gs₀, dr, tk₀, os⟩) F.called_list (F.typeCall_list_1 _) F.entry_list_init
    (code_list_new _ ⟨rfl, rfl⟩) fun obj s₁ h₁ => ?_
  obtain ⟨rfl, rfl⟩ := h₁
  have hS : (hp.push { cls := .type "list", data := .seq #[] }).get? hp.objs.size = some { cls := .type "list", data := .seq #[] } := Heap.get?_push_size _ rfl
  refine ⟨⟨_, hS, rfl⟩, F.args_list_init_2 _ _, ?_⟩
  have S₁ : Sx g₀ g L m ((hp.objs.size, IsL []) :: mu) (hp.push { cls := .type "list", data := .seq #[] }) := S.alloc rfl ⟨0, rfl⟩
  show wpAny _ A.in1.in1 (do let old ← Builtin.List.listItems (.ref hp.objs.size); Builtin.List.listUpdate (.ref hp.objs.size) (fun _ => #[]); letGo old.toList.reverse; Builtin.List.listExtendWith (.ref hp.objs.size) v .none) _ _ _
  refine wpAny_bind ?_
  unfold Builtin.List.listItems
  refine wpAny_bind (wpAny_seqItems hS rfl (wpAny_pure ?_))
  show wpAny _ A.in1.in1 (updateSeq hp.objs.size (fun _ => #[]) >>= fun _ => letGo (#[] : Array Value).toList.reverse >>= fun _ => Builtin.List.listExtendWith (.ref hp.objs.size) v .none) _ _ _
  refine wpAny_bind (wpAny_updateSeq hS rfl ?_)
  refine wpAny_bind (wpAny_letGo ?_)
  exact h _ _ (S₁.upd .head (Heap.SameBut.update ..) (Heap.get?_update_self _ hS rfl) ⟨[], rfl, mapSeq_is rfl⟩)
theorem Up.same {a : Addr} {P : Obj → Prop} {r r' : Mut} (u : Up a P P r r') : r' = r := by
  induction u with
  | head => rfl
  | tail _ ih => rw [ih]
theorem touch_l {hp : Heap} {mu : Mut} {Q : Unit → Shared → Prop} (S : Sx g₀ g L m mu hp) (hm : (a, IsS []) ∈ mu) (h : ∀ h', Sx g₀ g L m mu h' → Q () ⟨h', gs₀, dr, tk₀, os⟩) : wpAny (model prog w) A (Builtin.List.listTouch (.ref a)) Q E ⟨hp, gs₀, dr, tk₀, os⟩ := by
  obtain ⟨o, hS, l, hl, n, rfl⟩ := S.get _ hm
  have hl : l = [] := by simpa using hl
  subst hl
  show wpAny _ A (updateSeq a (·.push .none) >>= fun _ => updateSeq a (·.pop)) _ _ _
  refine wpAny_bind (wpAny_updateSeq hS rfl ?_)
  have hS₂ := Heap.get?_update_self (Obj.mapSeq (·.push Value.none)) hS rfl
  refine wpAny_updateSeq (hz := by seq_fits) hS₂ rfl ?_
  have hS₃ := Heap.get?_update_self (Obj.mapSeq (·.pop)) hS₂ rfl
  obtain ⟨mu₁, u⟩ : ∃ mu₁, Up a (IsS []) (IsS []) mu mu₁ := by
    clear h S hS hS₂ hS₃
    induction mu with
    | nil => cases hm
    | cons p mu ih =>
      cases hm with
      | head => exact ⟨_, .head⟩
      | tail _ hm => obtain ⟨r, u⟩ := ih hm; exact ⟨_, .tail u⟩
  have hmu : mu₁ = mu := u.same
  subst hmu
  refine h _ (S.upd u ?_ hS₃ ⟨[], rfl, mapSeq_is rfl⟩)
  exact (Heap.SameBut.update ..).trans (Heap.SameBut.update ..)
theorem list_ff (KK : KF K) (F : FF K) {Q : Value → Shared → Prop} {p : Addr × (Obj → Prop)} {todo : List Str} (P : Pull K prog w A.in1.in1 x Cond T End) (S : Sx g₀ g L m (p :: mu) hp) (C : Cx K g₀) (O : Ok A 4) (hT : T todo p gs₀) (hx : (x, (· = ffObj dx sl)) ∈ mu) (hdx : (dx, (· = emptyDict)) ∈ mu) (hn : todo.length ≤ sizeLine) (hC : Cond g L mu)
    (h : ∀ a h' tk' gs', End gs' → Sx g₀ g L m ((a, IsS todo) :: mu) h' → Q (.ref a) ⟨h', gs', dr, tk', os⟩) : wpAny (model prog w) A (call (.type "list") [.ref x]) Q E ⟨hp, gs₀, dr, tk₀, os⟩ := by
  refine list_shell S fun a h₁ S₁ => ?_
  have hne : a ≠ x := (List.pairwise_cons.mp S₁.nd).1 _ (.tail _ (List.mem_map_of_mem (f := fun q : Addr × (Obj → Prop) => q.1) hx))
  have inst : ∀ {h : Heap} {mu' : Mut}, Sx g₀ g L m (p :: mu') h → (∀ q ∈ mu, q ∈ mu') → K.In h ∧ InstAt h x (ffObj dx sl) 203 (some emptyDict) := by
    intro h mu' S' sub
    obtain ⟨o1, e1, r1⟩ := S'.get _ (.tail _ (sub _ hx))
    obtain ⟨o2, e2, r2⟩ := S'.get _ (.tail _ (sub _ hdx))
    cases r1; cases r2
    exact ⟨(C.keeps S'.old).kin, ffInst e1 e2⟩
  have S₁ := S₁.swap
  obtain ⟨X₁, I₁⟩ := inst S₁ fun q hq => .tail _ hq
  unfold Builtin.List.listExtendWith
  refine wpAny_bind (I₁.type.here ?_)
  have h1 : Builtin.List.listSameRef (.ref a) (.ref x) = false := by simp [Builtin.List.listSameRef, hne]
  have h2 : (Value.ref 203 == Value.type "list") = false := by decide
  have h3 : (Value.ref 203 == Value.type "tuple") = false := by decide
  simp only [h1, h2, h3, Bool.or_false, Bool.false_eq_true, if_false]
  refine wpAny_bind (ff_pyIter KK F S₁ C O.in1.in1 (.tail _ (.tail _ hx)) (.tail _ (.tail _ hdx)) fun h₂ tk₂ S₂ => ?_)
  obtain ⟨X₂, I₂⟩ := inst S₂ fun q hq => .tail _ hq
  refine wpAny_bind (wpAny_holding ?_)
  unfold Builtin.List.listLengthHint
  refine wpAny_bind (wpAny_bind (I₂.type.here ((looks_findIn X₂ F.noLen).here ?_)))
  show wpAny _ _ (specialOf (Value.ref x) (Str.ofString "__length_hint__") >>= _) _ _ _
  refine wpAny_bind (wpAny_bind (I₂.type.here ((looks_findIn X₂ F.noHint).here ?_)))
  refine wpAny_pure ?_
  show wpAny _ _ (rule "list.extend.makes-room" >>= fun _ => Builtin.List.listTouch (.ref a) >>= fun _ =>
    again (.builtin "list.extend.loop" ⟨[.ref a, .ref x, .none], []⟩)) _ _ _
  refine wpAny_bind (wpAny_rule (wpAny_bind (touch_l S₂ (.tail _ (.head _)) fun h₃ S₃ => ?_)))
  refine wpAny_pure ⟨plainId_quiet PySem.F.plain_extend_loop _, ?_⟩
  refine extend_loop P C todo [] p gs₀ h₃ _ hT S₃ (by simpa using hn) hC fun h₄ tk₄ gs₄ hE S₄ => ?_
  exact ⟨rfl, h a h₄ tk₄ gs₄ hE S₄⟩
end
end
section
/-! ## dict.fromkeys; list(dict) -/
def put (ks : List Str) (k : Str) : List Str := if k ∈ ks then ks else ks ++ [k]
def kvs0 (ks : List Str) : List (Str × Value) := ks.map fun k => (k, Value.none)
def IsDk (prog : Program) (w : World) (ks : List Str) (o : Obj) : Prop := o.IsDictOf (strKind prog w) (kvs0 ks)
theorem kvs0_keys (ks : List Str) : (kvs0 ks).map (·.1) = ks := by unfold kvs0; rw [List.map_map]; exact (List.map_congr_left fun _ _ => rfl).trans (List.map_id _)
theorem stored0 (ks : List Str) (k : Str) : stored (kvs0 ks) k Value.none = kvs0 (put ks k) := by
  unfold stored put
  by_cases h : k ∈ ks
  · rw [if_pos (by simp [kvs0, h]), if_pos h]
    unfold kvs0
    rw [List.map_map]
    refine List.map_congr_left fun x _ => ?_
    simp
  · rw [if_neg (by simpa [kvs0] using h), if_neg h]
    simp [kvs0]
theorem put_len (ks : List Str) (k : Str) : (put ks k).length ≤ ks.length + 1 := by unfold put; split <;> simp
theorem entry_fromkeys : entryFor table "dict.fromkeys" = some Builtin.«dict.fromkeys» := entryFor_of_fast (by kernel_rfl)
theorem entry_fromkeys_loop : entryFor table "dict.fromkeys.loop" = some Builtin.«dict.fromkeys.loop» := entryFor_of_fast (by kernel_rfl)
theorem plain_fromkeys_loop : plainId "dict.fromkeys.loop" = true := by decide +kernel
section
variable {K : Frag} {prog : Program} {w : World} {A : Around} {hp : Heap} {gs₀ : Array GenState} {dr : Drawn} {tk₀ : Nat} {os : OsState} {E : Value → Shared → Prop} {g₀ g : Heap} {L x dx a d it : Addr} {m : Str → Option Value} {mu : Mut} {sl : Array (Option Value)}
  {Cond : Heap → Addr → Mut → Prop} {T : List Str → Addr × (Obj → Prop) → Array GenState → Prop} {End : Array GenState → Prop}
theorem fromkeys_loop (P : Pull K prog w A.in1 it Cond T End) {R : Result → Shared → Prop} (C : Cx K g₀) :
    ∀ (todo acc : List Str) (p : Addr × (Obj → Prop)) (gs : Array GenState) (hp : Heap) (tk : Nat), T todo p gs → Sx g₀ g L m (p :: (d, IsDk prog w acc) :: mu) hp → acc.length + todo.length ≤ sizeLine → Cond g L mu →
      (∀ h' tk' gs', End gs' → Sx g₀ g L m ((d, IsDk prog w (todo.foldl put acc)) :: mu) h' → R (.ok (.ret (.ref d))) ⟨h', gs', dr, tk', os⟩) →
      codeAny (model prog w) A (.builtin "dict.fromkeys.loop" ⟨[.ref d, .ref it, .none], []⟩) R ⟨hp, gs, dr, tk, os⟩ := by
  intro todo
  induction todo with
  | nil =>
    intro acc p gs hp tk hT S hn hC hR
    refine codeAny_builtin entry_fromkeys_loop ?_
    rw [Around.under_plainId plain_fromkeys_loop _]
    show wpAny _ A.in1 (pyNext (.ref it) >>= _) _ _ _
    refine wpAny_bind (P.stop hT C S (P.more _ hC) fun h' tk' gs' hE S' => ?_)
    exact wpAny_pure (hR h' tk' gs' hE S')
  | cons y todo ih =>
    intro acc p gs hp tk hT S hn hC hR
    rw [List.length_cons] at hn
    refine codeAny_builtin entry_fromkeys_loop ?_
    rw [Around.under_plainId plain_fromkeys_loop _]
    show wpAny _ A.in1 (pyNext (.ref it) >>= _) _ _ _
    refine wpAny_bind (P.next hT C S (P.more _ hC) fun t h' tk' p' gs' hT' S' => ?_)
    obtain ⟨o, e, hd⟩ := S'.get _ (.tail _ (.head _))
    have hDict : (⟨h', gs', dr, tk', os⟩ : Shared).heap.DictOf (strKind prog w) d (kvs0 acc) := Heap.dictOf_iff.mpr ⟨o, e, hd⟩
    show wpAny _ A.in1 (typeOf (.ref d) >>= _) _ _ _
    refine wpAny_bind (wpAny_typeOf hDict.typeIs ?_)
    rw [if_pos (by decide)]
    refine wpAny_bind ?_
    show wpAny _ _ (pure d) _ _ _
    refine wpAny_pure (wpAny_bind (wpAny_holding ?_))
    refine wpAny_dictSet_pairs (knd := strKind prog w) (strKind_is _ _ _ _) hDict (fun h₂ hd₂ hs₂ => ?_) (by simp [kvs0]; omega)
    rw [stored0] at hd₂
    obtain ⟨o₂, e₂, hd₂⟩ := Heap.dictOf_iff.mp hd₂
    have S₂ : Sx g₀ g L m (p' :: (d, IsDk prog w (put acc y)) :: mu) h₂ := S'.upd (.tail .head) hs₂ e₂ hd₂
    refine wpAny_pure ⟨plainId_quiet plain_fromkeys_loop _, ?_⟩
    refine ih (put acc y) p' gs' h₂ _ hT' S₂ (by have := put_len acc y; omega) hC fun h₃ tk₃ gs₃ hE S₃ => ?_
    exact hR h₃ tk₃ gs₃ hE S₃
theorem dict_new0 {Q : Value → Shared → Prop} (S : Sx g₀ g L m mu hp) (h : ∀ d h', d = hp.objs.size → Sx g₀ g L m ((d, IsDk prog w []) :: mu) h' → Q (.ref d) ⟨h', gs₀, dr, tk₀, os⟩) : wpAny (model prog w) A (call (.type "dict") []) Q E ⟨hp, gs₀, dr, tk₀, os⟩ := by
  have hct : checkTypeCall "dict" ⟨[], []⟩ = pure () := by kernel_rfl
  have hnc : checkBuiltinCall "dict.__new__" ⟨[.type "dict"], []⟩ = pure () := by kernel_rfl
  have hnew0 : codeAny (model prog w) A.in1 (.call (.builtin "dict.__new__") ⟨[.type "dict"], []⟩) (wants (fun obj s₁ => obj = .ref hp.objs.size ∧ s₁ = ⟨hp.push { cls := .type "dict", data := .dict #[] }, gs₀, dr, tk₀, os⟩) E) ⟨hp, gs₀, dr, tk₀, os⟩ := by
    refine codeAny_call_builtin F.kt_plain_dict_new F.kt_entry_dict_new (wpAny_of_eq hnc ?_)
    have hsub := F.kt_sub_dict
    have hmro := F.kt_mro_dict
    unfold Builtin.«dict.__new__»
    wp_walk
    exact ⟨rfl, rfl⟩
  refine callType_codes (Q₁ := fun obj s₁ => obj = .ref hp.objs.size ∧ s₁ = ⟨hp.push { cls := .type "dict", data := .dict #[] }, gs₀, dr, tk₀, os⟩) F.kt_called_dict hct F.entry_dict_init hnew0 ?_
  rintro obj s₁ ⟨rfl, rfl⟩
  have hnew : (⟨hp.push { cls := .type "dict", data := .dict #[] }, gs₀, dr, tk₀, os⟩ : Shared).heap.DictOf (strKind prog w) hp.objs.size [] := Heap.DictOf.new hp
  refine ⟨hnew.typeIs, F.args_dict_init_1 _, ?_⟩
  unfold Builtin.«dict.__init__»
  refine wpAny_bind ?_
  unfold Builtin.Dict.selfAndRest
  refine wpAny_bind (wpAny_notOrdered_dict hnew.typeIs ?_)
  show wpAny _ _ (pure (hp.objs.size, [])) _ _ _
  refine wpAny_pure ?_
  show wpAny _ _ (Builtin.Dict.addKeywords hp.objs.size [] >>= _) _ _ _
  refine wpAny_bind (wpAny_pure (wpAny_pure ⟨rfl, ?_⟩))
  obtain ⟨o, e, hd⟩ := Heap.dictOf_iff.mp hnew
  have S' := S.alloc (o := { cls := .type "dict", data := .dict #[] }) (P := fun _ => True) rfl trivial
  obtain ⟨o', e', _⟩ := S'.get _ (.head _)
  refine h _ _ rfl (S'.upd .head (Heap.SameBut.refl _ _) e hd)
theorem fromkeys_ok {R : Result → Shared → Prop} {src : Value} {Ty : Value} (S : Sx g₀ g L m mu hp) (O : Ok A 2)
    (hty : ∀ {d h'}, Sx g₀ g L m ((d, IsDk prog w []) :: mu) h' → Looks (model prog w) h' (typeOf src) Ty) (t1 : (Ty == .type "dict") = false) (t2 : (Ty == .type "set") = false) (t3 : (Ty == .type "frozenset") = false)
    (h : ∀ d h' tk, d = hp.objs.size → Sx g₀ g L m ((d, IsDk prog w []) :: mu) h' → wpAny (model prog w) (A.under (.builtin "dict.fromkeys" ⟨[.type "dict", src], []⟩)) (pyIter src) (fun it s' => codeAny (model prog w) A (.builtin "dict.fromkeys.loop" ⟨[.ref d, it, .none], []⟩) R s') (fun e s' => R (.error e) s') ⟨h', gs₀, dr, tk, os⟩) :
    codeAny (model prog w) A (.builtin "dict.fromkeys" ⟨[.type "dict", src], []⟩) R ⟨hp, gs₀, dr, tk₀, os⟩ := by
  refine codeAny_builtin entry_fromkeys ?_
  unfold Builtin.«dict.fromkeys»
  dsimp only
  have hist : isType (.type "dict") = pure true := by kernel_rfl
  refine wpAny_bind (wpAny_of_eq hist ?_)
  simp only [Bool.not_true, Bool.false_eq_true, if_false]
  refine wpAny_bind (wpAny_of_eq F.kt_sub_dict ?_)
  simp only [Bool.not_true, Bool.false_eq_true, if_false, List.isEmpty_nil]
  refine wpAny_bind (wpAny_rule (wpAny_bind (wpAny_pure (wpAny_bind ?_))))
  refine dict_new0 S fun d h₁ hds S₁ => ?_
  refine wpAny_holding ?_
  refine wpAny_bind ((hty S₁).here ?_)
  obtain ⟨o, e, hd⟩ := S₁.get _ (.head _)
  have hDict : (⟨h₁, gs₀, dr, tk₀, os⟩ : Shared).heap.DictOf (strKind prog w) d (kvs0 []) := Heap.dictOf_iff.mpr ⟨o, e, hd⟩
  refine wpAny_bind (wpAny_typeOf hDict.typeIs ?_)
  rw [t1, Bool.and_false]
  simp only [Bool.false_eq_true, if_false]
  refine wpAny_bind (wpAny_typeOf hDict.typeIs ?_)
  rw [t2, t3, Bool.or_false, Bool.and_false]
  simp only [Bool.false_eq_true, if_false]
  refine wpAny_bind (wpAny_mono (h d h₁ tk₀ hds S₁) (fun it s' q => wpAny_pure ⟨plainId_quiet plain_fromkeys_loop _, q⟩) fun _ _ q => q)
end
end
section
/-! ## The deduplication bound to dict.fromkeys; the sources -/
theorem plain_fromkeys : plainId "dict.fromkeys" = true := by decide +kernel
theorem sub_dict_module : isSubtype (.type "type") (.type "module") = pure false := by rw [isSubtype_type]; kernel_rfl
section
variable {K : Frag} {prog : Program} {w : World} {A : Around} {hp : Heap} {gs₀ : Array GenState} {dr : Drawn} {tk₀ : Nat} {os : OsState} {E : Value → Shared → Prop} {g₀ g : Heap} {L x dx a d it : Addr} {m : Str → Option Value} {mu : Mut} {sl : Array (Option Value)}
theorem big_of (KK : KF K) (C : Cx K hp) : 94 < hp.objs.size := by
  obtain ⟨od, doc, pm, osl, ho, _⟩ := KK.fspath
  exact Heap.lt_size (C.kin _ _ ho)
theorem dedupe_call (KK : KF K) {Q : Value → Shared → Prop} {src : Value} (C : Cx K hp)
    (h : codeAny (model prog w) A (.builtin "dict.fromkeys" ⟨[.type "dict", src], []⟩) (wants Q E) ⟨hp, gs₀, dr, tk₀, os⟩) :
    wpAny (model prog w) A (call (.ref 170) [src]) Q E ⟨hp, gs₀, dr, tk₀, os⟩ := by
  obtain ⟨d, sl, ho⟩ := KK.dedupe
  have hb := C.kin _ _ ho
  have hck : checkBoundCall "dict.fromkeys" ⟨[.type "dict", src], []⟩ = pure () := by kernel_rfl
  refine wpAny_call (codeAny_of_tree ?_)
  show wpAny _ _ (callAny (.ref 170) _) _ _ _
  unfold callAny
  refine wpAny_bind (wpAny_load hb ?_)
  show wpAny _ _ (checkBoundCall "dict.fromkeys" ⟨[.type "dict", src], []⟩ >>= fun _ => again (.builtin "dict.fromkeys" ⟨[.type "dict", src], []⟩)) _ _ _
  refine wpAny_bind (wpAny_of_eq hck ?_)
  exact wpAny_pure ⟨Code.quiet_builtin _ (by decide +kernel), h⟩
def IsBf (h : Heap) (u : Addr) : Prop := ∃ d fs sl, h.get? u = some ⟨.type "builtin_function_or_method", d, .fields fs, sl⟩
theorem dedupe_is (KK : KF K) (C : Cx K hp) : IsBf hp 170 := by
  obtain ⟨d, sl, ho⟩ := KK.dedupe
  exact ⟨_, _, _, C.kin _ _ ho⟩
theorem cw_bf0 {u : Addr} {s : Shared} {pos : Pos} {Q : Value → Shared → Prop} {args : List (Bool × Sem Value)} (hplain : args.any (·.1) = false)
    (h : wpAny (model prog w) A (evalArgs (.ref u) true args []) (fun x s₁ => IsBf s₁.heap u ∧ wpAny (model prog w) A (call (.ref u) ([] ++ x.pos) x.kw) Q E s₁) E s) :
    wpAny (model prog w) A (callWith pos (.ref u) [] args []) Q E s := by
  unfold callWith
  refine wpAny_bind (wpAny_holding (wpAny_mono h (fun x s₁ h₁ => wpAny_bind (wpAny_standAt ?_)) fun _ _ x => x))
  obtain ⟨⟨d, fs, sl, ho⟩, hcall⟩ := h₁
  simp only [hplain, List.any_nil, Bool.or_false]
  refine wpAny_bind (m := keeperOf (.ref u)) ?_
  unfold keeperOf
  refine wpAny_bind (wpAny_load ho ?_)
  simp only [show (Value.type "builtin_function_or_method" != Value.type "method") = true by decide, show (Value.type "builtin_function_or_method" == Value.type "builtin_function_or_method" || Value.type "builtin_function_or_method" == Value.type "method-wrapper") = true by decide, if_true]
  refine wpAny_pure ?_
  exact wpAny_bind (wpAny_mono hcall (fun r s₂ hr => wpAny_bind (wpAny_holding (wpAny_point (wpAny_pure hr)))) fun _ _ x => x)
theorem cw_bf {u : Addr} {s : Shared} {env : Env} {pos : Pos} {Q : Value → Shared → Prop} {e : PySem.Expr} {rest : List PySem.Expr}
    (h : wpAny (model prog w) A (spliced (backTo pos (starEach (e :: rest) env))) (fun vs s₁ => IsBf s₁.heap u ∧ wpAny (model prog w) A (call (.ref u) vs) Q E s₁) E s)
    (he : starEach (e :: rest) env = (false, eval e env) :: starEach rest env := by rfl) (hplain : (backTo pos (starEach rest env)).any (·.1) = false := by rfl) :
    wpAny (model prog w) A (callWith pos (.ref u) [] (backTo pos (starEach (e :: rest) env)) []) Q E s := by
  rw [he] at h ⊢
  refine cw_bf0 (by show (false || (backTo pos (starEach rest env)).any (·.1)) = false; rw [hplain]; rfl) ?_
  exact evalArgs_plain h
/-! the sources -/
theorem pull_list (hh : A.handled = none) (l : List (Str × Tok)) : Pull K prog w A it (fun g _ mu => ListIn g mu a (strValues l)) (fun todo p gs => ∃ i, i ≤ l.length ∧ p = (it, IsLIt a i) ∧ gs = gs₀ ∧ todo = (l.drop i).map (·.1)) (· = gs₀) where
  next := by
    rintro g₀ g L m mu hp gs dr tk os E Q y todo p ⟨i, hi, rfl, rfl, ht⟩ C S hC hQ
    have hlt : i < l.length := by
      rcases Nat.lt_or_ge i l.length with h | h
      · exact h
      · rw [List.drop_eq_nil_of_le h] at ht; cases ht
    rw [List.drop_eq_getElem_cons hlt, List.map_cons] at ht
    obtain ⟨rfl, rfl⟩ := List.cons.inj ht
    refine (iter_list (a := a) (vs := strValues l) hh).next i (by rw [strValues_length]; exact hlt) S hC fun v h' tk' hv S' => ?_
    have hv' : v = .str l[i].1 l[i].2 := by
      simp only [strValues, List.getElem?_map, List.getElem?_eq_getElem hlt, Option.map_some, Option.some.injEq] at hv
      exact hv.symm
    subst hv'
    exact hQ _ h' tk' _ _ ⟨i + 1, hlt, rfl, rfl, rfl⟩ S'
  stop := by
    rintro g₀ g L m mu hp gs dr tk os E Q p ⟨i, hi, rfl, rfl, ht⟩ C S hC hQ
    have hin : i = (strValues l).length := by
      rw [strValues_length]
      rcases Nat.lt_or_ge i l.length with h | h
      · rw [List.drop_eq_getElem_cons h] at ht; cases ht
      · omega
    subst hin
    exact (iter_list (a := a) (vs := strValues l) hh).stop S hC fun h' tk' S' => hQ h' tk' _ rfl S'
  more := fun p h => h.more p
def IsKIt (d : Addr) (i n ep : Nat) (o : Obj) : Prop := o.cls = .type "dict_keyiterator" ∧ o.data = .fields #[.ref d, .int i 0, .int n 0, .int ep 0]
theorem pull_dict (hh : A.handled = none) {o : Obj} {ks : List Str} {es : Array DictEntry} {ep : Nat} (he : o.ExactDict) (hdt : o.data = .dict es ep) (hk : KeysOf (strKind prog w) es) (hps : Pairs (strKind prog w) es.toList (kvs0 ks)) (hnd : ((kvs0 ks).map (·.1)).Nodup) :
    Pull K prog w A it (fun _ _ mu => (d, (· = o)) ∈ mu) (fun todo p gs => ∃ i, i ≤ ks.length ∧ p = (it, IsKIt d i (kvs0 ks).length ep) ∧ gs = gs₀ ∧ todo = ks.drop i) (· = gs₀) where
  next := by
    rintro g₀ g L m mu hp gs dr tk os E Q y todo p ⟨i, hi, rfl, rfl, ht⟩ C S hC hQ
    have hlt : i < ks.length := by
      rcases Nat.lt_or_ge i ks.length with h | h
      · exact h
      · rw [List.drop_eq_nil_of_le h] at ht; cases ht
    rw [List.drop_eq_getElem_cons hlt] at ht
    obtain ⟨rfl, rfl⟩ := List.cons.inj ht
    obtain ⟨oi, ei, ci, di⟩ := S.get _ (.head _)
    obtain ⟨od, ed, r⟩ := S.get _ (.tail _ hC)
    cases r
    have hAt : hp.DictAt (strKind prog w) d (kvs0 ks) ep := ⟨o, es, ed, he, hdt, hk, hps, hnd⟩
    refine wpAny_pyNext_dict_item (s := ⟨hp, gs, dr, tk, os⟩) (knd := strKind prog w) (it := it) (d := d) (i := i) (k := ks[i]) (v := .none) ⟨oi, ei, ci, di⟩ hAt (by simp [kvs0, List.getElem?_eq_getElem hlt]) fun key h' hkey hit hs => ?_
    obtain ⟨t, rfl⟩ := Value.isStrOf_shape hkey
    obtain ⟨o', e', c', d'⟩ := hit
    exact hQ t h' tk _ _ ⟨i + 1, hlt, rfl, rfl, rfl⟩ (S.upd .head hs e' ⟨c', d'⟩)
  stop := by
    rintro g₀ g L m mu hp gs dr tk os E Q p ⟨i, hi, rfl, rfl, ht⟩ C S hC hQ
    have hin : i = ks.length := by
      rcases Nat.lt_or_ge i ks.length with h | h
      · rw [List.drop_eq_getElem_cons h] at ht; cases ht
      · omega
    subst hin
    obtain ⟨oi, ei, ci, di⟩ := S.get _ (.head _)
    obtain ⟨od, ed, r⟩ := S.get _ (.tail _ hC)
    cases r
    have hAt : hp.DictAt (strKind prog w) d (kvs0 ks) ep := ⟨o, es, ed, he, hdt, hk, hps, hnd⟩
    refine wpAny_pyNext_dict_end (s := ⟨hp, gs, dr, tk, os⟩) (knd := strKind prog w) (it := it) (d := d) (i := ks.length) hh ⟨oi, ei, ci, di⟩ hAt (by simp [kvs0]) fun h' hs => ?_
    exact hQ h' tk _ rfl (ext_lose S hs)
  more := fun p h => .tail _ h
end
end
section
/-! ## Draws of a list and of the generator; the contracts of list(..) and of the deduplication -/
theorem push_at {gs : Array GenState} {a : GenState} : (gs.push a)[gs.size]? = some a := by rw [Array.getElem?_push, if_pos rfl]
theorem push_set {gs : Array GenState} {a b : GenState} : (gs.push a).setIfInBounds gs.size b = gs.push b := by
  refine Array.ext_getElem? fun i => ?_
  rw [Array.getElem?_setIfInBounds, Array.getElem?_push, Array.getElem?_push, Array.size_push]
  by_cases h : gs.size = i
  · subst h; simp
  · rw [if_neg h, if_neg (Ne.symm h), if_neg (Ne.symm h)]
theorem not_sys {d : Addr} {n : Nat} (h : d = n) (hn : 94 < n) : (d == sysModules) = false := by
  refine beq_eq_false_iff_ne.mpr fun q => ?_
  have h1 : (1 : Nat) = n := q.symm.trans h
  omega
section
variable {K : Frag} {prog : Program} {w : World} {A : Around} {hp : Heap} {gs₀ : Array GenState} {dr : Drawn} {tk₀ : Nat} {os : OsState} {E : Value → Shared → Prop} {g₀ g : Heap} {L x dx a b st d it Lf ga : Addr} {m : Str → Option Value} {mu : Mut} {sl : Array (Option Value)} {ls : List Str} {gn : Nat}
theorem draw_list (hh : A.handled = none) (l : List (Str × Tok)) : Draw K prog w A (.ref it) (fun g mu => ListIn g mu a (strValues l)) (l.map (·.1)).length (fun i => (l.map (·.1)).getD i "") (fun i p gs => p = (it, IsLIt a i) ∧ gs = gs₀) (· = gs₀) where
  typ := by
    rintro g₀ g L m mu hp gs dr tk os i p ⟨rfl, rfl⟩ S hH
    obtain ⟨o, ho, hc, _⟩ := S.get _ (.head _)
    exact ⟨"list_iterator", _, ⟨o, ho, hc⟩, slot_listiter_next.lookup⟩
  next := by
    rintro g₀ g L m mu hp gs dr tk os E Q i p hi ⟨rfl, rfl⟩ C S hH hQ
    rw [List.length_map] at hi
    refine cs_item (a := a) (vs := strValues l) (by rw [strValues_length]; exact hi) S hH fun v h' hv S' => ?_
    have hv' : v = .str l[i].1 l[i].2 := by
      simp only [strValues, List.getElem?_map, List.getElem?_eq_getElem hi, Option.map_some, Option.some.injEq] at hv
      exact hv.symm
    subst hv'
    have : (l.map (·.1)).getD i ("" : Str) = l[i].1 := by simp [List.getD_eq_getElem?_getD, hi]
    rw [this] at hQ
    exact hQ _ h' _ _ _ ⟨rfl, rfl⟩ S'
  stop := by
    rintro g₀ g L m mu hp gs dr tk os E Q p ⟨rfl, rfl⟩ C S hH hE
    have e : (l.map (·.1)).length = (strValues l).length := by rw [List.length_map, strValues_length]
    rw [e] at S
    exact cs_end (a := a) hh S hH fun h₁ h' e S' hn => hE h₁ h' _ e _ rfl S' hn
  more := fun p h => h.more p
theorem draw_gen (O : Ok A 14) : Draw K prog w A (.ref ga) (fun _ mu => (ga, IsGenO gs₀.size) ∈ mu) ls.length (fun i => ls.getD i "") (fun i p gs => ∃ o gst, p = (Lf, (· = o)) ∧ gs = gs₀.push gst ∧ AncSt K prog w A.in1 Lf ls i o gst) (· = gs₀.push .finished) where
  typ := by
    rintro g₀ g L m mu hp gs dr tk os i p ⟨o, gst, rfl, rfl, hA⟩ S hH
    obtain ⟨og, eg, nm, qn, c1, _⟩ := S.get _ (.tail _ hH)
    exact ⟨"generator", _, ⟨og, eg, c1⟩, slot_gen_next.lookup⟩
  next := by
    rintro g₀ g L m mu hp gs dr tk os E Q i p hi ⟨o, gst, rfl, rfl, hA⟩ C S hH hQ
    refine cs_gen_item (gn := gs₀.size) O C S hH push_at hA hi fun x t h' tk' o' gst' hx hA' S' => ?_
    have : ls.getD i "" = x := by rw [List.getD_eq_getElem?_getD, hx]; rfl
    rw [this] at hQ
    rw [push_set]
    exact hQ t h' tk' _ _ ⟨o', gst', rfl, rfl, hA'⟩ S'
  stop := by
    rintro g₀ g L m mu hp gs dr tk os E Q p ⟨o, gst, rfl, rfl, hA⟩ C S hH hE
    exact cs_gen_stop (gn := gs₀.size) O C S hH push_at hA fun h₁ h' tk' e S' hn => hE h₁ h' tk' e _ push_set S' hn
  more := fun p h => .tail _ h
theorem list_dict {Q : Value → Shared → Prop} {ks : List Str} (S : Sx g₀ g L m ((d, IsDk prog w ks) :: mu) hp) (C : Cx K g₀) (hh : A.handled = none) (hd1 : (d == sysModules) = false) (hn : ks.length ≤ sizeLine)
    (h : ∀ a h' tk', Sx g₀ g L m ((a, IsS ks) :: mu) h' → Q (.ref a) ⟨h', gs₀, dr, tk', os⟩) : wpAny (model prog w) A (call (.type "list") [.ref d]) Q E ⟨hp, gs₀, dr, tk₀, os⟩ := by
  obtain ⟨o, ed, hD⟩ := S.get _ (.head _)
  have S0 : Sx g₀ g L m ((d, (· = o)) :: mu) hp := S.upd .head (Heap.SameBut.refl _ _) ed rfl
  obtain ⟨es, ep, he, hdt, hk, hps, hnd⟩ := hD
  refine list_shell S0 fun a h₁ S₁ => ?_
  have hne : a ≠ d := (List.pairwise_cons.mp S₁.nd).1 _ (.head _)
  obtain ⟨o1, e1, r1⟩ := S₁.get _ (.tail _ (.head _))
  cases r1
  have hAt : (⟨h₁, gs₀, dr, tk₀, os⟩ : Shared).heap.DictAt (strKind prog w) d (kvs0 ks) ep := ⟨o, es, e1, he, hdt, hk, hps, hnd⟩
  have hT := hAt.dictOf.typeIs
  unfold Builtin.List.listExtendWith
  refine wpAny_bind (wpAny_typeOf hT ?_)
  have h1 : Builtin.List.listSameRef (.ref a) (.ref d) = false := by simp [Builtin.List.listSameRef, hne]
  have h2 : (Value.type "dict" == Value.type "list") = false := by decide
  have h3 : (Value.type "dict" == Value.type "tuple") = false := by decide
  simp only [h1, h2, h3, Bool.or_false, Bool.false_eq_true, if_false]
  refine wpAny_bind (wpAny_pyIter_dict hd1 hAt ?_)
  have S₂ : Sx g₀ g L m ((h₁.objs.size, IsKIt d 0 (kvs0 ks).length ep) :: (a, IsS []) :: (d, (· = o)) :: mu) (h₁.push { cls := .type "dict_keyiterator", data := .fields #[.ref d, .int 0 0, .int (kvs0 ks).length 0, .int ep 0] }) := S₁.alloc rfl ⟨rfl, rfl⟩
  refine wpAny_bind (wpAny_holding ?_)
  obtain ⟨o2, e2, r2⟩ := S₂.get _ (.tail _ (.tail _ (.head _)))
  cases r2
  refine kdl_hint_dict ⟨o, e2, he.1⟩ ?_
  show wpAny _ _ (rule "list.extend.makes-room" >>= fun _ => Builtin.List.listTouch (.ref a) >>= fun _ =>
    again (.builtin "list.extend.loop" ⟨[.ref a, .ref h₁.objs.size, .none], []⟩)) _ _ _
  refine wpAny_bind (wpAny_rule (wpAny_bind (touch_l S₂ (.tail _ (.head _)) fun h₃ S₃ => ?_)))
  refine wpAny_pure ⟨plainId_quiet PySem.F.plain_extend_loop _, ?_⟩
  refine extend_loop (pull_dict (gs₀ := gs₀) (d := d) (A := A.in1.in1) hh he hdt hk hps hnd) C ks [] _ gs₀ h₃ _ ⟨0, Nat.zero_le _, rfl, rfl, rfl⟩ S₃ (by simpa using hn) (.head _) fun h₄ tk₄ gs₄ hE S₄ => ?_
  subst hE
  exact ⟨rfl, h a h₄ tk₄ (S₄.swap.drop)⟩
theorem dedupe_list {Q : Value → Shared → Prop} (KK : KF K) {l : List (Str × Tok)} (S : Sx g₀ g L m mu hp) (C : Cx K g₀) (O : Ok A 2) (hl : ListIn g mu a (strValues l)) (hn : l.length ≤ sizeLine)
    (h : ∀ d h' tk', (d == sysModules) = false → Sx g₀ g L m ((d, IsDk prog w ((l.map (·.1)).foldl put [])) :: mu) h' → Q (.ref d) ⟨h', gs₀, dr, tk', os⟩) : wpAny (model prog w) A (call (.ref 170) [.ref a]) Q E ⟨hp, gs₀, dr, tk₀, os⟩ := by
  have CC := C.keeps S.old
  refine dedupe_call KK CC ?_
  have hbig := big_of KK CC
  refine fromkeys_ok (Ty := .type "list") S O ?_ (by decide) (by decide) (by decide) ?_
  · intro d h' S'
    obtain ⟨o, e, hc, _⟩ := (hl.more (d, IsDk prog w [])).here S'
    rw [← hc]
    exact (Looks.ld e).andThen .now
  · intro d h' tk hds S'
    rw [Around.under_plainId plain_fromkeys _]
    refine iter_of_list S' (hl.more _) fun it h₂ S₂ => ?_
    refine fromkeys_loop (pull_list (gs₀ := gs₀) (A := A.in1) O.handled l) C (l.map (·.1)) [] _ gs₀ h₂ _ ⟨0, Nat.zero_le _, rfl, rfl, rfl⟩ S₂ (by simpa using hn) hl fun h₃ tk₃ gs₃ hE S₃ => ?_
    subst hE
    exact h d h₃ tk₃ (not_sys hds hbig) S₃
theorem dedupe_ff {Q : Value → Shared → Prop} (KK : KF K) (F : FF K) {Cond : Heap → Addr → Mut → Prop} {T : List Str → Addr × (Obj → Prop) → Array GenState → Prop} {End : Array GenState → Prop} {p : Addr × (Obj → Prop)} {todo : List Str} (P : Pull K prog w A.in1 x Cond T End) (S : Sx g₀ g L m (p :: mu) hp) (C : Cx K g₀) (O : Ok A 4) (hT : T todo p gs₀)
    (hx : (x, (· = ffObj dx sl)) ∈ mu) (hdx : (dx, (· = emptyDict)) ∈ mu) (hn : todo.length ≤ sizeLine) (hC : Cond g L mu)
    (h : ∀ d h' tk' gs', (d == sysModules) = false → End gs' → Sx g₀ g L m ((d, IsDk prog w (todo.foldl put [])) :: mu) h' → Q (.ref d) ⟨h', gs', dr, tk', os⟩) : wpAny (model prog w) A (call (.ref 170) [.ref x]) Q E ⟨hp, gs₀, dr, tk₀, os⟩ := by
  have CC := C.keeps S.old
  refine dedupe_call KK CC ?_
  have hbig := big_of KK CC
  refine fromkeys_ok (Ty := .ref 203) S (by walk_at "ok") ?_ (by decide) (by decide) (by decide) ?_
  · intro d h' S'
    obtain ⟨o1, e1, r1⟩ := S'.get _ (.tail _ (.tail _ hx))
    obtain ⟨o2, e2, r2⟩ := S'.get _ (.tail _ (.tail _ hdx))
    cases r1; cases r2
    exact (ffInst e1 e2).type
  · intro d h' tk hds S'
    rw [Around.under_plainId plain_fromkeys _]
    have S' := S'.swap
    refine ff_pyIter KK F S' C (by walk_at "ok") (.tail _ (.tail _ hx)) (.tail _ (.tail _ hdx)) fun h₂ tk₂ S₂ => ?_
    refine fromkeys_loop P C todo [] p gs₀ h₂ _ hT S₂ (by simpa using hn) hC fun h₃ tk₃ gs₃ hE S₃ => ?_
    exact h d h₃ tk₃ gs₃ (not_sys hds hbig) hE S₃
end
end
section
/-! ## Calls of functions with cells; for loops with any target -/
def cellMu (cs : List (Str × Addr)) : Mut := cs.map fun p => (p.2, IsC none)
section
variable {K : Frag} {prog : Program} {w : World} {A : Around} {hp : Heap} {gs₀ : Array GenState} {dr : Drawn} {tk₀ : Nat} {os : OsState} {E : Value → Shared → Prop} {g₀ g : Heap} {L it : Addr} {m : Str → Option Value} {mu : Mut} {env : Env}
theorem call_defC {f c : Addr} {qual : Str} {st : Stmt} (FI : FnIs K f c qual st) {R : Result → Shared → Prop} {vals : List Value} {binds : List (Str × Value)} (C : Cx K hp) (hroom : A.depth < recursionLimit)
    (hbind : ∀ doc pm, bindArgs (fnX (nameOf st) qual (argsOf st) (bodyOf st) (scopeOf st) [] .none .none doc pm none (.ref c) .none) ⟨vals, []⟩ = pure binds)
    (hloc : ∀ y ∈ binds, (scopeOf st).names.lookup y.1 = some .local) (hcs : ∀ p ∈ cellsFrom (hp.objs.size + 1) (scopeOf st).names [], (cellsFrom (hp.objs.size + 1) (scopeOf st).names []).lookup p.1 = some p.2)
    (h : ∀ h₁ tk₁, Sx hp hp hp.objs.size (bindL (fun y => (scopeOf st).names.lookup y) binds fun _ => none) (cellMu (cellsFrom (hp.objs.size + 1) (scopeOf st).names [])) h₁ →
      wpAny (model prog w) (A.deeper (envX qual (scopeOf st) hp.objs.size f (.ref c) (cellsFrom (hp.objs.size + 1) (scopeOf st).names []))) (execs (bodyOf st) (envX qual (scopeOf st) hp.objs.size f (.ref c) (cellsFrom (hp.objs.size + 1) (scopeOf st).names [])))
        (fun fl s' => R (.ok (.ret (match fl with | .ret v => v | _ => .none))) s')
        (fun e s' => wpAny (model prog w) (A.deeper (envX qual (scopeOf st) hp.objs.size f (.ref c) (cellsFrom (hp.objs.size + 1) (scopeOf st).names []))) (leaving (envX qual (scopeOf st) hp.objs.size f (.ref c) (cellsFrom (hp.objs.size + 1) (scopeOf st).names [])) e) (fun _ s'' => R (.error e) s'') (fun e' s'' => R (.error e') s'') s')
        ⟨h₁, gs₀, dr, tk₁, os⟩)
    (hco : (scopeOf st).isCoroutine = false := by rfl) (hgen : (scopeOf st).isGenerator = false := by rfl) (hk : (scopeOf st).kind = .function := by rfl) :
    codeAny (model prog w) A (.call (.ref f) ⟨vals, []⟩) R ⟨hp, gs₀, dr, tk₀, os⟩ := by
  obtain ⟨od, doc, pm, osl, ho, hcd⟩ := FI
  refine codeAny_call_cells (s := ⟨hp, gs₀, dr, tk₀, os⟩) (fd := fnX (nameOf st) qual (argsOf st) (bodyOf st) (scopeOf st) [] .none .none doc pm none (.ref c) .none) (body := bodyOf st) (binds := binds) hroom (C.kin _ _ ho) rfl C.noLimit (codeRec_of C.kin hcd) rfl (hbind _ _) rfl (fun x hx => .inl (hloc x hx)) (fun s₁ X => ?_) hco hgen hk
  obtain ⟨⟨⟨h₁, tk, rfl⟩, ns, keep, fresh⟩, cell, apart, above⟩ := X
  dsimp only at ns keep fresh cell apart above
  have hnd : ((cellsFrom (hp.objs.size + 1) (scopeOf st).names []).map (·.2)).Pairwise (· ≠ ·) := List.pairwise_map.mpr apart
  have hbc : ∀ (bs : List (Str × Value)) (cm : Str → Option Value), (∀ y ∈ bs, (scopeOf st).names.lookup y.1 = some .local) → bindC (fun y => (scopeOf st).names.lookup y) bs cm = cm := by
    intro bs
    induction bs with
    | nil => intro cm _; rfl
    | cons b bs ih =>
      intro cm hb
      obtain ⟨n, v⟩ := b
      simp only [bindC]
      rw [if_pos (hb (n, v) (.head _))]
      exact ih cm fun y hy => hb y (.tail _ hy)
  have hbc' := hbc binds (fun _ => none) hloc
  refine h h₁ tk ⟨Keep.rfl', ns, ?_, keep, Heap.get?_none_of_le (Nat.le_refl _), ?_, ?_, ?_⟩
  · intro p hp'
    obtain ⟨⟨n, c'⟩, hq, rfl⟩ := List.mem_map.mp hp'
    obtain ⟨o, e, d⟩ := cell n c' (hcs (n, c') hq)
    refine ⟨o, e, ?_⟩
    show o.data = .cell none
    rw [d]
    exact congrArg Data.cell (congrFun hbc' n)
  · intro p hp'
    obtain ⟨⟨n, c'⟩, hq, rfl⟩ := List.mem_map.mp hp'
    exact Heap.get?_none_of_le (Nat.le_of_lt (above _ _ hq))
  · intro p hp'
    obtain ⟨⟨n, c'⟩, hq, rfl⟩ := List.mem_map.mp hp'
    exact Nat.ne_of_gt (above _ _ hq)
  · unfold cellMu
    rw [List.map_map]
    exact hnd
end
section
variable {prog : Program} {w : World} {A : Around} {E : Value → Shared → Prop} {hp : Heap} {gs₀ : Array GenState} {dr : Drawn} {tk₀ : Nat} {os : OsState} {g₀ g : Heap} {L it : Addr} {m : Str → Option Value} {mu : Mut} {env : Env}
  {Here : Heap → Mut → Prop} {ItK : Nat → Obj → Prop} {n : Nat} {Val : Nat → Value → Prop}
theorem for_any {tgt : PySem.Expr} {body : List Stmt} {Q : Flow → Shared → Prop} (I : IterOk prog w A it Here ItK n Val) (J : Nat → Heap → (Str → Option Value) → Mut → Array GenState → Prop)
    (S : Sx g₀ g L m ((it, ItK 0) :: mu) hp) (hJ : J 0 g m mu gs₀) (here : ∀ i g m mu gs, J i g m mu gs → Here g mu)
    (turn : ∀ (i : Nat) (v : Value) (g' : Heap) (m' : Str → Option Value) (mu' : Mut) (gs : Array GenState) (h : Heap) (tk : Nat) (E' : Value → Shared → Prop), i < n → Val i v → J i g' m' mu' gs → Keep g g' → Sx g₀ g' L m' ((it, ItK (i + 1)) :: mu') h →
      wpAny (model prog w) A (assign tgt env v) (fun _ s₁ => wpAny (model prog w) A (execs body env) (fun f s' => match f with
        | .next | .cont => ∃ h' tk' gs' g'' m'' mu'', s' = ⟨h', gs', dr, tk', os⟩ ∧ Keep g' g'' ∧ Sx g₀ g'' L m'' ((it, ItK (i + 1)) :: mu'') h' ∧ J (i + 1) g'' m'' mu'' gs'
        | .brk => Q .next s'
        | .ret v => Q (.ret v) s') E' s₁) E' ⟨h, gs, dr, tk, os⟩)
    (done : ∀ (g' : Heap) (m' : Str → Option Value) (mu' : Mut) (gs : Array GenState) (h : Heap) (tk : Nat), J n g' m' mu' gs → Keep g g' → Sx g₀ g' L m' mu' h → Q .next ⟨h, gs, dr, tk, os⟩)
    (ht : ∀ v, letOwnedTupleGo tgt (.ref it) v = pure () := by intro _; rfl) :
    codeAny (model prog w) A (.forLoop tgt (.ref it) body [] env) (fun r s' => match r with | .ok f => Q f s' | .error e => cameBackBy (model prog w) A env E e s') ⟨hp, gs₀, dr, tk₀, os⟩ := by
  refine codeAny_forLoop (fun k s' => ∃ i g' m' mu' gs h tk, k = n + 1 - i ∧ i ≤ n ∧ s' = ⟨h, gs, dr, tk, os⟩ ∧ J i g' m' mu' gs ∧ Keep g g' ∧ Sx g₀ g' L m' ((it, ItK i) :: mu') h)
    ?_ (n + 1) ⟨0, g, m, mu, gs₀, hp, tk₀, rfl, Nat.zero_le _, rfl, hJ, Keep.rfl', S⟩ (ht := ht)
  rintro k s' ⟨i, g', m', mu', gs, h, tk, rfl, hi, rfl, hJ', hk', S'⟩
  by_cases hlt : i < n
  · refine I.next i hlt S' (here _ _ _ _ _ hJ') fun v h' tk' hv S₁ => ?_
    refine wpAny_mono (turn i v g' m' mu' gs h' tk' _ hlt hv hJ' hk' S₁) (fun _ s₂ h₂ => ?_) fun _ _ e => e
    refine wpAny_mono h₂ (fun f s₃ hf => ?_) fun _ _ e => e
    cases f with
    | next =>
      obtain ⟨h₃, tk₃, gs₃, g₃, m₃, mu₃, rfl, k₃, S₃, J₃⟩ := hf
      exact ⟨n + 1 - (i + 1), by omega, i + 1, g₃, m₃, mu₃, gs₃, h₃, tk₃, rfl, hlt, rfl, J₃, hk'.trans k₃, S₃⟩
    | cont =>
      obtain ⟨h₃, tk₃, gs₃, g₃, m₃, mu₃, rfl, k₃, S₃, J₃⟩ := hf
      exact ⟨n + 1 - (i + 1), by omega, i + 1, g₃, m₃, mu₃, gs₃, h₃, tk₃, rfl, hlt, rfl, J₃, hk'.trans k₃, S₃⟩
    | brk => exact hf
    | ret v => exact hf
  · have hin : i = n := by omega
    subst hin
    refine I.stop S' (here _ _ _ _ _ hJ') fun h' tk' S₁ => ?_
    exact wpAny_execs_nil (done g' m' mu' gs h' tk' hJ' hk' S₁)
/-- an object made here that will not turn any more is frozen -/
theorem Sx.settle {h : Heap} {r : Addr} {P : Obj → Prop} (S : Sx g₀ g L m ((r, P) :: mu) h) : ∃ g', Keep g g' ∧ Sx g₀ g' L m mu h ∧ ∃ o, g'.get? r = some o ∧ P o := by
  obtain ⟨o, e, p⟩ := S.get _ (.head _)
  obtain ⟨g', k, S', f⟩ := S.drop.freeze
  refine ⟨g', k, S', o, f r o e (S.nL _ (.head _)) ?_, p⟩
  intro q hq
  exact Ne.symm ((List.pairwise_cons.mp S.nd).1 _ (List.mem_map_of_mem hq))
end
end
section
/-! ## Small rules: tests of a comprehension, extend, len, items, small ranges -/
section
variable {M : Model} {A : Around} {E : Value → Shared → Prop} {s : Shared} {Q : Bool → Shared → Prop} {cenv : Env}
theorem ifs_one {t : PySem.Expr} (h : wpAny M A (isTrue t cenv (eval t cenv)) Q E s) : wpAny M A (forIn [t] true fun c r => if r = true then do let ok ← isTrue c cenv (eval c cenv); pure (ForInStep.yield ok) else pure (ForInStep.yield r)) Q E s := by
  simp only [List.forIn_cons, List.forIn_nil, if_true]
  exact wpAny_bind (wpAny_bind (wpAny_mono h (fun ok s₁ q => wpAny_pure (wpAny_pure q)) fun _ _ e => e))
theorem ifs_nil (h : Q true s) : wpAny M A (forIn [] true fun c r => if r = true then do let ok ← isTrue c cenv (eval c cenv); pure (ForInStep.yield ok) else pure (ForInStep.yield r)) Q E s := by
  simp only [List.forIn_nil]
  exact wpAny_pure h
end
theorem small_up {a b : Int} (ha : -4096 ≤ a) (ha' : a ≤ 4096) (hb : -4096 ≤ b) (hb' : b ≤ 4096) : Builtin.Range.small a b 1 = true := small_one (by omega) (by omega) (by omega) (by omega)
theorem size_up {n : Nat} : Builtin.Range.rangeSize 1 ((n : Int) + 1) 1 = (n : Int) := by
  unfold Builtin.Range.rangeSize
  rw [if_pos (by decide)]
  by_cases h : n = 0
  · subst h; rfl
  · rw [if_pos (by omega)]
    simp only [Int.ediv_one]; omega
theorem size_up0 {n : Nat} : Builtin.Range.rangeSize 0 (n : Int) 1 = (n : Int) := by
  unfold Builtin.Range.rangeSize
  rw [if_pos (by decide)]
  by_cases h : n = 0
  · subst h; rfl
  · rw [if_pos (by omega)]
    simp only [Int.ediv_one]; omega
theorem size_down {n : Nat} : Builtin.Range.rangeSize (n : Int) 0 (-1) = (n : Int) := by
  unfold Builtin.Range.rangeSize
  rw [if_neg (by decide)]
  by_cases h : n = 0
  · subst h; rfl
  · rw [if_pos (by omega)]
    rw [show (-(-1 : Int)) = 1 from rfl, Int.ediv_one]; omega
theorem small_down {n : Nat} (h : n ≤ 4096) : Builtin.Range.small (n : Int) 0 (-1) = true := by
  unfold Builtin.Range.small
  rw [size_down]
  simp only [Builtin.Range.rangeFitsLong, Bool.and_eq_true, Bool.or_eq_true, decide_eq_true_eq, beq_iff_eq, show ¬ ((-1 : Int) > 0) by decide, if_false]
  refine ⟨⟨⟨⟨?_, ?_⟩, ?_⟩, ?_⟩, ?_⟩ <;> omega
section
variable {prog : Program} {w : World} {A : Around} {E : Value → Shared → Prop} {hp : Heap} {gs₀ : Array GenState} {dr : Drawn} {tk₀ : Nat} {os : OsState} {g₀ g : Heap} {L a b : Addr} {m : Str → Option Value} {mu mu' : Mut} {Q : Value → Shared → Prop} {vs ws : List Value} {ss : List Str} {t u : Tok}
theorem l_extend (S : Sx g₀ g L m mu hp) (u : Up a (IsL vs) (IsL (vs ++ ws)) mu mu') (hb : LAt hp b ws) (hn : vs.length + ws.length ≤ sizeLine) (h : ∀ h', Sx g₀ g L m mu' h' → Q .none ⟨h', gs₀, dr, tk₀, os⟩) : wpAny (model prog w) A (call (.builtin "list.extend") [.ref a, .ref b]) Q E ⟨hp, gs₀, dr, tk₀, os⟩ := by
  obtain ⟨o, e, n, rfl⟩ := S.get _ u.mem
  obtain ⟨o2, e2, n2, rfl⟩ := hb
  have hsz' : vs.toArray.size + ws.toArray.size ≤ sizeLine := by rw [List.size_toArray, List.size_toArray]; exact hn
  refine call_meets (s := ⟨hp, gs₀, dr, tk₀, os⟩) PySem.F.slot_list_extend ⟨_, e, rfl⟩ PySem.F.entry_list_extend (PySem.F.args_list_extend_2 _ _) (PySem.AutoSeq1.list_extend_list_list_0 a vs.toArray n b ws.toArray n2 (extend_door hsz') (Nat.le_trans (Nat.le_add_right _ _) hsz') (by omega)) ⟨e, e2, ?_⟩
  exact h _ (S.upd u (Heap.SameBut.update ..) (Heap.get?_update_self _ e rfl) (mapSeq_is (by simp)))
theorem len_l (ha : LAt hp a vs) (hn : vs.length ≤ 4096) (h : ∀ t' tk, Q (.int (vs.length : Int) t') ⟨hp, gs₀, dr, tk, os⟩) : wpAny (model prog w) A (call (.builtin "len") [.ref a]) Q E ⟨hp, gs₀, dr, tk₀, os⟩ := by
  refine PyProof.Rows.len_list ha.isList (by rw [List.size_toArray]; have : ((2 : Int) ^ 63) = 9223372036854775808 := by decide
                                             rw [this]; omega) ?_
  rw [List.size_toArray]
  exact h _ _
theorem len_ss (ha : SAt hp a ss) (hn : ss.length ≤ 4096) (h : ∀ t' tk, Q (.int (ss.length : Int) t') ⟨hp, gs₀, dr, tk, os⟩) : wpAny (model prog w) A (call (.builtin "len") [.ref a]) Q E ⟨hp, gs₀, dr, tk₀, os⟩ := by
  obtain ⟨l, rfl, la⟩ := ha.open
  rw [List.length_map] at hn h
  refine len_l la (by rw [strValues_length]; exact hn) ?_
  rw [strValues_length]
  exact h
theorem it_l {value slice : PySem.Expr} {k : Nat} {v : Value} (ha : LAt hp a vs) (hk : k < 4096) (hv : vs[k]? = some v) (h : Q v ⟨hp, gs₀, dr, tk₀, os⟩)
    (hs : subscripted slice false (.ref a) (.int (k : Int) u) = operate [.ref a, .int (k : Int) u] (getItem (.ref a) (.int (k : Int) u)) := by with_unfolding_all rfl) (hg : ∀ r, letTemporaryGo value (.ref a) r = pure () := by intro _; with_unfolding_all rfl) :
    wpAny (model prog w) A (subscriptTail value slice (.ref a) (.int (k : Int) u)) Q E ⟨hp, gs₀, dr, tk₀, os⟩ := by
  refine PyProof.Rows.item_list ha.isList (by omega) (by have : ((2 : Int) ^ 63) = 9223372036854775808 := by decide
                                                         rw [this]; omega) (x := v) ?_ h hs hg
  simpa using hv
theorem last_l {value slice : PySem.Expr} {v : Value} (ha : LAt hp a (vs ++ [v])) (h : Q v ⟨hp, gs₀, dr, tk₀, os⟩)
    (hs : subscripted slice false (.ref a) (.int (-1) u) = operate [.ref a, .int (-1) u] (getItem (.ref a) (.int (-1) u)) := by with_unfolding_all rfl) :
    wpAny (model prog w) A (subscriptTail value slice (.ref a) (.int (-1) u)) Q E ⟨hp, gs₀, dr, tk₀, os⟩ := by
  have k := ha.isList
  have ne : (vs ++ [v]).toArray.size = vs.length + 1 := by rw [List.size_toArray]; simp
  refine tail_any (s := ⟨hp, gs₀, dr, tk₀, os⟩) k.typeIs slot_list_getitem.lookup (wpAny_getItem_list_neg k (by decide) (by rw [ne]; omega) (by decide) (x := v) ?_ h) hs
  rw [ne, show ((-1 : Int) + ((vs.length + 1 : Nat) : Int)).toNat = vs.length by omega]
  simp
end
theorem rit0 {x n c : Int} : IsRIt x n c = IsRIt (x + ((0 : Nat) : Int) * c) (n - ((0 : Nat) : Int)) c := by simp
theorem take_filter_step {α : Type} {l : List α} {p : α → Bool} {i : Nat} {a : α} (h : l[i]? = some a) : (l.take (i + 1)).filter p = (l.take i).filter p ++ (if p a = true then [a] else []) := by
  rw [List.take_add_one, h, List.filter_append]
  simp only [Option.toList_some, List.filter_cons, List.filter_nil]
end
section
/-! ## _law_climbed -/
def climb1 (ss : List Str) (p : Str) : Str := if dirF p ∈ ss ++ [("/" : Str)] then p else dirF p
def climbN (ss : List Str) : Nat → Str → Str
  | 0, p => p
  | n + 1, p => climb1 ss (climbN ss n p)
theorem climb1_len (ss : List Str) (p : Str) : (climb1 ss p).length ≤ p.length := by unfold climb1; split; exact Nat.le_refl _; exact dirF_len p
theorem climbN_len (ss : List Str) (p : Str) : ∀ n, (climbN ss n p).length ≤ p.length
  | 0 => Nat.le_refl _
  | n + 1 => Nat.le_trans (climb1_len _ _) (climbN_len ss p n)
section
variable {K : Frag} {prog : Program} {w : World} {A : Around} {hp : Heap} {gs₀ : Array GenState} {dr : Drawn} {tk₀ : Nat} {os : OsState} {E : Value → Shared → Prop} {Q : Value → Shared → Prop} {g₀ g : Heap} {L : Addr} {m : Str → Option Value} {mu : Mut}
theorem climbed_ok (KK : KF K) {R : Result → Shared → Prop} {x : Str} {t : Tok} {b : Addr} {ss : List Str} (C : Cx K hp) (O : Ok A 6) (hx : x.length ≤ 4096) (hs : SAt hp b ss) (hz : ss.length + 1 ≤ sizeLine)
    (h : ∀ h' tk t', Keep hp h' → R (.ok (.ret (.str (climbN ss 3 x) t'))) ⟨h', gs₀, dr, tk, os⟩) :
    codeAny (model prog w) A (.call (.ref 233) ⟨[.str x t, .ref b], []⟩) R ⟨hp, gs₀, dr, tk₀, os⟩ := by
  refine call_def KK.lawClimbed (binds := [("place", .str x t), ("stay", .ref b)]) C O.room (fun _ _ => BindsTo.of_eq rfl) (by intro y hy; simp only [List.mem_cons, List.not_mem_nil, or_false] at hy; rcases hy with rfl | rfl <;> rfl) (by decide) ?_
  intro h₁ tk₁ S₁
  refine wpAny_execs_cons ?_
  walk_at "mm"
  refine mk_rng1 S₁ ?_
  intro ra h₂ tk₂ S₂
  walk_at "mm"
  refine iter_of_rng S₂ (by decide) ?_
  intro it h₃ S₃
  refine for_run (iter_rng (x := 0) (c := 1) (n := 3) O.handled)
    (fun i g' m' mu' gs => g' = hp ∧ gs = gs₀ ∧ mu' = [] ∧ (∃ t, m' "place" = some (.str (climbN ss i x) t)) ∧ m' "stay" = some (.ref b))
    (S₃) ⟨rfl, rfl, rfl, ⟨_, by walk_at "lk"⟩, by walk_at "lk"⟩ (fun i g m mu gs hJ => trivial) ?_ ?_
  · intro i v g' m' mu' gs h tk E' hi hv hJ hk S'
    obtain ⟨rfl, rfl, rfl, ⟨tp, hm1⟩, hm2⟩ := hJ
    have hlen : (climbN ss i x).length ≤ 4096 := Nat.le_trans (climbN_len ss x i) hx
    generalize hc : climbN ss i x = c at hm1 hlen
    have hnext : climbN ss (i + 1) x = climb1 ss c := by rw [← hc]; rfl
    rw [hnext]
    refine wpAny_execs_cons ?_
    walk_at "mm"
    refine dirname_c KK S' C (by walk_at "ok") hlen ?_
    intro h₄ tk₄ t₄ S₄
    walk_at "mm"
    rename Sx _ _ _ _ _ _ => S₅
    have S₆ := S₅.weaken (P' := IsS [("/" : Str)]) .head isS_one
    refine add_ss (us := [("/" : Str)]) S₆ ((hs.keeps S₆.keep)) (S₆.sAt (by walk_at "mem")) hz ?_
    intro r h₇ S₇
    refine notin_ss (S₇.sAt (by walk_at "mem")) ?_
    walk_at "mm"
    by_cases hin : dirF c ∈ ss ++ [("/" : Str)]
    · refine ite_neg (by rw [decide_eq_true hin]; decide) ?_
      walk_at "mm"
      refine ⟨_, _, _, _, _, _, rfl, Keep.rfl', S₇.sub (by walk_at "sub"), rfl, rfl, rfl, ⟨tp, ?_⟩, by walk_at "lk"⟩
      rw [show climb1 ss c = c from if_pos hin]
      walk_at "lk"
    · refine ite_pos (by rw [decide_eq_false hin]; rfl) ?_
      walk_at "mm"
      refine dirname_c KK S₇ C (by walk_at "ok") hlen ?_
      intro h₈ tk₈ t₈ S₈
      walk_at "mm"
      rename Sx _ _ _ _ _ _ => S₉
      refine ⟨_, _, _, _, _, _, rfl, Keep.rfl', S₉.sub (by walk_at "sub"), rfl, rfl, rfl, ⟨t₈, ?_⟩, by walk_at "lk"⟩
      rw [show climb1 ss c = dirF c from if_neg hin]
      walk_at "lk"
  · intro g' m' mu' gs h tk hJ hk S'
    obtain ⟨rfl, rfl, rfl, ⟨tp, hm1⟩, hm2⟩ := hJ
    walk_at "mm"
    exact h _ _ _ S'.old
theorem climbed_c (KK : KF K) (S : Sx g₀ g L m mu hp) (C : Cx K g₀) (O : Ok A 6) {x : Str} {t : Tok} {b : Addr} {ss : List Str} (hx : x.length ≤ 4096) (hs : SAt hp b ss) (hz : ss.length + 1 ≤ sizeLine)
    (h : ∀ h' tk t', Sx g₀ g L m mu h' → Q (.str (climbN ss 3 x) t') ⟨h', gs₀, dr, tk, os⟩) :
    wpAny (model prog w) A (call (.ref 233) [.str x t, .ref b]) Q E ⟨hp, gs₀, dr, tk₀, os⟩ := wpAny_call (climbed_ok KK (C.keeps S.old) O hx hs hz fun h' tk t' k => h h' tk t' (S.grow k))
end
end
section
/-! ## _law_told -/
def ups (row : List Str) : List (List Str) := (List.range row.length).map fun j => row.take (1 + j)
def downs (row : List Str) : List (List Str) := (List.range row.length).map fun j => row.take (row.length - j)
def stayStep (st : List (List Str)) (row : List Str) : List (List Str) := st ++ (downs row).filter fun r => decide (r ∉ st)
def stayR (held : List (List Str)) : List (List Str) := held.foldl stayStep []
def freeR (st : List (List Str)) (row : List Str) : List (List Str) := (ups row).filter fun r => decide (r ∉ st)
theorem stayStep_len (st : List (List Str)) (row : List Str) : (stayStep st row).length ≤ st.length + row.length := by
  unfold stayStep
  rw [List.length_append]
  have := List.length_filter_le (fun r => decide (r ∉ st)) (downs row)
  have h2 : (downs row).length = row.length := by simp [downs]
  omega
def goneStep (st : List (List Str)) (gt : List (List Str) × List (List Str)) (row : List Str) : List (List Str) × List (List Str) :=
  if row ∈ freeR st row ∧ row ∉ gt.1 then (gt.1 ++ [row], gt.2 ++ [(freeR st row).headD []]) else gt
def goneR (st : List (List Str)) (rows : List (List Str)) : List (List Str) × List (List Str) := rows.foldl (goneStep st) ([], [])
def toldF (rows held : List (List Str)) : List (List Str) := [(stayR held).map pathOf, (goneR (stayR held) rows).1.map pathOf, (goneR (stayR held) rows).2.map pathOf]
theorem fold_mem {α β : Type} {f : List β → α → List β} {P : β → Prop} : ∀ (xs : List α) (acc : List β), (∀ b ∈ acc, P b) → (∀ acc, (∀ b ∈ acc, P b) → ∀ x ∈ xs, ∀ b ∈ f acc x, P b) → ∀ b ∈ xs.foldl f acc, P b
  | [], acc, h, _ => h
  | x :: xs, acc, h, hf => fold_mem xs (f acc x) (hf acc h x (.head _)) fun acc' h' y hy => hf acc' h' y (.tail _ hy)
theorem stay_wt {held : List (List Str)} {n : Nat} (h : ∀ r ∈ held, wt r ≤ n) : ∀ q ∈ stayR held, wt q ≤ n := by
  refine fold_mem held [] (fun _ hb => nomatch hb) fun acc ha x hx b hb => ?_
  rcases List.mem_append.mp hb with hb | hb
  · exact ha b hb
  · obtain ⟨hb, _⟩ := List.mem_filter.mp hb
    obtain ⟨j, _, rfl⟩ := List.mem_map.mp hb
    exact Nat.le_trans (wt_take _ _) (h x hx)
theorem free_wt {st : List (List Str)} {row q : List Str} (h : q ∈ freeR st row) : wt q ≤ wt row := by
  obtain ⟨hb, _⟩ := List.mem_filter.mp h
  obtain ⟨j, _, rfl⟩ := List.mem_map.mp hb
  exact wt_take _ _
theorem gone_wt {st : List (List Str)} {n : Nat} : ∀ (rows : List (List Str)) (gt : List (List Str) × List (List Str)), (∀ r ∈ rows, wt r ≤ n) → (∀ q ∈ gt.1, wt q ≤ n) → (∀ q ∈ gt.2, wt q ≤ n) → (∀ q ∈ (rows.foldl (goneStep st) gt).1, wt q ≤ n) ∧ ∀ q ∈ (rows.foldl (goneStep st) gt).2, wt q ≤ n
  | [], gt, _, h1, h2 => ⟨h1, h2⟩
  | r :: rows, gt, h, h1, h2 => by
    have hr := h r (.head _)
    refine gone_wt rows (goneStep st gt r) (fun q hq => h q (.tail _ hq)) ?_ ?_
    · intro q hq
      unfold goneStep at hq
      split at hq
      · rcases List.mem_append.mp hq with hq | hq
        · exact h1 q hq
        · simp only [List.mem_singleton] at hq; rw [hq]; exact hr
      · exact h1 q hq
    · intro q hq
      unfold goneStep at hq
      split at hq
      · rename_i hc
        rcases List.mem_append.mp hq with hq | hq
        · exact h2 q hq
        · simp only [List.mem_singleton] at hq
          rw [hq]
          cases e : freeR st r with
          | nil => rw [e] at hc; exact absurd hc.1 (by simp)
          | cons f fs => exact Nat.le_trans (free_wt (st := st) (row := r) (by rw [e]; exact .head _)) hr
      · exact h2 q hq
theorem join_len {r : List Str} {n : Nat} (h : wt r ≤ n) : (Txt.join "/" r).length ≤ 2 * n := by
  have h1 := StrLaws.join_length_le "/" r
  have h2 : (r.map (·.length)).sum + r.length ≤ n := h
  rw [show Str.length "/" = 1 from rfl] at h1
  have h3 : Txt.join "/" r = Str.join "/" r := StrLaws.glued_eq_join _ _
  rw [h3]
  omega
abbrev toldEnv (L : Addr) : Env := envX "_law_told" (scopeOf (stmtAt 33)) L 226 (.ref 225) [("row", L + 2), ("stay", L + 1)]
section
variable {K : Frag} {prog : Program} {w : World} {A : Around} {hp : Heap} {gs₀ : Array GenState} {dr : Drawn} {tk₀ : Nat} {os : OsState} {E : Value → Shared → Prop} {Q : Value → Shared → Prop} {a : Addr} {ss : List Str} {t : Tok}
theorem join_at {x : Str} (ha : SAt hp a ss) (hw : wt ss ≤ 1048576) (hx : x.length ≤ 16) (h : ∀ t' k, Q (.str (Txt.join x ss) t') ⟨hp, gs₀, dr, k, os⟩) :
    wpAny (model prog w) A (call (.builtin "str.join") [.str x t, .ref a]) Q E ⟨hp, gs₀, dr, tk₀, os⟩ := by
  obtain ⟨l, hl, k⟩ := ha.open
  exact SC.join k.isList hl (PyProof.Rows.joinOk_of_weight hw hx) h
end
section
variable {K : Frag} {prog : Program} {w : World} {A : Around} {hp : Heap} {gs₀ : Array GenState} {dr : Drawn} {tk₀ : Nat} {os : OsState} {E : Value → Shared → Prop} {Q : Value → Shared → Prop} {g₀ g : Heap} {L : Addr} {m : Str → Option Value} {mu : Mut}
theorem told_ok (KK : KF K) {R : Result → Shared → Prop} {rl hl : Addr} {ras has : List Addr} {rows held : List (List Str)} (C : Cx K hp) (O : Ok A 6) (hr : LAt hp rl (ras.map .ref)) (hrr : RowsAt hp ras rows) (hh : LAt hp hl (has.map .ref)) (hhr : RowsAt hp has held)
    (n1 : rows.length ≤ 8) (n2 : held.length ≤ 8) (w1 : ∀ r ∈ rows, wt r ≤ 40) (w2 : ∀ r ∈ held, wt r ≤ 40)
    (h : ∀ r as h' tk, Keep hp h' → LAt h' r (as.map .ref) → RowsAt h' as (toldF rows held) → R (.ok (.ret (.ref r))) ⟨h', gs₀, dr, tk, os⟩) :
    codeAny (model prog w) A (.call (.ref 226) ⟨[.ref rl, .ref hl], []⟩) R ⟨hp, gs₀, dr, tk₀, os⟩ := by
  refine call_defC KK.lawTold (binds := [("rows", .ref rl), ("held", .ref hl)]) C O.room (fun _ _ => rfl) (by intro y hy; simp only [List.mem_cons, List.not_mem_nil, or_false] at hy; rcases hy with rfl | rfl <;> rfl) ?_ ?_
  · intro p hq
    change p ∈ [(("row" : Str), hp.objs.size + 1 + 1), (("stay" : Str), hp.objs.size + 1)] at hq
    simp only [List.mem_cons, List.not_mem_nil, or_false] at hq
    rcases hq with rfl | rfl <;> rfl
  intro h₁ tk₁ S₀
  generalize hL : hp.objs.size = L at S₀ ⊢
  have S₁ : Sx hp hp L (bindL (fun y => (scopeOf (stmtAt 33)).names.lookup y) [("rows", .ref rl), ("held", .ref hl)] fun _ => none) [(L + 2, IsC none), (L + 1, IsC none)] h₁ := S₀
  clear S₀
  change wpAny _ (A.deeper (toldEnv L)) (execs _ (toldEnv L)) _ (fun e s' => wpAny _ (A.deeper (toldEnv L)) (leaving (toldEnv L) e) _ _ s') _
  refine wpAny_execs_cons ?_
  refine PyProof.Rows.Assign_Tuple ?_
  walk_at "mm"
  rename Sx _ _ _ _ _ _ => S₂
  refine asg_tup S₂ (.inr (by walk_at "mem")) O.handled rfl rfl ?_
  intro h₃ S₃
  walk_at "mm"
  rename_i ST _ _ GO _ _ TP _ _ _ _
  refine st_cell (c := L + 1) (v₀ := none) S₃ rfl (.tail (.tail (.tail (.tail (.tail .head))))) ?_
  intro h₄ S₄
  walk_at "mm"
  rename Sx _ _ _ _ _ _ => S₅
  have hg := hh.keeps S₅.keep
  have S₆ := S₅.sub (mu' := [(TP, IsL []), (GO, IsL []), (ST, IsL []), (L + 2, IsC none), (L + 1, IsC (some (.ref ST)))]) (by walk_at "sub")
  refine iter_of_list S₆ (.inl hh.isList) ?_
  intro it h₇ S₇
  have lh : has.length = held.length := hhr.len
  refine for_any (iter_list (vs := has.map .ref) O.handled)
    (fun i g' m' mu' gs => gs = gs₀ ∧ m' "rows" = some (.ref rl) ∧ m' "held" = some (.ref hl) ∧ m' "gone" = some (.ref GO) ∧ m' "tops" = some (.ref TP) ∧
      Keep hp g' ∧ (stayR (held.take i)).length ≤ 40 * i ∧ ∃ as rv, RowsAt g' as (stayR (held.take i)) ∧ mu' = [(TP, IsL []), (GO, IsL []), (ST, IsL (as.map .ref)), (L + 2, IsC rv), (L + 1, IsC (some (.ref ST)))])
    S₇ ⟨rfl, by walk_at "lk", by walk_at "lk", by walk_at "lk", by walk_at "lk", Keep.rfl', Nat.zero_le _, [], none, .nil, rfl⟩ (fun i g m mu gs hJ => .inl ((hh.keeps hJ.2.2.2.2.2.1).isList)) ?_ ?_
  · intro i v g' m' mu' gs h tk E' hi hv hJ hk S'
    obtain ⟨rfl, hm1, hm2, hm3, hm4, kg, hsl, as, rv, hRA, rfl⟩ := hJ
    have hi' : i < held.length := by rw [List.length_map, lh] at hi; exact hi
    obtain ⟨r, hr1, hr2⟩ := hhr.at (List.getElem?_eq_getElem hi')
    have hv' : v = .ref r := by
      rw [List.getElem?_map, hr1] at hv
      exact (Option.some.inj hv).symm
    subst hv'
    have hstep : stayR (held.take (i + 1)) = stayStep (stayR (held.take i)) held[i] := by
      unfold stayR
      rw [List.take_add_one, List.getElem?_eq_getElem hi', List.foldl_append]; rfl
    rw [hstep]
    have hw : wt held[i] ≤ 40 := w2 _ (List.getElem_mem hi')
    generalize held[i] = row at hr2 hw
    generalize stayR (held.take i) = sr at hRA hsl
    have hr3 := hr2.keeps kg
    have hlen : row.length ≤ 40 := Nat.le_trans (len_le_wt _) hw
    refine wpAny_assign_Name ?_
    refine st_cell (c := L + 2) S' rfl (.tail (.tail (.tail (.tail .head)))) ?_
    intro h₈ S₈
    refine wpAny_execs_cons ?_
    walk_at "mm"
    refine comp_eval (cl := [("stay", L + 1), ("row", L + 2)]) (by rfl) ?_
    walk_at "mm"
    refine len_ss (hr3.keeps S₈.keep) (by omega) ?_
    intro t₉ tk₉
    walk_at "mm"
    refine mk_rng3 S₈ (by decide) ?_ ?_
    · unfold Builtin.divisionGoesByPylong
      dsimp only
      rw [Bool.and_eq_false_iff]
      exact .inl (by decide)
    intro ra h₁₀ tk₁₀ S₁₀
    walk_at "mm"
    refine iter_of_rng S₁₀ (small_down (by omega)) ?_
    intro it2 h₁₁ S₁₁
    rw [size_down, rit0] at S₁₁
    refine comp_run (iter_rng (x := (row.length : Int)) (c := -1) (n := row.length) O.handled)
      (fun j ys g2 mu2 gs2 => gs2 = gs ∧ mu2 = [(it, IsLIt hl (i + 1)), (TP, IsL []), (GO, IsL []), (ST, IsL (as.map .ref)), (L + 2, IsC (some (.ref r))), (L + 1, IsC (some (.ref ST)))] ∧ Keep g' g2 ∧
        ∃ bs, ys = bs.map .ref ∧ RowsAt g2 bs (((downs row).take j).filter fun q => decide (q ∉ sr)))
      S₁₁ ⟨rfl, rfl, Keep.rfl', [], rfl, .nil⟩ ?_ ?_ ?_ (by rw [sizeLine_eq]; omega)
    · rintro j ys g2 mu2 gs2 ⟨rfl, rfl, k2, bs, rfl, hB⟩
      refine ⟨trivial, ?_⟩
      rw [List.length_map, hB.len]
      exact Nat.le_trans (List.length_filter_le _ _) (List.length_take_le _ _)
    · intro j v ys g2 mc2 mu2 gs2 h2 tk2 acc Cc E2 hj hv2 hJ2 hk2 S2
      obtain ⟨rfl, rfl, k2, bs, rfl, hB⟩ := hJ2
      obtain ⟨tv, rfl⟩ := hv2
      have hkv : (row.length : Int) + (j : Int) * -1 = ((row.length - j : Nat) : Int) := by omega
      rw [hkv] at S2
      have hdj : (downs row)[j]? = some (row.take (row.length - j)) := by simp [downs, hj]
      rw [take_filter_step hdj]
      refine ifs_one ?_
      walk_at "mm"
      refine cut_ss (k := row.length - j) S2 (hr3.keeps (k2.trans S2.keep)) (by rw [sizeLine_eq]; omega) ?_
      intro r2 h12 S12
      walk_at "mm"
      refine notin_rs (by walk_at "ok") (S12.lAt (by walk_at "mem")) (hRA.keeps (k2.trans S12.keep)) (S12.sAt (by walk_at "mem")) ?_
      walk_at "mm"
      by_cases hin : row.take (row.length - j) ∈ sr
      · rw [decide_eq_true hin]
        refine ite_neg (by decide) ?_
        rw [if_neg (by simp [hin]), List.append_nil]
        exact ⟨_, _, _, _, _, _, rfl, Keep.rfl', S12.sub (by walk_at "sub"), rfl, rfl, k2, bs, rfl, hB⟩
      · rw [decide_eq_false hin]
        refine ite_pos rfl ?_
        walk_at "mm"
        have S13 := S12.sub (mu' := (it2, IsRIt _ _ _) :: (acc, IsL (bs.map .ref)) :: (L, IsNs m') :: [(it, IsLIt hl (i + 1)), (TP, IsL []), (GO, IsL []), (ST, IsL (as.map .ref)), (L + 2, IsC (some (.ref r))), (L + 1, IsC (some (.ref ST)))]) (by walk_at "sub")
        refine cut_ss (k := row.length - j) S13 (hr3.keeps (k2.trans S13.keep)) (by rw [sizeLine_eq]; omega) ?_
        intro r3 h14 S14
        obtain ⟨g3, k3, S15, o3, e3, p3⟩ := S14.settle
        rw [if_pos (by simp [hin])]
        exact ⟨_, _, _, _, _, _, rfl, k3, S15, rfl, rfl, k2.trans k3, bs ++ [r3], by simp, (hB.keeps k3).app (.cons ⟨o3, e3, p3⟩ .nil)⟩
    · intro ys g2 mu2 gs2 h2 tk2 acc hJ2 hk2 S2
      obtain ⟨rfl, rfl, k2, bs, rfl, hB⟩ := hJ2
      have hdl : (downs row).take row.length = downs row := List.take_of_length_le (by simp [downs])
      rw [hdl] at hB
      walk_at "mm"
      refine l_extend S2 (.tail (.tail (.tail (.tail .head)))) (S2.lAt (by walk_at "mem")) ?_ ?_
      · rw [List.length_map, List.length_map, hRA.len, hB.len, sizeLine_eq]
        have := List.length_filter_le (fun q => decide (q ∉ sr)) (downs row)
        have : (downs row).length = row.length := by simp [downs]
        omega
      intro h3 S3
      rw [← List.map_append] at S3
      walk_at "mm"
      refine ⟨_, _, _, _, _, _, rfl, k2, S3.sub (by walk_at "sub"), rfl, by walk_at "lk", by walk_at "lk", by walk_at "lk", by walk_at "lk", kg.trans k2, ?_, as ++ bs, _, (hRA.keeps k2).app hB, rfl⟩
      have := stayStep_len sr row
      omega
  · intro g1 m1 mu1 gs1 h1 tk1 hJ hk1 S1
    obtain ⟨rfl, hm1, hm2, hm3, hm4, kg, hsl, as, rv, hRA, rfl⟩ := hJ
    have hall : held.take (List.map Value.ref has).length = held := List.take_of_length_le (by rw [List.length_map, lh]; exact Nat.le_refl _)
    rw [hall] at hRA hsl
    rw [List.length_map, lh] at hsl
    generalize hst : stayR held = sr at hRA hsl
    walk_at "mm"
    refine iter_of_list S1 (.inl ((hr.keeps kg).isList)) ?_
    intro it h7 S7
    have lr : ras.length = rows.length := hrr.len
    refine for_any (iter_list (vs := ras.map .ref) O.handled)
      (fun i g' m' mu' gs => gs = gs1 ∧ m' "gone" = some (.ref GO) ∧ m' "tops" = some (.ref TP) ∧ Keep g1 g' ∧ ∃ ga ta rv, RowsAt g' ga (goneR sr (rows.take i)).1 ∧ RowsAt g' ta (goneR sr (rows.take i)).2 ∧
        (goneR sr (rows.take i)).1.length ≤ i ∧ (goneR sr (rows.take i)).2.length ≤ i ∧
        mu' = [(TP, IsL (ta.map .ref)), (GO, IsL (ga.map .ref)), (ST, IsL (as.map .ref)), (L + 2, IsC rv), (L + 1, IsC (some (.ref ST)))])
      S7 ⟨rfl, by walk_at "lk", by walk_at "lk", Keep.rfl', [], [], rv, .nil, .nil, Nat.le_refl _, Nat.le_refl _, rfl⟩ (fun i g m mu gs hJ => .inl ((hr.keeps (kg.trans hJ.2.2.2.1)).isList)) ?_ ?_
    · intro i v g' m' mu' gs h tk E' hi hv hJ hk S'
      obtain ⟨rfl, hn1, hn2, kg', ga, ta, rv', hGA, hTA, l1, l2, rfl⟩ := hJ
      have hi' : i < rows.length := by rw [List.length_map, lr] at hi; exact hi
      obtain ⟨r, hr1, hr2⟩ := hrr.at (List.getElem?_eq_getElem hi')
      have hv' : v = .ref r := by
        rw [List.getElem?_map, hr1] at hv
        exact (Option.some.inj hv).symm
      subst hv'
      have hstep : goneR sr (rows.take (i + 1)) = goneStep sr (goneR sr (rows.take i)) rows[i] := by
        unfold goneR
        rw [List.take_add_one, List.getElem?_eq_getElem hi', List.foldl_append]; rfl
      rw [hstep]
      have hw : wt rows[i] ≤ 40 := w1 _ (List.getElem_mem hi')
      generalize rows[i] = row at hr2 hw
      generalize goneR sr (rows.take i) = gt at hGA hTA l1 l2
      have hr3 := hr2.keeps (kg.trans kg')
      have hlen : row.length ≤ 40 := Nat.le_trans (len_le_wt _) hw
      refine wpAny_assign_Name ?_
      refine st_cell (c := L + 2) S' rfl (.tail (.tail (.tail (.tail .head)))) ?_
      intro h₈ S₈
      refine wpAny_execs_cons ?_
      refine comp_to (cl := [("stay", L + 1), ("row", L + 2)]) (by rfl) ?_
      walk_at "mm"
      refine len_ss (hr3.keeps S₈.keep) (by omega) ?_
      intro t₉ tk₉
      walk_at "mm"
      refine mk_rng2 S₈ ?_
      intro ra h₁₀ tk₁₀ S₁₀
      walk_at "mm"
      refine iter_of_rng S₁₀ (small_up (by omega) (by omega) (by omega) (by omega)) ?_
      intro it2 h₁₁ S₁₁
      rw [size_up, rit0] at S₁₁
      refine comp_run_to (iter_rng (x := 1) (c := 1) (n := row.length) O.handled)
        (fun j ys g2 mu2 gs2 => gs2 = gs ∧ mu2 = [(it, IsLIt rl (i + 1)), (TP, IsL (ta.map .ref)), (GO, IsL (ga.map .ref)), (ST, IsL (as.map .ref)), (L + 2, IsC (some (.ref r))), (L + 1, IsC (some (.ref ST)))] ∧ Keep g' g2 ∧
          ∃ bs, ys = bs.map .ref ∧ RowsAt g2 bs (((ups row).take j).filter fun q => decide (q ∉ sr)))
        S₁₁ ⟨rfl, rfl, Keep.rfl', [], rfl, .nil⟩ ?_ ?_ ?_ (by rw [sizeLine_eq]; omega)
      · rintro j ys g2 mu2 gs2 ⟨rfl, rfl, k2, bs, rfl, hB⟩
        refine ⟨trivial, ?_⟩
        rw [List.length_map, hB.len]
        exact Nat.le_trans (List.length_filter_le _ _) (List.length_take_le _ _)
      · intro j v ys g2 mc2 mu2 gs2 h2 tk2 acc Cc E2 hj hv2 hJ2 hk2 S2
        obtain ⟨rfl, rfl, k2, bs, rfl, hB⟩ := hJ2
        obtain ⟨tv, rfl⟩ := hv2
        have hkv : (1 : Int) + (j : Int) * 1 = ((1 + j : Nat) : Int) := by omega
        rw [hkv] at S2
        have hdj : (ups row)[j]? = some (row.take (1 + j)) := by simp [ups, hj]
        rw [take_filter_step hdj]
        refine ifs_one ?_
        walk_at "mm"
        refine cut_ss (k := 1 + j) S2 (hr3.keeps (k2.trans S2.keep)) (by rw [sizeLine_eq]; omega) ?_
        intro r2 h12 S12
        walk_at "mm"
        refine notin_rs (by walk_at "ok") (S12.lAt (by walk_at "mem")) (hRA.keeps ((kg'.trans k2).trans S12.keep)) (S12.sAt (by walk_at "mem")) ?_
        walk_at "mm"
        by_cases hin : row.take (1 + j) ∈ sr
        · rw [decide_eq_true hin]
          refine ite_neg (by decide) ?_
          rw [if_neg (by simp [hin]), List.append_nil]
          exact ⟨_, _, _, _, _, _, rfl, Keep.rfl', S12.sub (by walk_at "sub"), rfl, rfl, k2, bs, rfl, hB⟩
        · rw [decide_eq_false hin]
          refine ite_pos rfl ?_
          walk_at "mm"
          have S13 := S12.sub (mu' := (it2, IsRIt _ _ _) :: (acc, IsL (bs.map .ref)) :: (L, IsNs m') :: [(it, IsLIt rl (i + 1)), (TP, IsL (ta.map .ref)), (GO, IsL (ga.map .ref)), (ST, IsL (as.map .ref)), (L + 2, IsC (some (.ref r))), (L + 1, IsC (some (.ref ST)))]) (by walk_at "sub")
          refine cut_ss (k := 1 + j) S13 (hr3.keeps (k2.trans S13.keep)) (by rw [sizeLine_eq]; omega) ?_
          intro r3 h14 S14
          obtain ⟨g3, k3, S15, o3, e3, p3⟩ := S14.settle
          rw [if_pos (by simp [hin])]
          exact ⟨_, _, _, _, _, _, rfl, k3, S15, rfl, rfl, k2.trans k3, bs ++ [r3], by simp, (hB.keeps k3).app (.cons ⟨o3, e3, p3⟩ .nil)⟩
      · intro ys g2 mu2 gs2 h2 tk2 acc hJ2 hk2 S2
        obtain ⟨rfl, rfl, k2, bs, rfl, hB⟩ := hJ2
        have hdl : (ups row).take row.length = ups row := List.take_of_length_le (by simp [ups])
        rw [hdl] at hB
        have hB : RowsAt g2 bs (freeR sr row) := hB
        walk_at "mm"
        refine in_rs (by walk_at "ok") (S2.lAt (by walk_at "mem")) (hB.keeps S2.keep) (hr3.keeps (k2.trans S2.keep)) ?_
        walk_at "mm"
        by_cases c1 : row ∈ freeR sr row
        · rw [decide_eq_true c1]
          refine ite_pos rfl ?_
          walk_at "mm"
          refine notin_rs (by walk_at "ok") (S2.lAt (by walk_at "mem")) (hGA.keeps (k2.trans S2.keep)) (hr3.keeps (k2.trans S2.keep)) ?_
          walk_at "mm"
          by_cases c2 : row ∈ gt.1
          · rw [decide_eq_true c2]
            refine ite_neg (by decide) ?_
            walk_at "mm"
            have e : goneStep sr gt row = gt := if_neg fun q => q.2 c2
            rw [e]
            exact ⟨_, _, _, _, _, _, rfl, k2, S2.sub (by walk_at "sub"), rfl, by walk_at "lk", by walk_at "lk", kg'.trans k2, ga, ta, _, hGA.keeps k2, hTA.keeps k2, by omega, by omega, rfl⟩
          · rw [decide_eq_false c2]
            refine ite_pos rfl ?_
            have e : goneStep sr gt row = (gt.1 ++ [row], gt.2 ++ [(freeR sr row).headD []]) := if_pos ⟨c1, c2⟩
            rw [e]
            walk_at "mm"
            have lg := hGA.len
            have lt := hTA.len
            refine l_append (vs := ga.map .ref) S2 (.tail (.tail (.tail .head))) (by rw [List.length_map, sizeLine_eq]; omega) ?_
            intro h3 S3
            walk_at "mm"
            obtain ⟨b0, bs', f0, fs', rfl, hfe, hb0⟩ : ∃ b0 bs' f0 fs', bs = b0 :: bs' ∧ freeR sr row = f0 :: fs' ∧ SAt g2 b0 f0 := by
              cases hB' : freeR sr row with
              | nil => rw [hB'] at c1; cases c1
              | cons f0 fs' =>
                rw [hB'] at hB
                cases hB with
                | cons y _ => exact ⟨_, _, _, _, rfl, rfl, y⟩
            rw [hfe]
            refine it_l (k := 0) (v := .ref b0) (S3.lAt (vs := (b0 :: bs').map .ref) (by walk_at "mem")) (by omega) rfl ?_
            walk_at "mm"
            refine l_append (vs := ta.map .ref) S3 (.tail (.tail .head)) (by rw [List.length_map, sizeLine_eq]; omega) ?_
            intro h4 S4
            have e1 : ∀ (l : List Addr) (a : Addr), l.map Value.ref ++ [Value.ref a] = (l ++ [a]).map .ref := fun l a => by simp
            rw [e1, e1] at S4
            walk_at "mm"
            refine ⟨_, _, _, _, _, _, rfl, k2, S4.sub (by walk_at "sub"), rfl, by walk_at "lk", by walk_at "lk", kg'.trans k2, ga ++ [r], ta ++ [b0], _, (hGA.keeps k2).app (.cons (hr3.keeps k2) .nil), (hTA.keeps k2).app (.cons hb0 .nil), ?_, ?_, rfl⟩
            · show (gt.1 ++ [row]).length ≤ _
              rw [List.length_append, List.length_singleton]; omega
            · show (gt.2 ++ [_]).length ≤ _
              rw [List.length_append, List.length_singleton]; omega
        · rw [decide_eq_false c1]
          refine ite_neg (by decide) ?_
          walk_at "mm"
          have e : goneStep sr gt row = gt := if_neg fun q => c1 q.1
          rw [e]
          exact ⟨_, _, _, _, _, _, rfl, k2, S2.sub (by walk_at "sub"), rfl, by walk_at "lk", by walk_at "lk", kg'.trans k2, ga, ta, _, hGA.keeps k2, hTA.keeps k2, by omega, by omega, rfl⟩
    · intro g2 m2 mu2 gs2 h2 tk2 hJ2 hk2 S2
      obtain ⟨rfl, hn1, hn2, kg2, ga, ta, rv', hGA, hTA, l1, l2, rfl⟩ := hJ2
      have hall2 : rows.take (List.map Value.ref ras).length = rows := List.take_of_length_le (by rw [List.length_map, lr]; exact Nat.le_refl _)
      rw [hall2] at hGA hTA l1 l2
      have hgw := gone_wt (st := sr) rows ([], []) w1 (fun _ hb => nomatch hb) (fun _ hb => nomatch hb)
      have hsw := stay_wt w2
      rw [hst] at hsw
      change (∀ q ∈ (goneR sr rows).1, wt q ≤ 40) ∧ (∀ q ∈ (goneR sr rows).2, wt q ≤ 40) at hgw
      have htold : toldF rows held = [sr.map pathOf, (goneR sr rows).1.map pathOf, (goneR sr rows).2.map pathOf] := by unfold toldF; rw [hst]
      generalize goneR sr rows = gt at hGA hTA l1 l2 hgw htold
      walk_at "mm"
      refine comp_eval (cl := []) (by rfl) ?_
      walk_at "mm"
      rename_i LS h3 S3
      refine iter_of_list S3 (.inr (by walk_at "mem")) ?_
      intro it2 h4 S4
      have parts : ∀ (j : Nat) (v : Value), [Value.ref ST, .ref GO, .ref TP][j]? = some v → ∃ P xs rs, v = .ref P ∧ (P, IsL (xs.map .ref)) ∈ ([(LS, IsL [Value.ref ST, .ref GO, .ref TP]), (TP, IsL (ta.map .ref)), (GO, IsL (ga.map .ref)), (ST, IsL (as.map .ref)), (L + 2, IsC rv'), (L + 1, IsC (some (.ref ST)))] : Mut) ∧
          RowsAt g2 xs rs ∧ (toldF rows held)[j]? = some (rs.map pathOf) ∧ (∀ q ∈ rs, wt q ≤ 40) ∧ rs.length ≤ 400 := by
        intro j v hv
        rw [htold]
        match j, hv with
        | 0, hv => cases hv; exact ⟨ST, as, sr, rfl, by walk_at "mem", hRA.keeps kg2, rfl, hsw, by omega⟩
        | 1, hv => cases hv; exact ⟨GO, ga, gt.1, rfl, by walk_at "mem", hGA, rfl, hgw.1, by rw [List.length_map, lr] at l1; omega⟩
        | 2, hv => cases hv; exact ⟨TP, ta, gt.2, rfl, by walk_at "mem", hTA, rfl, hgw.2, by rw [List.length_map, lr] at l2; omega⟩
      have hlen3 : (toldF rows held).length = 3 := by rw [htold]; rfl
      generalize toldF rows held = told at parts hlen3 h
      refine comp_run (iter_list (vs := [Value.ref ST, .ref GO, .ref TP]) O.handled)
        (fun j ys g3 mu3 gs3 => gs3 = gs2 ∧ mu3 = [(LS, IsL [Value.ref ST, .ref GO, .ref TP]), (TP, IsL (ta.map .ref)), (GO, IsL (ga.map .ref)), (ST, IsL (as.map .ref)), (L + 2, IsC rv'), (L + 1, IsC (some (.ref ST)))] ∧ Keep g2 g3 ∧
          ∃ bs, ys = bs.map .ref ∧ RowsAt g3 bs (told.take j))
        S4 ⟨rfl, rfl, Keep.rfl', [], rfl, .nil⟩ ?_ ?_ ?_ (by rw [sizeLine_eq]; show 3 ≤ _; decide)
      · rintro j ys g3 mu3 gs3 ⟨rfl, rfl, k3, bs, rfl, hB⟩
        refine ⟨.inr (by walk_at "mem"), ?_⟩
        rw [List.length_map, hB.len]
        exact List.length_take_le _ _
      · intro j v ys g3 mc5 mu3 gs3 h5 tk5 acc Cc E5 hj hv5 hJ5 hk5 S5
        obtain ⟨rfl, rfl, k3, bs, rfl, hB⟩ := hJ5
        obtain ⟨P, xs, rs, rfl, hP, hxs, htj, hrw, hrl⟩ := parts j v hv5
        refine ifs_nil ?_
        refine ite_pos rfl ?_
        refine comp_eval (cl := []) (by rfl) ?_
        walk_at "mm"
        have hP' : ∀ p1 p2 p3 : Addr × (Obj → Prop), (P, IsL (xs.map .ref)) ∈ p1 :: p2 :: p3 :: ([(LS, IsL [Value.ref ST, .ref GO, .ref TP]), (TP, IsL (ta.map .ref)), (GO, IsL (ga.map .ref)), (ST, IsL (as.map .ref)), (L + 2, IsC rv'), (L + 1, IsC (some (.ref ST)))] : Mut) := fun p1 p2 p3 => .tail _ (.tail _ (.tail _ hP))
        refine iter_of_list S5 (.inr (hP' _ _ _)) ?_
        intro it3 h6 S6
        have lx : xs.length = rs.length := hxs.len
        refine comp_run (iter_list (vs := xs.map .ref) O.handled)
          (fun i ys g4 mu4 gs4 => gs4 = gs3 ∧ mu4 = (it2, IsLIt LS (j + 1)) :: (acc, IsL (bs.map .ref)) :: (L, IsNs m2) :: [(LS, IsL [Value.ref ST, .ref GO, .ref TP]), (TP, IsL (ta.map .ref)), (GO, IsL (ga.map .ref)), (ST, IsL (as.map .ref)), (L + 2, IsC rv'), (L + 1, IsC (some (.ref ST)))] ∧ Keep g3 g4 ∧
            ∃ l : List (Str × Tok), ys = strValues l ∧ l.map (·.1) = (rs.take i).map pathOf)
          S6 ⟨rfl, rfl, Keep.rfl', [], rfl, rfl⟩ ?_ ?_ ?_ (by rw [List.length_map, lx, sizeLine_eq]; omega)
        · rintro i ys g4 mu4 gs4 ⟨rfl, rfl, k4, l, rfl, hl4⟩
          refine ⟨.inr (hP' _ _ _), ?_⟩
          have := congrArg List.length hl4
          rw [List.length_map, List.length_map] at this
          rw [strValues_length, this]
          exact List.length_take_le _ _
        · intro i v ys g4 mc6 mu4 gs4 h7 tk7 acc2 Cc2 E7 hi7 hv7 hJ7 hk7 S7
          obtain ⟨rfl, rfl, k4, l, rfl, hl4⟩ := hJ7
          have hi8 : i < rs.length := by rw [List.length_map, lx] at hi7; exact hi7
          obtain ⟨x, hx1, hx2⟩ := hxs.at (List.getElem?_eq_getElem hi8)
          have hv8 : v = .ref x := by
            rw [List.getElem?_map, hx1] at hv7
            exact (Option.some.inj hv7).symm
          subst hv8
          have hw8 := hrw _ (List.getElem_mem hi8)
          have htk : (rs.take (i + 1)).map pathOf = (rs.take i).map pathOf ++ [pathOf rs[i]] := by rw [List.take_add_one, List.getElem?_eq_getElem hi8, List.map_append]; rfl
          rw [htk]
          generalize rs[i] = row at hx2 hw8
          have hjl := join_len hw8
          refine ifs_nil ?_
          refine ite_pos rfl ?_
          walk_at "mm"
          refine join_at (hx2.keeps ((k3.trans k4).trans S7.keep)) (by omega) (by decide) ?_
          intro t9 tk9
          have hjl' : (Txt.join "/" row).length ≤ 4096 := by omega
          have hpath : ("/" ++ Txt.join "/" row : Str) = pathOf row := rfl
          generalize Txt.join "/" row = J at hjl' hpath ⊢
          walk_at "mm"
          rw [hpath]
          refine ⟨_, _, _, _, _, _, rfl, Keep.rfl', S7, rfl, rfl, k4, l ++ [(pathOf row, _)], (strValues_append _ _ _).symm, ?_⟩
          rw [List.map_append, hl4]; rfl
        · intro ys g4 mu4 gs4 h7 tk7 acc2 hJ7 hk7 S7
          obtain ⟨rfl, rfl, k4, l, rfl, hl4⟩ := hJ7
          rw [show rs.take (List.map Value.ref xs).length = rs from List.take_of_length_le (by rw [List.length_map, lx]; exact Nat.le_refl _)] at hl4
          have S8 := S7.weaken (P' := IsS (rs.map pathOf)) .head fun o p => ⟨l, hl4, p⟩
          obtain ⟨g5, k5, S9, o5, e5, p5⟩ := S8.settle
          refine ⟨_, _, _, _, _, _, rfl, k4.trans k5, S9, rfl, rfl, k3.trans (k4.trans k5), bs ++ [acc2], by simp, ?_⟩
          rw [List.take_add_one, htj]
          exact (hB.keeps (k4.trans k5)).app (.cons ⟨o5, e5, p5⟩ .nil)
      · intro ys g3 mu3 gs3 h5 tk5 acc hJ5 hk5 S5
        obtain ⟨rfl, rfl, k3, bs, rfl, hB⟩ := hJ5
        rw [show told.take [Value.ref ST, .ref GO, .ref TP].length = told from List.take_of_length_le (by rw [hlen3]; exact Nat.le_refl _)] at hB
        exact h acc bs _ _ S5.old (S5.lAt (by walk_at "mem")) (hB.keeps S5.keep)
theorem told_c (KK : KF K) (S : Sx g₀ g L m mu hp) {rl hl : Addr} {ras has : List Addr} {rows held : List (List Str)} (C : Cx K g₀) (O : Ok A 6) (hr : LAt hp rl (ras.map .ref)) (hrr : RowsAt hp ras rows) (hh : LAt hp hl (has.map .ref)) (hhr : RowsAt hp has held)
    (n1 : rows.length ≤ 8) (n2 : held.length ≤ 8) (w1 : ∀ r ∈ rows, wt r ≤ 40) (w2 : ∀ r ∈ held, wt r ≤ 40)
    (h : ∀ r as h' tk, Sx g₀ g L m mu h' → LAt h' r (as.map .ref) → RowsAt h' as (toldF rows held) → Q (.ref r) ⟨h', gs₀, dr, tk, os⟩) :
    wpAny (model prog w) A (call (.ref 226) [.ref rl, .ref hl]) Q E ⟨hp, gs₀, dr, tk₀, os⟩ :=
  wpAny_call (told_ok KK (C.keeps S.old) O hr hrr hh hhr n1 n2 w1 w2 fun r as h' tk k l1 l2 => h r as h' tk (S.grow k) l1 l2)
end
end
section
/-! ## tuple(map(fspath, texts)) -/
theorem mro_map : mroOf (.type "map") = pure [.type "map", .type "object"] := by rw [mroOf_type]; kernel_rfl
theorem lookup_map_new : typeLookup (.type "map") "__new__" = pure (some (.builtin "map.__new__")) := by rw [typeLookup_type, builtinLookup_eq_fast]; kernel_rfl
theorem slot_map_init : Slot "map" "__init__" "object.__init__" :=
  .of (owner := "object") (n := "__init__") (by rw [typeLookup_type, builtinLookup_eq_fast]; kernel_rfl) (by decide +kernel) (by decide +kernel) (by decide +kernel)
    (by first | exact .inl (by decide +kernel) | exact .inr (by decide +kernel)) (by rw [isSubtype_type]; kernel_rfl)
theorem slot_map_next : Slot "map" "__next__" "map.__next__" :=
  .of (owner := "map") (n := "__next__") (by rw [typeLookup_type, builtinLookup_eq_fast]; kernel_rfl) (by decide +kernel) (by decide +kernel) (by decide +kernel)
    (by first | exact .inl (by decide +kernel) | exact .inr (by decide +kernel)) (by rw [isSubtype_type]; kernel_rfl)
theorem slot_map_iter : Slot "map" "__iter__" "map.__iter__" :=
  .of (owner := "map") (n := "__iter__") (by rw [typeLookup_type, builtinLookup_eq_fast]; kernel_rfl) (by decide +kernel) (by decide +kernel) (by decide +kernel)
    (by first | exact .inl (by decide +kernel) | exact .inr (by decide +kernel)) (by rw [isSubtype_type]; kernel_rfl)
theorem entry_map_iter : entryFor table "map.__iter__" = some Builtin.«dict_keyiterator.__iter__» :=
  entryFor_alias (id' := "dict_keyiterator.__iter__") (by kernel_rfl) (by first | rfl | decide +kernel | (unfold String.splitOn; simp +decide [String.splitOnAux])) (by decide +kernel) (by kernel_rfl)
theorem entry_map_new : entryFor table "map.__new__" = some Builtin.«map.__new__» := entryFor_of_fast (by kernel_rfl)
theorem entry_map_next : entryFor table "map.__next__" = some Builtin.«map.__next__» := entryFor_of_fast (by kernel_rfl)
theorem args_map_next (a : Value) : argsOk "map.__next__" ⟨[a], []⟩ := by unfold argsOk; kernel_rfl
theorem args_map_iter (a : Value) : argsOk "map.__iter__" ⟨[a], []⟩ := by unfold argsOk; kernel_rfl
theorem called_map : TypeCalled "map" "map.__new__" "object.__init__" :=
  ⟨by decide +kernel, by decide +kernel, ⟨_, _, mro_map⟩, madeBy_type mro_map lookup_map_new (by decide +kernel), by decide +kernel, by rw [isSubtype_type]; kernel_rfl, slot_map_init⟩
theorem typeCall_map_2 (a b : Value) : checkTypeCall "map" ⟨[a, b], []⟩ = pure () := by kernel_rfl
theorem newCall_map_2 (a b : Value) : checkBuiltinCall "map.__new__" ⟨[.type "map", a, b], []⟩ = pure () := by kernel_rfl
theorem sub_map : isSubtype (.type "map") (.type "map") = pure true := by rw [isSubtype_type]; kernel_rfl
theorem map_no_len : typeLookup (.type "map") "__len__" = pure none := by rw [typeLookup_type, builtinLookup_eq_fast]; kernel_rfl
theorem map_no_hint : typeLookup (.type "map") "__length_hint__" = pure none := by rw [typeLookup_type, builtinLookup_eq_fast]; kernel_rfl
theorem plain_map_new : plainId "map.__new__" = true := by decide +kernel
end
section
/-! ## tuple(map(fspath, texts)): the walk -/
def mapObj (TI : Addr) : Obj := { cls := .type "map", dict := none, data := .fields #[.ref TI, .ref 94], slots := #[] }
section
variable {K : Frag} {prog : Program} {w : World} {A : Around} {hp : Heap} {gs₀ : Array GenState} {dr : Drawn} {tk₀ : Nat} {os : OsState} {E : Value → Shared → Prop} {g₀ g : Heap} {L a it TI mp : Addr} {m : Str → Option Value} {mu : Mut} {l : List (Str × Tok)}
theorem map_new {Q : Value → Shared → Prop} (S : Sx g₀ g L m mu hp) (hl : ListIn g mu a (strValues l))
    (h : ∀ mp TI it h', Sx g₀ g L m ((it, IsLIt a 0) :: (mp, (· = mapObj TI)) :: (TI, IsT [.ref it]) :: mu) h' → Q (.ref mp) ⟨h', gs₀, dr, tk₀, os⟩) :
    wpAny (model prog w) A (call (.type "map") [.ref 94, .ref a]) Q E ⟨hp, gs₀, dr, tk₀, os⟩ := by
  have hnew : codeAny (model prog w) A.in1 (.call (.builtin "map.__new__") ⟨[.type "map", .ref 94, .ref a], []⟩) (wants (fun obj s₁ => ∃ mp TI it h', obj = .ref mp ∧ s₁ = ⟨h', gs₀, dr, tk₀, os⟩ ∧ Sx g₀ g L m ((it, IsLIt a 0) :: (mp, (· = mapObj TI)) :: (TI, IsT [.ref it]) :: mu) h') E) ⟨hp, gs₀, dr, tk₀, os⟩ := by
    refine codeAny_call_builtin plain_map_new entry_map_new (wpAny_of_eq (newCall_map_2 _ _) ?_)
    have hsub := sub_map
    have hist : isType (.type "map") = pure true := by kernel_rfl
    unfold Builtin.«map.__new__» Builtin.SmallTypes.newClass Builtin.SmallTypes.refuseKeywords Builtin.SmallTypes.iterAll
    dsimp only
    refine wpAny_bind (wpAny_bind (wpAny_of_eq hist ?_))
    simp only [Bool.not_true, Bool.false_eq_true, if_false]
    refine wpAny_bind (wpAny_of_eq hsub ?_)
    simp only [Bool.not_true, Bool.false_eq_true, if_false]
    refine wpAny_pure (wpAny_bind ?_)
    simp only [List.isEmpty_nil, if_true]
    refine wpAny_pure ?_
    rw [if_neg (by simp)]
    simp only [List.drop_succ_cons, List.drop_zero, List.forIn_cons, List.forIn_nil, List.headD_cons]
    refine wpAny_bind (wpAny_bind (wpAny_bind (wpAny_bind (wpAny_holding ?_))))
    refine iter_of_list S hl fun it h₁ S₁ => ?_
    refine wpAny_pure (wpAny_pure (wpAny_pure (wpAny_bind ?_)))
    refine new_tuple (vs := [.ref it]) S₁ ?_
    intro TI h₂ S₂
    show wpAny _ _ (newObj (.type "map") (.fields #[.ref TI, .ref 94]) >>= fun v => ret v) _ _ _
    refine wpAny_bind (wpAny_newObj_type ?_ (by size_fits))
    have S₃ : Sx g₀ g L m ((h₂.objs.size, (· = mapObj TI)) :: (TI, IsT [.ref it]) :: (it, IsLIt a 0) :: mu) (h₂.push (mapObj TI)) := S₂.alloc rfl rfl
    refine wpAny_pure ⟨_, TI, it, _, rfl, rfl, S₃.perm ?_⟩
    refine List.Perm.trans (.cons _ (.swap _ _ _)) ?_
    exact .swap _ _ _
  refine callType_codes (Q₁ := fun obj s₁ => ∃ mp TI it h', obj = .ref mp ∧ s₁ = ⟨h', gs₀, dr, tk₀, os⟩ ∧ Sx g₀ g L m ((it, IsLIt a 0) :: (mp, (· = mapObj TI)) :: (TI, IsT [.ref it]) :: mu) h') called_map (typeCall_map_2 _ _) F.entry_object_init hnew fun obj s₁ h₁ => ?_
  obtain ⟨mp, TI, it, h', rfl, rfl, S'⟩ := h₁
  obtain ⟨o, e, r⟩ := S'.get _ (.tail _ (.head _))
  cases r
  have hT : (⟨h', gs₀, dr, tk₀, os⟩ : Shared).TypeIs (.ref mp) "map" := ⟨_, e, rfl⟩
  exact ⟨hT, F.args_object_init_3 _ _ _, object_init_meets called_map.init.lookup called_map.made (by decide) prog w A.in1 _ ⟨h', gs₀, dr, tk₀, os⟩ ⟨hT, rfl, h mp TI it h' S'⟩⟩
structure MapCond (a mp TI it : Addr) (l : List (Str × Tok)) (g : Heap) (mu : Mut) : Prop where
  mp : (mp, (· = mapObj TI)) ∈ mu
  ti : (TI, IsT [.ref it]) ∈ mu
  src : ListIn g mu a (strValues l)
theorem map_step (KK : KF K) {Q : Value → Shared → Prop} {i : Nat} (hi : i < l.length) (S : Sx g₀ g L m ((it, IsLIt a i) :: mu) hp) (C : Cx K g₀) (O : Ok A 4) (M : MapCond a mp TI it l g mu)
    (h : ∀ t h' tk', Sx g₀ g L m ((it, IsLIt a (i + 1)) :: mu) h' → Q (.str l[i].1 t) ⟨h', gs₀, dr, tk', os⟩) :
    wpAny (model prog w) A (Builtin.«map.__next__» ⟨[.ref mp], []⟩) (fun fin s' => ∃ v, fin = .done (.ret v) ∧ Q v s') E ⟨hp, gs₀, dr, tk₀, os⟩ := by
  obtain ⟨o, e, r⟩ := S.get _ (.tail _ M.mp)
  cases r
  obtain ⟨o2, e2, n2, rfl⟩ := S.get _ (.tail _ M.ti)
  show wpAny _ _ (field (.ref mp) 0 >>= _) _ _ _
  refine wpAny_bind (wpAny_field e rfl (x := .ref TI) rfl ?_)
  refine wpAny_bind (wpAny_seqItems e2 rfl ?_)
  simp only [← Array.forIn_toList, List.forIn_cons, List.forIn_nil]
  refine wpAny_bind (wpAny_bind (wpAny_bind (wpAny_holding ?_)))
  unfold Builtin.SmallTypes.nextOf
  refine wpAny_bind (cs_item (a := a) (vs := strValues l) (by rw [strValues_length]; exact hi) S M.src fun v h₁ hv S₁ => ?_)
  have hv' : v = .str l[i].1 l[i].2 := by
    simp only [strValues, List.getElem?_map, List.getElem?_eq_getElem hi, Option.map_some, Option.some.injEq] at hv
    exact hv.symm
  subst hv'
  refine wpAny_pure (wpAny_pure (wpAny_pure ?_))
  obtain ⟨o3, e3, r3⟩ := S₁.get _ (.tail _ M.mp)
  cases r3
  refine wpAny_bind (wpAny_field e3 rfl (x := .ref 94) rfl ?_)
  refine wpAny_bind (wpAny_holding ?_)
  refine fspath_c KK S₁ C (by walk_at "ok") fun h₂ tk₂ S₂ => ?_
  refine wpAny_bind (wpAny_letGo ?_)
  exact wpAny_pure ⟨_, rfl, h _ h₂ tk₂ S₂⟩
theorem map_end {Q : Value → Shared → Prop} (hh : A.handled = none) (S : Sx g₀ g L m ((it, IsLIt a l.length) :: mu) hp) (M : MapCond a mp TI it l g mu)
    (h : ∀ h₁ h' e, Sx g₀ g L m mu h₁ → NewStop h₁ h' e → E (.ref e) ⟨h', gs₀, dr, tk₀, os⟩) :
    wpAny (model prog w) A (Builtin.«map.__next__» ⟨[.ref mp], []⟩) (fun fin s' => ∃ v, fin = .done (.ret v) ∧ Q v s') E ⟨hp, gs₀, dr, tk₀, os⟩ := by
  obtain ⟨o, e, r⟩ := S.get _ (.tail _ M.mp)
  cases r
  obtain ⟨o2, e2, n2, rfl⟩ := S.get _ (.tail _ M.ti)
  show wpAny _ _ (field (.ref mp) 0 >>= _) _ _ _
  refine wpAny_bind (wpAny_field e rfl (x := .ref TI) rfl ?_)
  refine wpAny_bind (wpAny_seqItems e2 rfl ?_)
  simp only [← Array.forIn_toList, List.forIn_cons, List.forIn_nil]
  refine wpAny_bind (wpAny_bind (wpAny_bind (wpAny_holding ?_)))
  unfold Builtin.SmallTypes.nextOf
  refine wpAny_bind (cs_end (a := a) (vs := strValues l) hh (by rw [strValues_length]; exact S) M.src h)
theorem pull_map (KK : KF K) (O : Ok A 5) : Pull K prog w A mp (fun g _ mu => MapCond a mp TI it l g mu) (fun todo p gs => ∃ i, i ≤ l.length ∧ p = (it, IsLIt a i) ∧ gs = gs₀ ∧ todo = (l.drop i).map (·.1)) (· = gs₀) where
  next := by
    rintro g₀ g L m mu hp gs dr tk os E Q y todo p ⟨i, hi, rfl, rfl, ht⟩ C S hC hQ
    have hlt : i < l.length := by
      rcases Nat.lt_or_ge i l.length with h | h
      · exact h
      · rw [List.drop_eq_nil_of_le h] at ht; cases ht
    rw [List.drop_eq_getElem_cons hlt, List.map_cons] at ht
    obtain ⟨rfl, rfl⟩ := List.cons.inj ht
    obtain ⟨o, e, r⟩ := S.get _ (.tail _ hC.mp)
    cases r
    have hT : (⟨hp, gs, dr, tk, os⟩ : Shared).TypeIs (.ref mp) "map" := ⟨_, e, rfl⟩
    unfold pyNext
    refine wpAny_bind (wpAny_attempt (wpAny_callSpecial?_slot (name := Str.ofString "__next__") hT slot_map_next (wpAny_call_entry slot_map_next hT entry_map_next ?_ (args_map_next _))))
    refine map_step KK hlt S C (by walk_at "ok") hC fun t h' tk' S' => ?_
    exact wpAny_pure (hQ t h' tk' _ _ ⟨i + 1, hlt, rfl, rfl, rfl⟩ S')
  stop := by
    rintro g₀ g L m mu hp gs dr tk os E Q p ⟨i, hi, rfl, rfl, ht⟩ C S hC hQ
    have hin : i = l.length := by
      rcases Nat.lt_or_ge i l.length with h | h
      · rw [List.drop_eq_getElem_cons h] at ht; cases ht
      · omega
    subst hin
    obtain ⟨o, e, r⟩ := S.get _ (.tail _ hC.mp)
    cases r
    have hT : (⟨hp, gs, dr, tk, os⟩ : Shared).TypeIs (.ref mp) "map" := ⟨_, e, rfl⟩
    unfold pyNext
    refine wpAny_bind (wpAny_attempt (wpAny_callSpecial?_slot (name := Str.ofString "__next__") hT slot_map_next (wpAny_call_entry slot_map_next hT entry_map_next ?_ (args_map_next _))))
    refine map_end O.handled S hC fun h₁ h' e' S' hn => ?_
    obtain ⟨kh, he0, oe, vs, a0, he, hc, _⟩ := hn
    refine wpAny_bind (wpAny_isInstance (T := "StopIteration") (b := true) ⟨oe, he, hc⟩ sub_stop_self ?_)
    exact wpAny_pure (hQ h' tk _ rfl (S'.grow kh))
  more := fun p h => ⟨.tail _ h.mp, .tail _ h.ti, h.src.more p⟩
theorem map_iter {Q : Value → Shared → Prop} (e : hp.get? mp = some (mapObj TI)) (h : Q (.ref mp) ⟨hp, gs₀, dr, tk₀, os⟩) : wpAny (model prog w) A (pyIter (.ref mp)) Q E ⟨hp, gs₀, dr, tk₀, os⟩ := by
  have hT : (⟨hp, gs₀, dr, tk₀, os⟩ : Shared).TypeIs (.ref mp) "map" := ⟨_, e, rfl⟩
  refine wpAny_pyIter_slot hT slot_map_iter (wpAny_call_entry slot_map_iter hT entry_map_iter ?_ (args_map_iter _))
  show wpAny _ _ (ret (.ref mp)) _ _ _
  exact wpAny_pure ⟨_, rfl, "map", _, hT, slot_map_next.lookup, h⟩
theorem collect_map (KK : KF K) {Q : List Value → Shared → Prop} (O : Ok A 6) (S : Sx g₀ g L m ((it, IsLIt a 0) :: mu) hp) (C : Cx K g₀) (M : MapCond a mp TI it l g mu) (hn : l.length ≤ sizeLine)
    (h : ∀ l' h' tk', l'.map (·.1) = l.map (·.1) → Sx g₀ g L m mu h' → Q (strValues l') ⟨h', gs₀, dr, tk', os⟩) : wpAny (model prog w) A (collect (.ref mp)) Q E ⟨hp, gs₀, dr, tk₀, os⟩ := by
  unfold collect
  refine wpAny_bind (wpAny_runValue (codeAny_builtin F.entry_proto_collect ?_))
  rw [Around.under_plainId F.plain_proto_collect _]
  show wpAny _ A.in1 (newList [] >>= fun l => again (.builtin "list.__iadd__" ⟨[l, .ref mp], []⟩)) _ _ _
  refine wpAny_bind (new_list S fun a₂ h₁ S₁ => ?_)
  refine wpAny_pure ⟨plainId_quiet F.plain_list_iadd _, codeAny_builtin F.entry_list_iadd ?_⟩
  rw [Around.under_plainId F.plain_list_iadd _]
  show wpAny _ A.in1 (Builtin.List.listExtendWith (.ref a₂) (.ref mp) (.ref a₂)) _ _ _
  have S₁ := (S₁.weaken (P' := IsS []) .head isS_nil).swap
  have hne : a₂ ≠ mp := by
    have nd := S₁.swap.nd
    exact (List.pairwise_cons.mp nd).1 _ (.tail _ (List.mem_map_of_mem (f := fun q : Addr × (Obj → Prop) => q.1) M.mp))
  obtain ⟨o, e, r⟩ := S₁.get _ (.tail _ (.tail _ M.mp))
  cases r
  have hT : (⟨h₁, gs₀, dr, tk₀, os⟩ : Shared).TypeIs (.ref mp) "map" := ⟨_, e, rfl⟩
  unfold Builtin.List.listExtendWith
  refine wpAny_bind (wpAny_typeOf hT ?_)
  have h1 : Builtin.List.listSameRef (.ref a₂) (.ref mp) = false := by simp [Builtin.List.listSameRef, hne]
  have h2 : (Value.type "map" == Value.type "list") = false := by decide
  have h3 : (Value.type "map" == Value.type "tuple") = false := by decide
  simp only [h1, h2, h3, Bool.or_false, Bool.false_eq_true, if_false]
  refine wpAny_bind (map_iter e ?_)
  refine wpAny_bind (wpAny_holding ?_)
  unfold Builtin.List.listLengthHint
  refine wpAny_bind (wpAny_specialOf hT map_no_len ?_)
  show wpAny _ A.in1 (specialOf (Value.ref mp) (Str.ofString "__length_hint__") >>= _) _ _ _
  refine wpAny_bind (wpAny_specialOf hT map_no_hint ?_)
  refine wpAny_pure ?_
  show wpAny _ _ (rule "list.extend.makes-room" >>= fun _ => Builtin.List.listTouch (.ref a₂) >>= fun _ =>
    again (.builtin "list.extend.loop" ⟨[.ref a₂, .ref mp, .ref a₂], []⟩)) _ _ _
  refine wpAny_bind (wpAny_rule (wpAny_bind (touch_l S₁ (.tail _ (.head _)) fun h₃ S₃ => ?_)))
  refine wpAny_pure ⟨plainId_quiet PySem.F.plain_extend_loop _, ?_⟩
  refine extend_loop (pull_map (gs₀ := gs₀) (a := a) (TI := TI) (it := it) (l := l) KK O.in1) C (l.map (·.1)) [] _ gs₀ h₃ _ ⟨0, Nat.zero_le _, rfl, rfl, rfl⟩ S₃ (by simpa using hn) M fun h₄ tk₄ gs₄ hE S₄ => ?_
  subst hE
  obtain ⟨o5, e5, l5, hl5, n5, rfl⟩ := S₄.get _ (.head _)
  show wpAny _ A (load a₂ >>= _) _ _ _
  refine wpAny_bind (wpAny_load e5 ?_)
  refine wpAny_pure ?_
  have := h l5 h₄ tk₄ (by simpa using hl5) S₄.drop
  simpa using this
theorem tuple_map (KK : KF K) {Q : Value → Shared → Prop} (O : Ok A 10) (S : Sx g₀ g L m ((it, IsLIt a 0) :: mu) hp) (C : Cx K g₀) (M : MapCond a mp TI it l g mu) (hn : l.length ≤ sizeLine)
    (h : ∀ T l' h' tk', l'.map (·.1) = l.map (·.1) → Sx g₀ g L m ((T, IsT (strValues l')) :: mu) h' → Q (.ref T) ⟨h', gs₀, dr, tk', os⟩) : wpAny (model prog w) A (call (.type "tuple") [.ref mp]) Q E ⟨hp, gs₀, dr, tk₀, os⟩ := by
  have hnew : codeAny (model prog w) A.in1 (.call (.builtin "tuple.__new__") ⟨[.type "tuple", .ref mp], []⟩) (wants (fun obj s₁ => s₁.TypeIs obj "tuple" ∧ Q obj s₁) E) ⟨hp, gs₀, dr, tk₀, os⟩ := by
    refine codeAny_of_tree ?_
    show wpAny _ A.in1.in1 (do checkBuiltinCall "tuple.__new__" ⟨[.type "tuple", .ref mp], []⟩; again (.builtin "tuple.__new__" ⟨[.type "tuple", .ref mp], []⟩)) _ _ _
    refine wpAny_bind (wpAny_of_eq (F.newCall_tuple_1 _) (wpAny_pure ⟨plainId_quiet F.plain_tuple_new _, codeAny_builtin F.entry_tuple_new ?_⟩))
    rw [Around.under_plainId F.plain_tuple_new _]
    have hsub := sub_tuple_self
    have hinit := init_tuple_lookup
    have hmh := madeHere_tuple
    obtain ⟨o, e, r⟩ := S.get _ (.tail _ M.mp)
    cases r
    have hTI : (⟨hp, gs₀, dr, tk₀, os⟩ : Shared).TypeIs (.ref mp) "map" := ⟨_, e, rfl⟩
    wp_walk using wpAny_typeOf hTI, collect_map KK (Ok.mono (m := 6) (by omega) O.in1.in1) S C M hn
    intro l' h' tk' hl' S'
    show wpAny _ _ (Builtin.Tuple.tupleExact (strValues l').toArray >>= fun v => ret v) _ _ _
    unfold Builtin.Tuple.tupleExact
    have hz : (strValues l').toArray.size ≤ sizeLine := by
      rw [List.size_toArray, strValues_length]
      have := congrArg List.length hl'
      rw [List.length_map, List.length_map] at this
      omega
    refine wpAny_bind (wpAny_newObj_type ?_ hz)
    refine wpAny_pure ?_
    have S₂ : Sx g₀ g L m ((h'.objs.size, IsT (strValues l')) :: mu) (h'.push { cls := .type "tuple", data := .seq (strValues l').toArray }) := S'.alloc rfl ⟨0, rfl⟩
    exact ⟨⟨_, Heap.get?_push_size _ rfl, rfl⟩, h _ l' _ _ hl' S₂⟩
  refine callType_codes (Q₁ := fun obj s₁ => s₁.TypeIs obj "tuple" ∧ Q obj s₁) F.called_tuple (F.typeCall_tuple_1 _) F.entry_object_init hnew fun obj s₁ h₁ => ?_
  exact ⟨h₁.1, F.args_object_init_2 obj _, object_init_meets F.called_tuple.init.lookup F.called_tuple.made (by decide) prog w A.in1 _ s₁ ⟨h₁.1, rfl, h₁.2⟩⟩
end
end
section
/-! ## The set of the one truth: {True} -/
def oneT (led : Bool) : SetTable := ⟨7, #[1], #[], 0, led, 0, true⟩
def byTextB (w : World) : Bool := w.params.followText "set-order"
def IsNo (w : World) (o : Obj) : Prop := o = { cls := .type "set", dict := none, data := .set #[] 0 (.fresh 0 0 (!byTextB w)), slots := #[] }
def oneSet (w : World) (ep : Nat) : Obj := { cls := .type "set", dict := none, data := .set #[(1, .bool true)] ep (oneT (!byTextB w)), slots := #[] }
def IsOne (w : World) (o : Obj) : Prop := ∃ ep, o = oneSet w ep
theorem lay_one (led : Bool) : layNew (.fresh 0 0 led) #[] 1 (.bool true) = (#[(1, .bool true)], oneT led, false, false) := by cases led <;> rfl
section
variable {prog : Program} {w : World} {A : Around} {hp : Heap} {gs₀ : Array GenState} {dr : Drawn} {tk₀ : Nat} {os : OsState} {E : Value → Shared → Prop} {g₀ g : Heap} {L a : Addr} {m : Str → Option Value} {mu mu' : Mut}
theorem hash_true {Q : Int → Shared → Prop} {s : Shared} (h : ∀ tk, Q 1 { s with toks := tk }) : wpAny (model prog w) A (pyHash (.bool true)) Q E s := by
  have hv : [Value.bool true].any Value.onHeap = false := rfl
  have hT : s.TypeIs (.bool true) "bool" := rfl
  show wpAny _ _ (pyHashByItsType (.bool true)) _ _ _
  unfold pyHashByItsType
  refine wpAny_bind ?_
  rw [cRoomFor, if_neg (by rw [hv]; exact Bool.false_ne_true)]
  refine wpAny_pure ?_
  refine wpAny_bind (wpAny_specialOf hT F.slot_bool_hash.lookup ?_)
  show wpAny _ _ (if (some (Value.builtin "int.__hash__") == some Value.none) = true then _ else _) Q E s
  rw [if_neg (by rw [beq_builtin_none]; exact Bool.false_ne_true)]
  refine wpAny_bind (wpAny_specialOf hT F.slot_bool_hash.lookup ?_)
  show wpAny _ _ (callSpecialIfBoundUnlessNone? (.bool true) "__hash__" _ >>= _) Q E s
  refine wpAny_bind (wpAny_callSpecialIfBoundUnlessNone?_slot hT F.slot_bool_hash
    (wpAny_call_entry F.slot_bool_hash hT F.entry_int_hash
      (show wpAny _ _ (do ret (← mkInt 1)) _ _ s from wpAny_ret_mkInt ?_) (F.args_int_hash_1 _)))
  exact wpAny_pure (h _)
theorem one_new {Q : Value → Shared → Prop} (S : Sx g₀ g L m mu hp) (h : ∀ a h', Sx g₀ g L m ((a, IsNo w) :: mu) h' → Q (.ref a) ⟨h', gs₀, dr, tk₀, os⟩) : wpAny (model prog w) A (newSet (.type "set")) Q E ⟨hp, gs₀, dr, tk₀, os⟩ := by
  unfold newSet setsByText
  refine wpAny_bind (wpAny_bind (wpAny_askSetting (wpAny_pure ?_)))
  dsimp only
  simp only [newObj]
  exact wpAny_bind (wpAny_alloc (wpAny_pure (h _ _ (S.alloc rfl rfl))))
theorem one_add0 {Q : Value → Shared → Prop} (S : Sx g₀ g L m mu hp) (u : Up a (IsNo w) (IsOne w) mu mu') (h : ∀ h' tk, Sx g₀ g L m mu' h' → Q .none ⟨h', gs₀, dr, tk, os⟩) : wpAny (model prog w) A (call (.builtin "set.add") [.ref a, .bool true]) Q E ⟨hp, gs₀, dr, tk₀, os⟩ := by
  obtain ⟨o, e, r⟩ := S.get _ u.mem
  cases r
  have hT : (⟨hp, gs₀, dr, tk₀, os⟩ : Shared).TypeIs (.ref a) "set" := ⟨_, e, rfl⟩
  refine wpAny_call_entry F.slot_set_add hT F.entry_set_add ?_ (F.args_set_add_2 _ _)
  unfold Builtin.«set.add» Builtin.Frozenset.oneOther
  simp only [List.isEmpty_nil, bind_assoc]
  unfold Builtin.Frozenset.addrOf setAdd
  refine wpAny_bind (wpAny_pure ?_)
  try dsimp only
  refine wpAny_bind (wpAny_pure ?_)
  try dsimp only
  refine wpAny_bind ?_
  refine wpAny_holding ?_
  refine wpAny_bind (hash_true fun tk => ?_)
  unfold setAddHashed setAddHashedIn
  have hf : (SetTable.fresh 0 0 (!byTextB w)).fits (#[] : Array (Int × Value)).size = true := by cases byTextB w <;> rfl
  refine wpAny_holding (wpAny_bind (wpAny_setState_of (s := ⟨hp, gs₀, dr, tk, os⟩) e rfl hf ?_))
  dsimp only
  rw [if_pos (by simp [byScan, Value.scannable, scanBound])]
  unfold setAddByScan
  refine wpAny_bind ?_
  refine wpAny_bind (wpAny_rule ?_)
  refine wpAny_bind (m := setScan _ _ _ _ _) (wpAny_pure (a := ScanMet.absent) ?_)
  dsimp only
  rw [lay_one]
  dsimp only
  refine wpAny_bind (wpAny_pure ?_)
  rw [if_pos (show (oneT (!byTextB w)).plain = true from rfl)]
  refine wpAny_bind (wpAny_pure (a := true) ?_)
  simp only [↓reduceIte]
  refine wpAny_bind (wpAny_storeSet_of (s := ⟨hp, gs₀, dr, tk, os⟩) e rfl ?_ (by rw [sizeLine_eq]; decide))
  rw [if_neg (by cases byTextB w <;> decide)]
  refine wpAny_pure (wpAny_pure ?_)
  show wpAny _ _ (ret Value.none) _ _ _
  refine wpAny_pure ⟨_, rfl, h _ _ (S.upd u (Heap.SameBut.update ..) (Heap.get?_update_self _ e rfl) ⟨1, rfl⟩)⟩
theorem one_add1 {Q : Value → Shared → Prop} (S : Sx g₀ g L m mu hp) (hm : (a, IsOne w) ∈ mu) (h : ∀ tk, Q .none ⟨hp, gs₀, dr, tk, os⟩) : wpAny (model prog w) A (call (.builtin "set.add") [.ref a, .bool true]) Q E ⟨hp, gs₀, dr, tk₀, os⟩ := by
  obtain ⟨o, e, ep, r⟩ := S.get _ hm
  cases r
  have hT : (⟨hp, gs₀, dr, tk₀, os⟩ : Shared).TypeIs (.ref a) "set" := ⟨_, e, rfl⟩
  refine wpAny_call_entry F.slot_set_add hT F.entry_set_add ?_ (F.args_set_add_2 _ _)
  unfold Builtin.«set.add» Builtin.Frozenset.oneOther
  simp only [List.isEmpty_nil, bind_assoc]
  unfold Builtin.Frozenset.addrOf setAdd
  refine wpAny_bind (wpAny_pure ?_)
  try dsimp only
  refine wpAny_bind (wpAny_pure ?_)
  try dsimp only
  refine wpAny_bind ?_
  refine wpAny_holding ?_
  refine wpAny_bind (hash_true fun tk => ?_)
  unfold setAddHashed setAddHashedIn
  have hf : (oneT (!byTextB w)).fits (#[(1, .bool true)] : Array (Int × Value)).size = true := by cases byTextB w <;> rfl
  refine wpAny_holding (wpAny_bind (wpAny_setState_of (s := ⟨hp, gs₀, dr, tk, os⟩) e rfl hf ?_))
  dsimp only
  rw [if_pos (by simp [byScan, Value.scannable, scanBound])]
  unfold setAddByScan
  refine wpAny_bind ?_
  refine wpAny_bind (wpAny_rule ?_)
  refine wpAny_bind (Q := _) ?_
  show wpAny _ _ (setScanFrom a (.bool true) 1 true [(1, .bool true)] 0) _ _ _
  unfold setScanFrom
  rw [if_pos (by decide)]
  refine wpAny_bind (wpAny_setEpoch_of (s := ⟨hp, gs₀, dr, tk, os⟩) e rfl hf ?_)
  refine wpAny_bind ?_
  unfold eqBool
  rw [if_pos (by decide)]
  refine wpAny_holding (wpAny_bind (wpAny_rule (wpAny_pure ?_)))
  simp only [Bool.and_self, ↓reduceIte]
  refine wpAny_pure ?_
  dsimp only
  refine wpAny_pure (wpAny_pure ?_)
  show wpAny _ _ (ret Value.none) _ _ _
  exact wpAny_pure ⟨_, rfl, h tk⟩
end
end
section
/-! ## Unpacking {True} -/
theorem slot_seti_next : Slot "set_iterator" "__next__" "set_iterator.__next__" :=
  .of (owner := "set_iterator") (n := "__next__") (by rw [typeLookup_type, builtinLookup_eq_fast]; kernel_rfl) (by decide +kernel) (by decide +kernel) (by decide +kernel)
    (by first | exact .inl (by decide +kernel) | exact .inr (by decide +kernel)) (by rw [isSubtype_type]; kernel_rfl)
theorem entry_seti_next : entryFor table "set_iterator.__next__" = some Builtin.«set_iterator.__next__» := entryFor_of_tree (by kernel_rfl)
theorem args_seti_next (a : Value) : argsOk "set_iterator.__next__" ⟨[a], []⟩ := by unfold argsOk; kernel_rfl
theorem entry_set_iter : entryFor table "set.__iter__" = some Builtin.«frozenset.__iter__» := entryFor_alias (id' := "frozenset.__iter__") (by kernel_rfl) rfl (by decide +kernel) (by kernel_rfl)
def SIt (a : Addr) (slot i ep : Nat) : Obj := { cls := .type "set_iterator", data := .fields #[rawInt slot, rawInt i, .ref a, rawInt 1, rawInt ep] }
end
section
/-! ## Unpacking {True}: the walk -/
section
variable {prog : Program} {w : World} {A : Around} {hp : Heap} {gs₀ : Array GenState} {dr : Drawn} {tk₀ : Nat} {os : OsState} {E : Value → Shared → Prop} {g₀ g : Heap} {L a it : Addr} {m : Str → Option Value} {mu mu' : Mut} {ep : Nat}
theorem fits_one (w : World) : (oneT (!byTextB w)).fits (#[(1, .bool true)] : Array (Int × Value)).size = true := by cases byTextB w <;> rfl
theorem one_iter {Q : Value → Shared → Prop} (S : Sx g₀ g L m mu hp) (e : hp.get? a = some (oneSet w ep)) (h : ∀ it h', Sx g₀ g L m ((it, (· = SIt a 0 0 ep)) :: mu) h' → Q (.ref it) ⟨h', gs₀, dr, tk₀, os⟩) : wpAny (model prog w) A (pyIter (.ref a)) Q E ⟨hp, gs₀, dr, tk₀, os⟩ := by
  have hT : (⟨hp, gs₀, dr, tk₀, os⟩ : Shared).TypeIs (.ref a) "set" := ⟨_, e, rfl⟩
  refine wpAny_pyIter_slot hT F.slot_set_iter (wpAny_call_entry F.slot_set_iter hT entry_set_iter ?_ (F.args_set_iter_1 _))
  unfold Builtin.«frozenset.__iter__» Builtin.Frozenset.slot0
  refine wpAny_bind (wpAny_bind (wpAny_pure ?_))
  show wpAny _ _ (pure a) _ _ _
  refine wpAny_pure ?_
  unfold Builtin.Frozenset.sizeOf
  refine wpAny_bind (wpAny_bind (wpAny_setEntries_of (s := ⟨hp, gs₀, dr, tk₀, os⟩) e rfl (fits_one w) (wpAny_pure ?_)))
  refine wpAny_bind ?_
  unfold setDrawn
  refine wpAny_bind (wpAny_setState_of (s := ⟨hp, gs₀, dr, tk₀, os⟩) e rfl (fits_one w) ?_)
  unfold setsByText
  refine wpAny_bind (wpAny_bind (wpAny_askSetting (wpAny_pure ?_)))
  refine wpAny_pure ?_
  refine wpAny_ite_split (fun hq => ?_) (fun _ => ?_)
  · exfalso
    have h2 := (Bool.and_eq_true_iff.mp hq).2
    revert h2
    generalize byTextB w = b
    cases b <;> decide
  refine wpAny_bind (wpAny_pure (wpAny_bind (wpAny_setEpoch_of (s := ⟨hp, gs₀, dr, tk₀, os⟩) e rfl (fits_one w) (wpAny_bind ?_))))
  show wpAny _ _ (newObj (.type "set_iterator") (.fields #[rawInt 0, rawInt 0, .ref a, rawInt 1, rawInt ep])) _ _ _
  refine wpAny_newObj_type ?_ (by size_fits)
  have S₁ : Sx g₀ g L m ((hp.objs.size, (· = SIt a 0 0 ep)) :: mu) (hp.push (SIt a 0 0 ep)) := S.alloc rfl rfl
  exact wpAny_pure ⟨_, rfl, "set_iterator", _, ⟨_, Heap.get?_push_size _ rfl, rfl⟩, slot_seti_next.lookup, h _ _ S₁⟩
theorem pick_one (f : Nat → Nat) (x : Int × Value) : pickOrder f #[x] = #[x] := by
  show pickOrder.go f 1 0 [x] #[] = _
  unfold pickOrder.go
  simp [Nat.mod_one, pickOrder.go]
theorem setNext0 {Q : Option (Value × Nat) → Shared → Prop} {s : Shared} (e : s.heap.get? a = some (oneSet w ep)) (h : ∀ slot, (byTextB w = false → slot = 2) → Q (some (.bool true, slot)) s) : wpAny (model prog w) A (setNext a 0 0 ep) Q E s := by
  unfold setNext
  refine wpAny_bind (wpAny_setState_of e rfl (fits_one w) ?_)
  unfold setsByText
  refine wpAny_bind (wpAny_bind (wpAny_askSetting (wpAny_pure ?_)))
  show wpAny _ _ (if byTextB w = true then _ else _) _ _ _
  by_cases hb : byTextB w = true
  · rw [if_pos hb]
    rw [if_neg (by simp)]
    refine wpAny_bind ?_
    unfold setWalk
    refine wpAny_bind (wpAny_setState_of e rfl (fits_one w) ?_)
    unfold setsByText
    refine wpAny_bind (wpAny_bind (wpAny_askSetting (wpAny_pure ?_)))
    show wpAny _ _ (if byTextB w = true then _ else _) _ _ _
    rw [if_pos hb]
    refine wpAny_bind (wpAny_askSetting (wpAny_pure ?_))
    rw [pick_one]
    exact wpAny_pure (h 0 fun q => by rw [q] at hb; cases hb)
  · rw [if_neg hb]
    have hb' : byTextB w = false := by simpa using hb
    rw [hb']
    refine wpAny_ite_split (fun hq => ?_) (fun _ => ?_)
    · exfalso; revert hq; decide
    refine wpAny_bind (wpAny_pure ?_)
    exact wpAny_pure (h 2 fun _ => rfl)
theorem setNext1 {Q : Option (Value × Nat) → Shared → Prop} {s : Shared} {slot : Nat} (e : s.heap.get? a = some (oneSet w ep)) (hs : byTextB w = false → slot = 2) (h : Q none s) : wpAny (model prog w) A (setNext a slot 1 ep) Q E s := by
  unfold setNext
  refine wpAny_bind (wpAny_setState_of e rfl (fits_one w) ?_)
  unfold setsByText
  refine wpAny_bind (wpAny_bind (wpAny_askSetting (wpAny_pure ?_)))
  show wpAny _ _ (if byTextB w = true then _ else _) _ _ _
  by_cases hb : byTextB w = true
  · rw [if_pos hb]
    rw [if_neg (by simp)]
    refine wpAny_bind ?_
    unfold setWalk
    refine wpAny_bind (wpAny_setState_of e rfl (fits_one w) ?_)
    unfold setsByText
    refine wpAny_bind (wpAny_bind (wpAny_askSetting (wpAny_pure ?_)))
    show wpAny _ _ (if byTextB w = true then _ else _) _ _ _
    rw [if_pos hb]
    refine wpAny_bind (wpAny_askSetting (wpAny_pure ?_))
    rw [pick_one]
    exact wpAny_pure h
  · rw [if_neg hb]
    have hb' : byTextB w = false := by simpa using hb
    rw [hb']
    rw [hs hb']
    refine wpAny_ite_split (fun hq => ?_) (fun _ => ?_)
    · exfalso; revert hq; decide
    refine wpAny_bind (wpAny_pure ?_)
    exact wpAny_pure h
theorem one_next {Q : Option Value → Shared → Prop} (S : Sx g₀ g L m ((it, (· = SIt a 0 0 ep)) :: mu) hp) (hm : (a, (· = oneSet w ep)) ∈ mu) (h : ∀ h' slot, (byTextB w = false → slot = 2) → Sx g₀ g L m ((it, (· = SIt a slot 1 ep)) :: mu) h' → Q (some (.bool true)) ⟨h', gs₀, dr, tk₀, os⟩) :
    wpAny (model prog w) A (pyNext (.ref it)) Q E ⟨hp, gs₀, dr, tk₀, os⟩ := by
  obtain ⟨oi, ei, r⟩ := S.get _ (.head _)
  cases r
  obtain ⟨oa, ea, r⟩ := S.get _ (.tail _ hm)
  cases r
  have hT : (⟨hp, gs₀, dr, tk₀, os⟩ : Shared).TypeIs (.ref it) "set_iterator" := ⟨_, ei, rfl⟩
  unfold pyNext
  refine wpAny_bind (wpAny_attempt (wpAny_callSpecial?_slot (name := Str.ofString "__next__") hT slot_seti_next (wpAny_call_entry slot_seti_next hT entry_seti_next ?_ (args_seti_next _))))
  unfold Builtin.«set_iterator.__next__»
  refine wpAny_bind (wpAny_pure (a := (Value.ref it, [])) ?_)
  refine wpAny_bind (wpAny_fieldsOf (s := ⟨hp, gs₀, dr, tk₀, os⟩) ei rfl ?_)
  show wpAny _ _ (setEntries a >>= _) _ _ _
  refine wpAny_bind (wpAny_setEntries_of (s := ⟨hp, gs₀, dr, tk₀, os⟩) ea rfl (fits_one w) ?_)
  rw [if_neg (by decide)]
  show wpAny _ _ (setNext a 0 0 ep >>= _) _ _ _
  refine wpAny_bind (setNext0 ea fun slot hs => ?_)
  show wpAny _ _ (setField (.ref it) 0 (rawInt slot) >>= _) _ _ _
  refine wpAny_bind (wpAny_setField (s := ⟨hp, gs₀, dr, tk₀, os⟩) ei rfl (by show 0 < 5; decide) ?_)
  have e1 : (hp.update it (Obj.mapFields (·.setIfInBounds 0 (rawInt slot)))).get? it = some (SIt a slot 0 ep) := Heap.get?_update_self _ ei rfl
  refine wpAny_bind (wpAny_setField (s := ⟨_, gs₀, dr, tk₀, os⟩) e1 rfl (by show 1 < 5; decide) ?_)
  have e2 : ((hp.update it (Obj.mapFields (·.setIfInBounds 0 (rawInt slot)))).update it (Obj.mapFields (·.setIfInBounds 1 (rawInt (0 + 1))))).get? it = some (SIt a slot 1 ep) := Heap.get?_update_self _ e1 rfl
  refine wpAny_pure ⟨_, rfl, wpAny_pure (h _ slot hs (S.upd .head ((Heap.SameBut.update ..).trans (Heap.SameBut.update ..)) e2 rfl))⟩
theorem one_stop {Q : Option Value → Shared → Prop} {slot : Nat} (hh : A.handled = none) (S : Sx g₀ g L m ((it, (· = SIt a slot 1 ep)) :: mu) hp) (hm : (a, (· = oneSet w ep)) ∈ mu) (hs : byTextB w = false → slot = 2) (h : ∀ h', Sx g₀ g L m mu h' → Q none ⟨h', gs₀, dr, tk₀, os⟩) :
    wpAny (model prog w) A (pyNext (.ref it)) Q E ⟨hp, gs₀, dr, tk₀, os⟩ := by
  obtain ⟨oi, ei, r⟩ := S.get _ (.head _)
  cases r
  obtain ⟨oa, ea, r⟩ := S.get _ (.tail _ hm)
  cases r
  have hT : (⟨hp, gs₀, dr, tk₀, os⟩ : Shared).TypeIs (.ref it) "set_iterator" := ⟨_, ei, rfl⟩
  unfold pyNext
  refine wpAny_bind (wpAny_attempt (wpAny_callSpecial?_slot (name := Str.ofString "__next__") hT slot_seti_next (wpAny_call_entry slot_seti_next hT entry_seti_next ?_ (args_seti_next _))))
  unfold Builtin.«set_iterator.__next__»
  refine wpAny_bind (wpAny_pure (a := (Value.ref it, [])) ?_)
  refine wpAny_bind (wpAny_fieldsOf (s := ⟨hp, gs₀, dr, tk₀, os⟩) ei rfl ?_)
  show wpAny _ _ (setEntries a >>= _) _ _ _
  refine wpAny_bind (wpAny_setEntries_of (s := ⟨hp, gs₀, dr, tk₀, os⟩) ea rfl (fits_one w) ?_)
  rw [if_neg (by decide)]
  show wpAny _ _ (setNext a slot 1 ep >>= _) _ _ _
  refine wpAny_bind (setNext1 ea hs ?_)
  show wpAny _ _ (setField (.ref it) 2 .none >>= _) _ _ _
  refine wpAny_bind (wpAny_setField (s := ⟨hp, gs₀, dr, tk₀, os⟩) ei rfl (by show 2 < 5; decide) ?_)
  show wpAny _ _ (newExc (.type "StopIteration") [] >>= _) _ _ _
  have S' : Sx g₀ g L m mu (hp.update it (Obj.mapFields (·.setIfInBounds 2 .none))) := S.lose (Heap.SameBut.update ..)
  refine raise_stop (A := A.in1) hh fun h' e' hn => ?_
  obtain ⟨kh, he0, oe, vs, a0, he, hc, _⟩ := hn
  refine wpAny_bind (wpAny_isInstance (T := "StopIteration") (b := true) ⟨oe, he, hc⟩ sub_stop_self ?_)
  exact wpAny_pure (h _ (S'.grow kh))
theorem unpack_one {Q : Unit → Shared → Prop} {env : Env} {elts : List PySem.Expr} {k : Nat} {pos : Pos} (S : Sx g₀ g L m mu hp) (hm : (a, IsOne w) ∈ mu) (hh : A.handled = none) (hn : (assignEach elts env).length = 1) (hstar : (assignEach elts env).findIdx? (·.1) = none)
    (h : ∀ h', Sx g₀ g L m mu h' → wpAny (model prog w) A (assignInOrder ((assignEach elts env).map (·.2)) [.bool true]) Q E ⟨h', gs₀, dr, tk₀, os⟩) :
    wpAny (model prog w) A (assign (.Tuple elts k pos) env (.ref a)) Q E ⟨hp, gs₀, dr, tk₀, os⟩ := by
  obtain ⟨oa, ea, ep, r⟩ := S.get _ hm
  cases r
  obtain ⟨mu₁, u⟩ : ∃ mu₁, Up a (IsOne w) (· = oneSet w ep) mu mu₁ := by
    clear h S ea
    induction mu with
    | nil => cases hm
    | cons p mu ih =>
      cases hm with
      | head => exact ⟨_, .head⟩
      | tail _ hm => obtain ⟨r, u⟩ := ih hm; exact ⟨_, .tail u⟩
  have S₁ : Sx g₀ g L m mu₁ hp := S.upd u (Heap.SameBut.refl _ _) ea rfl
  have ub : Up a (· = oneSet w ep) (IsOne w) mu₁ mu := by
    clear h S S₁ ea hm
    induction u with
    | head => exact .head
    | tail _ ih => exact .tail ih
  have ha₁ : (a, (· = oneSet w ep)) ∈ mu₁ := ub.mem
  have hT : (⟨hp, gs₀, dr, tk₀, os⟩ : Shared).TypeIs (.ref a) "set" := ⟨_, ea, rfl⟩
  rw [assign_Tuple]
  refine wpAny_bind (wpAny_standAt ?_)
  unfold unpack
  rw [hn, hstar]
  refine wpAny_bind (wpAny_holding ?_)
  unfold unpackItems
  refine wpAny_bind ?_
  unfold notIterableAtAll
  refine wpAny_bind (wpAny_specialOf hT F.slot_set_iter.lookup ?_)
  refine wpAny_pure ?_
  simp only [Bool.false_eq_true, if_false]
  refine wpAny_bind (wpAny_holding (one_iter S₁ ea fun it h₁ S₂ => ?_))
  refine wpAny_bind (wpAny_holding ?_)
  show wpAny _ _ (pyNext (.ref it) >>= _) _ _ _
  refine wpAny_bind (one_next S₂ ha₁ fun h₂ slot hs S₃ => ?_)
  refine wpAny_bind (wpAny_holding (wpAny_pure (wpAny_pure ?_)))
  rw [if_neg (by decide)]
  refine wpAny_bind (wpAny_holding (one_stop hh S₃ ha₁ hs fun h₃ S₄ => ?_))
  simp only [Option.isSome_none, Bool.false_eq_true, if_false]
  refine wpAny_pure (h _ ?_)
  obtain ⟨oz, ez, rz⟩ := S₄.get _ ha₁
  exact S₄.upd ub (Heap.SameBut.refl _ _) ez ⟨ep, rz⟩
end
end
section
/-! ## A set comprehension whose elements are all True -/
def IsB (w : World) (i : Nat) : Obj → Prop := if i = 0 then IsNo w else IsOne w
section
variable {prog : Program} {w : World} {A : Around} {E : Value → Shared → Prop} {hp : Heap} {gs₀ : Array GenState} {dr : Drawn} {tk₀ : Nat} {os : OsState} {g₀ g : Heap} {L it : Addr} {m : Str → Option Value} {mu : Mut} {env : Env}
  {Here : Heap → Mut → Prop} {ItK : Nat → Obj → Prop} {n : Nat} {Val : Nat → Value → Prop} {x : Str}
theorem one_add {Q : Value → Shared → Prop} {a : Addr} {i : Nat} (S : Sx g₀ g L m mu hp) {mu' : Mut} (u : Up a (IsB w i) (IsB w (i + 1)) mu mu') (h : ∀ h' tk, Sx g₀ g L m mu' h' → Q .none ⟨h', gs₀, dr, tk, os⟩) : wpAny (model prog w) A (call (.builtin "set.add") [.ref a, .bool true]) Q E ⟨hp, gs₀, dr, tk₀, os⟩ := by
  have e1 : IsB w (i + 1) = IsOne w := if_neg (by omega)
  rw [e1] at u
  by_cases hi : i = 0
  · have e0 : IsB w i = IsNo w := if_pos hi
    rw [e0] at u
    exact one_add0 S u h
  · have e0 : IsB w i = IsOne w := if_neg hi
    rw [e0] at u
    have := u.same
    subst this
    exact one_add1 S u.mem fun tk => h hp tk S
theorem scomp_loop {px : Pos} {elt iterE : PySem.Expr} {scope : Scope} {pos : Pos} {acc C : Addr} {mc : Str → Option Value} {R : Result → Shared → Prop} {cenv : Env}
    (I : IterOk prog w A it Here ItK n Val) (S : Sx g₀ g C mc ((it, ItK 0) :: (acc, IsB w 0) :: mu) hp) (here : Here g mu)
    (turn : ∀ (i : Nat) (v : Value) (mc' : Str → Option Value) (h : Heap) (tk : Nat) (E' : Value → Shared → Prop), i < n → Val i v → Sx g₀ g C (fun y => if y = x then some v else mc' y) ((it, ItK (i + 1)) :: (acc, IsB w i) :: mu) h →
      wpAny (model prog w) A (eval elt cenv) (fun y s' => y = .bool true ∧ ∃ h' tk' mc'', s' = ⟨h', gs₀, dr, tk', os⟩ ∧ Sx g₀ g C mc'' ((it, ItK (i + 1)) :: (acc, IsB w i) :: mu) h') E' ⟨h, gs₀, dr, tk, os⟩)
    (done : ∀ (mc' : Str → Option Value) (h : Heap) (tk : Nat), Sx g₀ g C mc' ((acc, IsB w n) :: mu) h → R (.ok .next) ⟨h, gs₀, dr, tk, os⟩)
    (hL : cenv.locals = C := by rfl) (hk : cenv.scope.kind = .function := by rfl) (hx : cenv.kindOf x = some .local := by rfl) :
    codeAny (model prog w) A (.compLoop (.SetComp elt [⟨.Name x px, iterE, [], 0⟩] scope pos) 0 (.ref it) (.ref acc) cenv) R ⟨hp, gs₀, dr, tk₀, os⟩ := by
  refine codeAny_loop rfl (fun k s' => ∃ i mc' h tk, k = n + 1 - i ∧ i ≤ n ∧ s' = ⟨h, gs₀, dr, tk, os⟩ ∧ Sx g₀ g C mc' ((it, ItK i) :: (acc, IsB w i) :: mu) h)
    ?_ (n + 1) ⟨0, mc, hp, tk₀, rfl, Nat.zero_le _, rfl, S⟩
  rintro k s' ⟨i, mc', h, tk, rfl, hi, rfl, S'⟩
  show wpAny _ _ ((compTurn (.SetComp elt [⟨.Name x px, iterE, [], 0⟩] scope pos) 0 (.ref it) (.ref acc) cenv).onRaise (fun x => do noteFrame x cenv; theTreesLotGoes x)) _ _ _
  refine wpAny_noted ?_
  have e : compTurn (.SetComp elt [⟨.Name x px, iterE, [], 0⟩] scope pos) 0 (.ref it) (.ref acc) cenv = (standAt iterE.pos >>= fun _ => pyNext (.ref it) >>= fun r => match r with
      | none => pure (.done .next)
      | some v => letOwnedTupleGo (.Name x px) (.ref it) v >>= fun _ => assign (.Name x px) cenv v >>= fun _ =>
        (eval elt cenv >>= fun x => standAt elt.pos >>= fun _ => call (.builtin "set.add") [.ref acc, x] >>= fun _ => pure ()) >>= fun _ => again (.compLoop (.SetComp elt [⟨.Name x px, iterE, [], 0⟩] scope pos) 0 (.ref it) (.ref acc) cenv)) := by rfl
  rw [e]
  refine wpAny_bind (wpAny_standAt (wpAny_bind ?_))
  by_cases hlt : i < n
  · refine I.next i hlt S' (I.more _ here) fun v h' tk' hv S₁ => ?_
    refine wpAny_bind (wpAny_pure (wpAny_bind (wpAny_assign_Name (st_loc S₁ (fun h₂ tk₂ S₂ => ?_) hL hk hx))))
    refine wpAny_bind (wpAny_bind (wpAny_mono (turn i v mc' h₂ tk₂ _ hlt hv S₂) (fun y s₁ hy => ?_) fun _ _ e => e))
    obtain ⟨rfl, h₃, tk₃, mc₃, rfl, S₃⟩ := hy
    refine wpAny_bind (wpAny_standAt (wpAny_bind (one_add S₃ (.tail .head) fun h₄ tk₄ S₄ => wpAny_pure (wpAny_pure ⟨rfl, ?_⟩))))
    exact ⟨n + 1 - (i + 1), by omega, i + 1, mc₃, h₄, tk₄, rfl, hlt, rfl, S₄⟩
  · have hin : i = n := by omega
    subst hin
    refine I.stop S' (I.more _ here) fun h' tk' S₁ => ?_
    exact wpAny_pure (done mc' h' tk' S₁)
theorem compStart_set {elt target iter ifs rest scope pos it acc env} {R : Result → Shared → Prop} {s : Shared}
    (h0 : codeAny (model prog w) A (.compLoop (.SetComp elt (⟨target, iter, ifs, 0⟩ :: rest) scope pos) 0 it acc env) R s)
    (h : wpAny (model prog w) A (pyIter it) (fun it' s' => codeAny (model prog w) A (.compLoop (.SetComp elt (⟨target, iter, ifs, 0⟩ :: rest) scope pos) 0 it' acc env) R s')
      (notedBy (model prog w) A env fun x s' => R (.error x) s') s) :
    codeAny (model prog w) A (.compStart (.SetComp elt (⟨target, iter, ifs, 0⟩ :: rest) scope pos) 0 it acc env) R s := by
  refine codeAny_of_tree ?_
  show wpAny _ _ ((compStart (.SetComp elt (⟨target, iter, ifs, 0⟩ :: rest) scope pos) 0 it acc env).onRaise (fun x => do noteFrame x env; standAt theWindowsPlace)) _ _ s
  refine wpAny_notedAt ?_
  unfold compStart
  show wpAny _ _ (ask >>= _) _ _ s
  refine wpAny_bind (wpAny_askSetting (wpAny_ite ?_))
  split
  · first
      | exact wpAny_bind (wpAny_pure (wpAny_pure (And.intro rfl h0)))
      | exact wpAny_pure (And.intro rfl h0)
  · refine wpAny_bind (wpAny_rule ?_)
    show wpAny _ _ (standAt iter.pos >>= _) _ _ s
    exact wpAny_bind (wpAny_standAt (wpAny_bind (wpAny_mono h (fun it' s' h' => wpAny_pure (And.intro rfl h')) fun _ _ x => x)))
theorem scomp_run {px : Pos} {elt iterE : PySem.Expr} {scope : Scope} {pos : Pos} {cl : List (Str × Addr)} {Q : Value → Shared → Prop}
    (I : IterOk prog w A it Here ItK n Val) (S : Sx g₀ g L m ((it, ItK 0) :: mu) hp) (here : Here g mu) (hn : n ≠ 0)
    (turn : ∀ (i : Nat) (v : Value) (mc' : Str → Option Value) (h : Heap) (tk : Nat) (acc C : Addr) (E' : Value → Shared → Prop), i < n → Val i v → Sx g₀ g C (fun y => if y = x then some v else mc' y) ((it, ItK (i + 1)) :: (acc, IsB w i) :: (L, IsNs m) :: mu) h →
      wpAny (model prog w) A (eval elt (compEnvC scope cl C env)) (fun y s' => y = .bool true ∧ ∃ h' tk' mc'', s' = ⟨h', gs₀, dr, tk', os⟩ ∧ Sx g₀ g C mc'' ((it, ItK (i + 1)) :: (acc, IsB w i) :: (L, IsNs m) :: mu) h') E' ⟨h, gs₀, dr, tk, os⟩)
    (done : ∀ (h : Heap) (tk : Nat) (acc : Addr), Sx g₀ g L m ((acc, IsOne w) :: mu) h → Q (.ref acc) ⟨h, gs₀, dr, tk, os⟩)
    (hcell : ∀ y ∈ scope.names, y.2 ≠ .cell := by decide) (hkind : scope.kind = .function := by rfl) (hx : scope.names.lookup x = some .local := by rfl) :
    wpAny (model prog w) A (newSet (.type "set")) (fun acc s₃ => wpAny (model prog w) A (newFunctionEnv scope env.globals cl [] env.qual none .none (some env)) (fun cenv s₄ =>
      codeAny (model prog w) A (.compStart (.SetComp elt [⟨.Name x px, iterE, [], 0⟩] scope pos) 0 (.ref it) acc { cenv with scope := relabel scope env }) (compPost (model prog w) A E none Q acc cenv.locals) s₄) E s₃) E ⟨hp, gs₀, dr, tk₀, os⟩ := by
  refine one_new S (fun acc h₁ S₁ => ?_)
  refine wpAny_newFunctionEnv hcell (by intro y hy; simp at hy) (fun h₂ hns₂ hsb₂ => ?_) hkind
  dsimp only at hns₂ hsb₂ ⊢
  have S₁' : Sx g₀ g L m ((h₁.objs.size, fun _ => True) :: (acc, IsNo w) :: (it, ItK 0) :: mu) (h₁.push { cls := .type (if (some env).isSome then "dict" else "frame"), data := .dict #[] }) := S₁.alloc rfl trivial
  obtain ⟨oc, es, ep, ec, dc, kc, fc⟩ := id hns₂
  have S₂ := (S₁'.set hsb₂ (P' := IsNs (fun x => ([] : List (Str × Value)).reverse.lookup x)) ec ⟨es, ep, dc, kc, fc⟩).front
  have S₃ : Sx g₀ g h₁.objs.size (fun x => ([] : List (Str × Value)).reverse.lookup x) ((it, ItK 0) :: (acc, IsNo w) :: (L, IsNs m) :: mu) h₂ := S₂.perm (by
    refine List.Perm.trans (List.Perm.swap _ _ _) ?_
    exact List.Perm.trans (.cons _ (List.Perm.swap _ _ _)) (List.Perm.swap _ _ _))
  have S₃ : Sx g₀ g h₁.objs.size (fun x => ([] : List (Str × Value)).reverse.lookup x) ((it, ItK 0) :: (acc, IsB w 0) :: (L, IsNs m) :: mu) h₂ := S₃
  have loop : codeAny (model prog w) A (.compLoop (.SetComp elt [⟨.Name x px, iterE, [], 0⟩] scope pos) 0 (.ref it) (.ref acc) (compEnvC scope cl h₁.objs.size env))
      (compPost (model prog w) A E none Q (.ref acc) h₁.objs.size) ⟨h₂, gs₀, dr, tk₀ + ([] : List (Str × Value)).length, os⟩ := by
    refine scomp_loop I S₃ (I.more _ here) (fun i v mc' h tk E' hi hv S' => turn i v mc' h tk acc h₁.objs.size E' hi hv S') (fun mc' h tk S' => ?_) rfl (by simp [compEnvC, relabel, hkind]) (lookup_relabel_local hx)
    have e1 : IsB w n = IsOne w := if_neg hn
    rw [e1] at S'
    have S'' := (S'.perm (List.Perm.swap _ _ _)).front
    exact ⟨mc', S''.front.ns, fun h' hs => done h' tk acc (S''.lose hs)⟩
  refine compStart_set loop (I.self 0 S₃ (I.more _ (I.more _ here)) loop)
theorem scomp_eval {px : Pos} {elt iterE : PySem.Expr} {scope : Scope} {pos : Pos} {cl : List (Str × Addr)} {Q : Value → Shared → Prop} (hclos : closureFor scope env = pure cl)
    (h : wpAny (model prog w) A (eval iterE env) (fun xv s₁ => wpAny (model prog w) A (pyIter xv) (fun itv s₂ => wpAny (model prog w) A (newSet (.type "set")) (fun acc s₃ => wpAny (model prog w) A (newFunctionEnv scope env.globals cl [] env.qual none .none (some env)) (fun cenv s₄ =>
      codeAny (model prog w) A (.compStart (.SetComp elt [⟨.Name x px, iterE, [], 0⟩] scope pos) 0 itv acc { cenv with scope := relabel scope env }) (compPost (model prog w) A E none Q acc cenv.locals) s₄) E s₃) E s₂) E s₁) E ⟨hp, gs₀, dr, tk₀, os⟩)
    (hkind : scope.kind = .function := by rfl) (hnames : ∀ y ∈ scope.names, y.2 = .local → scope.names.lookup y.1 = some .local := by decide) (hs : ∀ x, foldedSetIterable iterE env x = pure x := by intro _; rfl) :
    wpAny (model prog w) A (eval (.SetComp elt [⟨.Name x px, iterE, [], 0⟩] scope pos) env) Q E ⟨hp, gs₀, dr, tk₀, os⟩ := by
  rw [arm_eval_SetComp]
  exact wpAny_comprehension_free (use := none) rfl hs hclos hkind hnames h
end
end
section
/-! ## Lists of texts compared: < and > -/
def ltS (x y : Str) : Bool := decide (x.cps.toList < y.cps.toList)
def ltL : List Str → List Str → Bool
  | [], [] => false
  | [], _ :: _ => true
  | _ :: _, [] => false
  | x :: xs, y :: ys => if x = y then ltL xs ys else ltS x y
section
open SeqAt
variable {prog : Program} {w : World} {A : Around} {s : Shared} {a b : Addr} {R : Result → Shared → Prop} {la lb : List (Str × Tok)} {n n2 : Nat} {E : Value → Shared → Prop}
theorem lt_loop (ha : s.heap.get? a = some ⟨.type "list", none, .seq (strValues la).toArray n, #[]⟩) (hb : s.heap.get? b = some ⟨.type "list", none, .seq (strValues lb).toArray n2, #[]⟩) :
    ∀ (k i : Nat), la.length - i = k → i ≤ la.length → i ≤ lb.length → R (.ok (.ret (.bool (ltL ((la.drop i).map (·.1)) ((lb.drop i).map (·.1)))))) s → codeAny (model prog w) A (.builtin "list.__eq__.loop" ⟨[.ref a, .ref b, rawInt i, rawInt 0], []⟩) R s := by
  have at_some : ∀ (l : List (Str × Tok)) (i : Nat) (h : i < l.length), (strValues l).toArray[i]? = some (.str l[i].1 l[i].2) := fun l i h => by simp [strValues, h]
  have at_none : ∀ (l : List (Str × Tok)) (i : Nat), l.length ≤ i → (strValues l).toArray[i]? = none := fun l i h => by simp [strValues, h]
  have sz : ∀ l : List (Str × Tok), (strValues l).toArray.size = l.length := fun l => by rw [List.size_toArray, strValues_length]
  intro k
  induction k with
  | zero =>
    intro i hk hia hib hR
    have hi : i = la.length := by omega
    refine codeAny_builtin PySem.MeetsSeq3.entry_eq_loop ?_
    rw [Around.under_plainId PySem.MeetsSeq3.plain_eq_loop _]
    obtain ⟨hp, g, d, tk, os⟩ := s
    wp_walk using AutoSeq1.wpAny_loadPart' ha, AutoSeq1.wpAny_loadPart' hb
    simp only [Int.toNat_natCast, at_none la i (by omega)]
    wp_walk using AutoSeq1.wpAny_loadPart' ha, AutoSeq1.wpAny_loadPart' hb
    have e : ltL ((la.drop i).map (·.1)) ((lb.drop i).map (·.1)) = decide ((strValues la).toArray.size < (strValues lb).toArray.size) := by
      rw [sz, sz, List.drop_eq_nil_of_le (show la.length ≤ i by omega)]
      rcases Nat.lt_or_ge i lb.length with h | h
      · rw [List.drop_eq_getElem_cons h]
        simp only [List.map_nil, List.map_cons, ltL]
        rw [decide_eq_true (by omega)]
      · rw [List.drop_eq_nil_of_le h]
        simp only [List.map_nil, ltL]
        rw [decide_eq_false (by omega)]
    rw [e] at hR
    exact hR
  | succ k ih =>
    intro i hk hia hib hR
    have hlt : i < la.length := by omega
    refine codeAny_builtin PySem.MeetsSeq3.entry_eq_loop ?_
    rw [Around.under_plainId PySem.MeetsSeq3.plain_eq_loop _]
    obtain ⟨hp, g, d, tk, os⟩ := s
    wp_walk using AutoSeq1.wpAny_loadPart' ha, AutoSeq1.wpAny_loadPart' hb
    rcases Nat.lt_or_ge i lb.length with h | h
    · simp only [Int.toNat_natCast, at_some la i hlt, at_some lb i h]
      refine wpAny_bind (EqAt.str_str (A := A.in1) (s := ⟨hp, g, d, tk, os⟩) _ _ _ _ prog w _ _ ?_)
      rw [List.drop_eq_getElem_cons hlt, List.drop_eq_getElem_cons h] at hR
      simp only [List.map_cons, ltL] at hR
      by_cases hxy : la[i].1 = lb[i].1
      · rw [if_pos hxy] at hR
        rw [if_pos (by rw [hxy]; exact beq_self_eq_true _)]
        exact wpAny_pure ⟨plainId_quiet PySem.MeetsSeq3.plain_eq_loop _, ih (i + 1) (by omega) hlt h hR⟩
      · rw [if_neg hxy] at hR
        rw [if_neg (by rw [beq_iff_eq]; exact hxy)]
        wp_walk using AutoSeq1.wpAny_loadPart' ha, AutoSeq1.wpAny_loadPart' hb
        simp only [Int.toNat_natCast, at_some la i hlt, at_some lb i h]
        refine wpAny_bind ?_
        refine PyProof.Rows.lt_str ?_
        exact wpAny_pure hR
    · simp only [Int.toNat_natCast, at_some la i hlt, at_none lb i h]
      wp_walk using AutoSeq1.wpAny_loadPart' ha, AutoSeq1.wpAny_loadPart' hb
      have e : ltL ((la.drop i).map (·.1)) ((lb.drop i).map (·.1)) = decide ((strValues la).toArray.size < (strValues lb).toArray.size) := by
        rw [sz, sz, List.drop_eq_getElem_cons hlt, List.drop_eq_nil_of_le h]
        simp only [List.map_nil, List.map_cons, ltL]
        rw [decide_eq_false (by omega)]
      rw [e] at hR
      exact hR
theorem lt_ss {Q : Value → Shared → Prop} {x y : List Str} (ha : SAt s.heap a x) (hb : SAt s.heap b y) (hu : A.units < cLine) (h : Q (.bool (ltL x y)) s) : wpAny (model prog w) A (richCompare .Lt (.ref a) (.ref b)) Q E s := by
  obtain ⟨la, rfl, oa, ea, n, rfl⟩ := ha.open
  obtain ⟨lb, rfl, ob, eb, n2, rfl⟩ := hb.open
  refine richCompare_meets_room (op := .Lt) (S := fun A R s' => s' = s ∧ R (.ok (.ret (.bool (ltL (la.map (·.1)) (lb.map (·.1)))))) s) ⟨_, ea, rfl⟩ ⟨_, eb, rfl⟩ F.slot_list_lt F.entry_list_lt (F.args_list_lt_2 _ _) ?_ ⟨rfl, (fun q => nomatch q), h⟩ hu
  rintro prog w A R s' ⟨rfl, hR⟩
  obtain ⟨hp, g, d, tk, os⟩ := s'
  have f3 := AutoSeq1.sub_list_list
  wp_walk using AutoSeq1.wpAny_loadPart' ea, AutoSeq1.wpAny_loadPart' eb
  exact ⟨plainId_quiet PySem.MeetsSeq3.plain_eq_loop _, lt_loop (s := ⟨hp, g, d, tk, os⟩) ea eb la.length 0 rfl (Nat.zero_le _) (Nat.zero_le _) hR⟩
theorem gt_str_ {x y : Str} {t u : Tok} {Q : Value → Shared → Prop} (h : Q (.bool (decide (y.cps.toList < x.cps.toList))) s) : wpAny (model prog w) A (compareOp .Gt (.str x t) (.str y u)) Q E s :=
  compareOp_gives (op := .Gt) (typeIs_str s x t) (typeIs_str s y u) F.slot_str_gt F.entry_str_gt (F.args_str_gt_2 _ _) (gives_str_gt x y t u) (fun e => nomatch e) h
theorem gt_loop (ha : s.heap.get? a = some ⟨.type "list", none, .seq (strValues la).toArray n, #[]⟩) (hb : s.heap.get? b = some ⟨.type "list", none, .seq (strValues lb).toArray n2, #[]⟩) :
    ∀ (k i : Nat), la.length - i = k → i ≤ la.length → i ≤ lb.length → R (.ok (.ret (.bool (ltL ((lb.drop i).map (·.1)) ((la.drop i).map (·.1)))))) s → codeAny (model prog w) A (.builtin "list.__eq__.loop" ⟨[.ref a, .ref b, rawInt i, rawInt 4], []⟩) R s := by
  have at_some : ∀ (l : List (Str × Tok)) (i : Nat) (h : i < l.length), (strValues l).toArray[i]? = some (.str l[i].1 l[i].2) := fun l i h => by simp [strValues, h]
  have at_none : ∀ (l : List (Str × Tok)) (i : Nat), l.length ≤ i → (strValues l).toArray[i]? = none := fun l i h => by simp [strValues, h]
  have sz : ∀ l : List (Str × Tok), (strValues l).toArray.size = l.length := fun l => by rw [List.size_toArray, strValues_length]
  intro k
  induction k with
  | zero =>
    intro i hk hia hib hR
    have hi : i = la.length := by omega
    refine codeAny_builtin PySem.MeetsSeq3.entry_eq_loop ?_
    rw [Around.under_plainId PySem.MeetsSeq3.plain_eq_loop _]
    obtain ⟨hp, g, d, tk, os⟩ := s
    wp_walk using AutoSeq1.wpAny_loadPart' ha, AutoSeq1.wpAny_loadPart' hb
    simp only [Int.toNat_natCast, at_none la i (by omega)]
    wp_walk using AutoSeq1.wpAny_loadPart' ha, AutoSeq1.wpAny_loadPart' hb
    have e : ltL ((lb.drop i).map (·.1)) ((la.drop i).map (·.1)) = decide ((strValues la).toArray.size > (strValues lb).toArray.size) := by
      rw [sz, sz, List.drop_eq_nil_of_le (show la.length ≤ i by omega)]
      rcases Nat.lt_or_ge i lb.length with h | h
      · rw [List.drop_eq_getElem_cons h]
        simp only [List.map_nil, List.map_cons, ltL]
        rw [decide_eq_false (by omega)]
      · rw [List.drop_eq_nil_of_le h]
        simp only [List.map_nil, ltL]
        rw [decide_eq_false (by omega)]
    rw [e] at hR
    exact hR
  | succ k ih =>
    intro i hk hia hib hR
    have hlt : i < la.length := by omega
    refine codeAny_builtin PySem.MeetsSeq3.entry_eq_loop ?_
    rw [Around.under_plainId PySem.MeetsSeq3.plain_eq_loop _]
    obtain ⟨hp, g, d, tk, os⟩ := s
    wp_walk using AutoSeq1.wpAny_loadPart' ha, AutoSeq1.wpAny_loadPart' hb
    rcases Nat.lt_or_ge i lb.length with h | h
    · simp only [Int.toNat_natCast, at_some la i hlt, at_some lb i h]
      refine wpAny_bind (EqAt.str_str (A := A.in1) (s := ⟨hp, g, d, tk, os⟩) _ _ _ _ prog w _ _ ?_)
      rw [List.drop_eq_getElem_cons hlt, List.drop_eq_getElem_cons h] at hR
      simp only [List.map_cons, ltL] at hR
      by_cases hxy : la[i].1 = lb[i].1
      · rw [if_pos hxy.symm] at hR
        rw [if_pos (by rw [hxy]; exact beq_self_eq_true _)]
        exact wpAny_pure ⟨plainId_quiet PySem.MeetsSeq3.plain_eq_loop _, ih (i + 1) (by omega) hlt h hR⟩
      · rw [if_neg (Ne.symm hxy)] at hR
        rw [if_neg (by rw [beq_iff_eq]; exact hxy)]
        wp_walk using AutoSeq1.wpAny_loadPart' ha, AutoSeq1.wpAny_loadPart' hb
        simp only [Int.toNat_natCast, at_some la i hlt, at_some lb i h]
        refine wpAny_bind ?_
        refine gt_str_ ?_
        exact wpAny_pure hR
    · simp only [Int.toNat_natCast, at_some la i hlt, at_none lb i h]
      wp_walk using AutoSeq1.wpAny_loadPart' ha, AutoSeq1.wpAny_loadPart' hb
      have e : ltL ((lb.drop i).map (·.1)) ((la.drop i).map (·.1)) = decide ((strValues la).toArray.size > (strValues lb).toArray.size) := by
        rw [sz, sz, List.drop_eq_getElem_cons hlt, List.drop_eq_nil_of_le h]
        simp only [List.map_nil, List.map_cons, ltL]
        rw [decide_eq_true (by omega)]
      rw [e] at hR
      exact hR
theorem gt_ss {Q : Value → Shared → Prop} {x y : List Str} (ha : SAt s.heap a x) (hb : SAt s.heap b y) (hu : A.units < cLine) (h : Q (.bool (ltL y x)) s) : wpAny (model prog w) A (richCompare .Gt (.ref a) (.ref b)) Q E s := by
  obtain ⟨la, rfl, oa, ea, n, rfl⟩ := ha.open
  obtain ⟨lb, rfl, ob, eb, n2, rfl⟩ := hb.open
  refine richCompare_meets_room (op := .Gt) (S := fun A R s' => s' = s ∧ R (.ok (.ret (.bool (ltL (lb.map (·.1)) (la.map (·.1)))))) s) ⟨_, ea, rfl⟩ ⟨_, eb, rfl⟩ F.slot_list_gt F.entry_list_gt (F.args_list_gt_2 _ _) ?_ ⟨rfl, (fun q => nomatch q), h⟩ hu
  rintro prog w A R s' ⟨rfl, hR⟩
  obtain ⟨hp, g, d, tk, os⟩ := s'
  have f3 := AutoSeq1.sub_list_list
  wp_walk using AutoSeq1.wpAny_loadPart' ea, AutoSeq1.wpAny_loadPart' eb
  exact ⟨plainId_quiet PySem.MeetsSeq3.plain_eq_loop _, gt_loop (s := ⟨hp, g, d, tk, os⟩) ea eb la.length 0 rfl (Nat.zero_le _) (Nat.zero_le _) hR⟩
end
end
section
/-! ## min and max of a list of lists of texts -/
def minStep (b r : List Str) : List Str := if ltL r b = true then r else b
def maxStep (b r : List Str) : List Str := if ltL b r = true then r else b
section
variable {prog : Program} {w : World} {A : Around} {hp : Heap} {gs₀ : Array GenState} {dr : Drawn} {tk₀ : Nat} {os : OsState} {E : Value → Shared → Prop} {g₀ g : Heap} {L a it B : Addr} {m : Str → Option Value} {mu : Mut} {as : List Addr} {rs : List (List Str)}
theorem upd_all {Q : Unit → Shared → Prop} {vs ws : List Value} {mu' : Mut} (S : Sx g₀ g L m mu hp) (u : Up B (IsL vs) (IsL ws) mu mu') (h1 : vs.length ≤ sizeLine) (h2 : ws.length ≤ sizeLine) (h : ∀ h', Sx g₀ g L m mu' h' → Q () ⟨h', gs₀, dr, tk₀, os⟩) :
    wpAny (model prog w) A (updateSeq B (fun _ => ws.toArray)) Q E ⟨hp, gs₀, dr, tk₀, os⟩ := by
  obtain ⟨o, e, n, rfl⟩ := S.get _ u.mem
  refine wpAny_updateSeq e rfl (h _ (S.upd u (Heap.SameBut.update ..) (Heap.get?_update_self _ e rfl) (mapSeq_is rfl))) (by rw [List.size_toArray]; exact h1) (by rw [List.size_toArray]; omega)
theorem min_loop {R : Result → Shared → Prop} (O : Ok A 3) (hra : RowsAt g as rs) :
    ∀ (k i : Nat) (hp : Heap) (tk : Nat) (x : Addr) (best : List Str), as.length - i = k → i ≤ as.length → Sx g₀ g L m ((it, IsLIt a i) :: (B, IsL [.ref x, .ref x]) :: mu) hp → SAt g x best → ListIn g mu a (as.map .ref) →
      (∀ x' h' tk', SAt g x' ((rs.drop i).foldl minStep best) → Sx g₀ g L m mu h' → R (.ok (.ret (.ref x'))) ⟨h', gs₀, dr, tk', os⟩) → codeAny (model prog w) A (.builtin "min.loop" ⟨[.ref it, .none, .ref B], []⟩) R ⟨hp, gs₀, dr, tk, os⟩ := by
  have hname : (toString "min" ++ toString ".loop" : String) = "min.loop" := by decide
  have hl := hra.len
  intro k
  induction k with
  | zero =>
    intro i hp tk x best hk hi S hx hl' hR
    have hin : i = (as.map Value.ref).length := by rw [List.length_map]; omega
    subst hin
    refine codeAny_builtin F.entry_min_loop ?_
    rw [Around.under_plainId F.plain_min_loop _]
    obtain ⟨o, e, n, rfl⟩ := S.get _ (.tail _ (.head _))
    show wpAny _ A.in1 (seqItems? (.ref B) >>= _) _ _ _
    refine wpAny_bind (wpAny_seqItems e rfl ?_)
    show wpAny _ A.in1 (tryCatch (pyNext (.ref it)) _ >>= _) _ _ _
    refine wpAny_bind (wpAny_tryCatch ((iter_list (A := A.in1) (a := a) (vs := as.map .ref) O.handled).stop S (hl'.more _) fun h' tk' S' => ?_))
    show wpAny _ A.in1 (updateSeq B (fun _ => #[]) >>= _) _ _ _
    refine wpAny_bind (upd_all (ws := []) S' .head (by rw [sizeLine_eq]; show 2 ≤ _; decide) (Nat.zero_le _) fun h₂ S₂ => ?_)
    refine wpAny_bind (wpAny_letGo (wpAny_pure ?_))
    refine hR x h₂ tk' ?_ S₂.drop
    rw [List.drop_eq_nil_of_le (by rw [List.length_map, hl]; exact Nat.le_refl _)]
    exact hx
  | succ k ih =>
    intro i hp tk x best hk hi S hx hl' hR
    have hlt : i < as.length := by omega
    have hlt' : i < rs.length := by omega
    obtain ⟨y, hy1, hy2⟩ := hra.at (List.getElem?_eq_getElem hlt')
    refine codeAny_builtin F.entry_min_loop ?_
    rw [Around.under_plainId F.plain_min_loop _]
    obtain ⟨o, e, n, rfl⟩ := S.get _ (.tail _ (.head _))
    show wpAny _ A.in1 (seqItems? (.ref B) >>= _) _ _ _
    refine wpAny_bind (wpAny_seqItems e rfl ?_)
    show wpAny _ A.in1 (tryCatch (pyNext (.ref it)) _ >>= _) _ _ _
    refine wpAny_bind (wpAny_tryCatch ((iter_list (A := A.in1) (a := a) (vs := as.map .ref) O.handled).next i (by rw [List.length_map]; exact hlt) S (hl'.more _) fun v h' tk' hv S' => ?_))
    have hv' : v = .ref y := by
      rw [List.getElem?_map, hy1] at hv
      exact (Option.some.inj hv).symm
    subst hv'
    rw [List.drop_eq_getElem_cons hlt', List.foldl_cons] at hR
    show wpAny _ A.in1 (tryCatch (holding [.ref y, .ref y] (richCompare .Lt (.ref y) (.ref x) >>= _)) _ >>= _) _ _ _
    refine wpAny_bind (wpAny_tryCatch (wpAny_holding (wpAny_bind (lt_ss (s := ⟨h', gs₀, dr, tk', os⟩) (hy2.keeps S'.keep) (hx.keeps S'.keep) (by show A.units + 1 < cLine; have := O.units; omega) ?_))))
    refine wpAny_bind (wpAny_holding (wpAny_truthy_bool ?_))
    refine wpAny_bind (wpAny_letGo (wpAny_pure ?_))
    unfold minStep at hR
    by_cases hb : ltL rs[i] best = true
    · rw [if_pos hb] at hR ⊢
      refine wpAny_bind (upd_all (ws := [.ref y, .ref y]) S' (.tail .head) (by rw [sizeLine_eq]; show 2 ≤ _; decide) (by rw [sizeLine_eq]; show 2 ≤ _; decide) fun h₂ S₂ => ?_)
      refine wpAny_bind (wpAny_letGo ?_)
      rw [hname]
      exact wpAny_pure ⟨plainId_quiet F.plain_min_loop _, ih (i + 1) h₂ tk' y _ (by omega) hlt S₂ hy2 hl' hR⟩
    · rw [if_neg hb] at hR ⊢
      refine wpAny_bind (wpAny_letGo ?_)
      rw [hname]
      exact wpAny_pure ⟨plainId_quiet F.plain_min_loop _, ih (i + 1) h' tk' x _ (by omega) hlt S' hx hl' hR⟩
theorem min_rows {Q : Value → Shared → Prop} (O : Ok A 4) {r0 : List Str} {rest : List (List Str)} (hra : RowsAt g as (r0 :: rest)) (S : Sx g₀ g L m mu hp) (hl : ListIn g mu a (as.map .ref))
    (h : ∀ x' h' tk', SAt g x' (rest.foldl minStep r0) → Sx g₀ g L m mu h' → Q (.ref x') ⟨h', gs₀, dr, tk', os⟩) : wpAny (model prog w) A (call (.builtin "min") [.ref a]) Q E ⟨hp, gs₀, dr, tk₀, os⟩ := by
  have hname : (toString "min" ++ toString ".loop" : String) = "min.loop" := by decide
  refine call_function_tree F.kind_min F.plain_min F.entry_min (F.args_min1 _) ?_
  show wpAny _ A.in1 (Builtin.Builtins.bindParams "min" ["key", "default"] 0 ⟨[], []⟩ >>= _) _ _ _
  refine wpAny_bind (wpAny_of_eq (show Builtin.Builtins.bindParams "min" ["key", "default"] 0 ⟨[], []⟩ = pure [none, none] from rfl) ?_)
  refine wpAny_bind (wpAny_pure ?_)
  refine wpAny_bind (iter_of_list S hl fun it h₁ S₁ => ?_)
  refine wpAny_bind (new_list (vs := []) S₁ fun B h₂ S₂ => ?_)
  rw [hname]
  refine wpAny_pure ⟨plainId_quiet F.plain_min_loop _, ?_⟩
  have S₂ := S₂.swap
  cases hra with
  | @cons a0 as' _ _ h0 hrest =>
    refine codeAny_builtin F.entry_min_loop ?_
    rw [Around.under_plainId F.plain_min_loop _]
    obtain ⟨o, e, n, rfl⟩ := S₂.get _ (.tail _ (.head _))
    show wpAny _ A.in1 (seqItems? (.ref B) >>= _) _ _ _
    refine wpAny_bind (wpAny_seqItems e rfl ?_)
    show wpAny _ A.in1 (tryCatch (pyNext (.ref it)) _ >>= _) _ _ _
    refine wpAny_bind (wpAny_tryCatch ((iter_list (A := A.in1) (a := a) (vs := (a0 :: as').map .ref) O.handled).next 0 (by simp) S₂ (hl.more _) fun v h' tk' hv S' => ?_))
    have hv' : v = .ref a0 := (Option.some.inj hv).symm
    subst hv'
    show wpAny _ A.in1 (updateSeq B (fun _ => #[.ref a0, .ref a0]) >>= _) _ _ _
    refine wpAny_bind (upd_all (ws := [.ref a0, .ref a0]) S' (.tail .head) (Nat.zero_le _) (by rw [sizeLine_eq]; show 2 ≤ _; decide) fun h₃ S₃ => ?_)
    rw [hname]
    refine wpAny_pure ⟨plainId_quiet F.plain_min_loop _, ?_⟩
    exact min_loop (as := a0 :: as') (rs := r0 :: rest) (Ok.mono (by omega) O) (.cons h0 hrest) _ 1 h₃ tk' a0 r0 rfl (by simp) S₃ h0 hl (fun x' h' tk' hx S' => h x' h' tk' hx S')
theorem max_loop {R : Result → Shared → Prop} (O : Ok A 3) (hra : RowsAt g as rs) :
    ∀ (k i : Nat) (hp : Heap) (tk : Nat) (x : Addr) (best : List Str), as.length - i = k → i ≤ as.length → Sx g₀ g L m ((it, IsLIt a i) :: (B, IsL [.ref x, .ref x]) :: mu) hp → SAt g x best → ListIn g mu a (as.map .ref) →
      (∀ x' h' tk', SAt g x' ((rs.drop i).foldl maxStep best) → Sx g₀ g L m mu h' → R (.ok (.ret (.ref x'))) ⟨h', gs₀, dr, tk', os⟩) → codeAny (model prog w) A (.builtin "max.loop" ⟨[.ref it, .none, .ref B], []⟩) R ⟨hp, gs₀, dr, tk, os⟩ := by
  have hname : (toString "max" ++ toString ".loop" : String) = "max.loop" := by decide
  have hl := hra.len
  intro k
  induction k with
  | zero =>
    intro i hp tk x best hk hi S hx hl' hR
    have hin : i = (as.map Value.ref).length := by rw [List.length_map]; omega
    subst hin
    refine codeAny_builtin F.entry_max_loop ?_
    rw [Around.under_plainId F.plain_max_loop _]
    obtain ⟨o, e, n, rfl⟩ := S.get _ (.tail _ (.head _))
    show wpAny _ A.in1 (seqItems? (.ref B) >>= _) _ _ _
    refine wpAny_bind (wpAny_seqItems e rfl ?_)
    show wpAny _ A.in1 (tryCatch (pyNext (.ref it)) _ >>= _) _ _ _
    refine wpAny_bind (wpAny_tryCatch ((iter_list (A := A.in1) (a := a) (vs := as.map .ref) O.handled).stop S (hl'.more _) fun h' tk' S' => ?_))
    show wpAny _ A.in1 (updateSeq B (fun _ => #[]) >>= _) _ _ _
    refine wpAny_bind (upd_all (ws := []) S' .head (by rw [sizeLine_eq]; show 2 ≤ _; decide) (Nat.zero_le _) fun h₂ S₂ => ?_)
    refine wpAny_bind (wpAny_letGo (wpAny_pure ?_))
    refine hR x h₂ tk' ?_ S₂.drop
    rw [List.drop_eq_nil_of_le (by rw [List.length_map, hl]; exact Nat.le_refl _)]
    exact hx
  | succ k ih =>
    intro i hp tk x best hk hi S hx hl' hR
    have hlt : i < as.length := by omega
    have hlt' : i < rs.length := by omega
    obtain ⟨y, hy1, hy2⟩ := hra.at (List.getElem?_eq_getElem hlt')
    refine codeAny_builtin F.entry_max_loop ?_
    rw [Around.under_plainId F.plain_max_loop _]
    obtain ⟨o, e, n, rfl⟩ := S.get _ (.tail _ (.head _))
    show wpAny _ A.in1 (seqItems? (.ref B) >>= _) _ _ _
    refine wpAny_bind (wpAny_seqItems e rfl ?_)
    show wpAny _ A.in1 (tryCatch (pyNext (.ref it)) _ >>= _) _ _ _
    refine wpAny_bind (wpAny_tryCatch ((iter_list (A := A.in1) (a := a) (vs := as.map .ref) O.handled).next i (by rw [List.length_map]; exact hlt) S (hl'.more _) fun v h' tk' hv S' => ?_))
    have hv' : v = .ref y := by
      rw [List.getElem?_map, hy1] at hv
      exact (Option.some.inj hv).symm
    subst hv'
    rw [List.drop_eq_getElem_cons hlt', List.foldl_cons] at hR
    show wpAny _ A.in1 (tryCatch (holding [.ref y, .ref y] (richCompare .Gt (.ref y) (.ref x) >>= _)) _ >>= _) _ _ _
    refine wpAny_bind (wpAny_tryCatch (wpAny_holding (wpAny_bind (gt_ss (s := ⟨h', gs₀, dr, tk', os⟩) (hy2.keeps S'.keep) (hx.keeps S'.keep) (by show A.units + 1 < cLine; have := O.units; omega) ?_))))
    refine wpAny_bind (wpAny_holding (wpAny_truthy_bool ?_))
    refine wpAny_bind (wpAny_letGo (wpAny_pure ?_))
    unfold maxStep at hR
    by_cases hb : ltL best rs[i] = true
    · rw [if_pos hb] at hR ⊢
      refine wpAny_bind (upd_all (ws := [.ref y, .ref y]) S' (.tail .head) (by rw [sizeLine_eq]; show 2 ≤ _; decide) (by rw [sizeLine_eq]; show 2 ≤ _; decide) fun h₂ S₂ => ?_)
      refine wpAny_bind (wpAny_letGo ?_)
      rw [hname]
      exact wpAny_pure ⟨plainId_quiet F.plain_max_loop _, ih (i + 1) h₂ tk' y _ (by omega) hlt S₂ hy2 hl' hR⟩
    · rw [if_neg hb] at hR ⊢
      refine wpAny_bind (wpAny_letGo ?_)
      rw [hname]
      exact wpAny_pure ⟨plainId_quiet F.plain_max_loop _, ih (i + 1) h' tk' x _ (by omega) hlt S' hx hl' hR⟩
theorem max_rows {Q : Value → Shared → Prop} (O : Ok A 4) {r0 : List Str} {rest : List (List Str)} (hra : RowsAt g as (r0 :: rest)) (S : Sx g₀ g L m mu hp) (hl : ListIn g mu a (as.map .ref))
    (h : ∀ x' h' tk', SAt g x' (rest.foldl maxStep r0) → Sx g₀ g L m mu h' → Q (.ref x') ⟨h', gs₀, dr, tk', os⟩) : wpAny (model prog w) A (call (.builtin "max") [.ref a]) Q E ⟨hp, gs₀, dr, tk₀, os⟩ := by
  have hname : (toString "max" ++ toString ".loop" : String) = "max.loop" := by decide
  refine call_function_tree F.kind_max F.plain_max F.entry_max (F.args_max1 _) ?_
  show wpAny _ A.in1 (Builtin.Builtins.bindParams "max" ["key", "default"] 0 ⟨[], []⟩ >>= _) _ _ _
  refine wpAny_bind (wpAny_of_eq (show Builtin.Builtins.bindParams "max" ["key", "default"] 0 ⟨[], []⟩ = pure [none, none] from rfl) ?_)
  refine wpAny_bind (wpAny_pure ?_)
  refine wpAny_bind (iter_of_list S hl fun it h₁ S₁ => ?_)
  refine wpAny_bind (new_list (vs := []) S₁ fun B h₂ S₂ => ?_)
  rw [hname]
  refine wpAny_pure ⟨plainId_quiet F.plain_max_loop _, ?_⟩
  have S₂ := S₂.swap
  cases hra with
  | @cons a0 as' _ _ h0 hrest =>
    refine codeAny_builtin F.entry_max_loop ?_
    rw [Around.under_plainId F.plain_max_loop _]
    obtain ⟨o, e, n, rfl⟩ := S₂.get _ (.tail _ (.head _))
    show wpAny _ A.in1 (seqItems? (.ref B) >>= _) _ _ _
    refine wpAny_bind (wpAny_seqItems e rfl ?_)
    show wpAny _ A.in1 (tryCatch (pyNext (.ref it)) _ >>= _) _ _ _
    refine wpAny_bind (wpAny_tryCatch ((iter_list (A := A.in1) (a := a) (vs := (a0 :: as').map .ref) O.handled).next 0 (by simp) S₂ (hl.more _) fun v h' tk' hv S' => ?_))
    have hv' : v = .ref a0 := (Option.some.inj hv).symm
    subst hv'
    show wpAny _ A.in1 (updateSeq B (fun _ => #[.ref a0, .ref a0]) >>= _) _ _ _
    refine wpAny_bind (upd_all (ws := [.ref a0, .ref a0]) S' (.tail .head) (Nat.zero_le _) (by rw [sizeLine_eq]; show 2 ≤ _; decide) fun h₃ S₃ => ?_)
    rw [hname]
    refine wpAny_pure ⟨plainId_quiet F.plain_max_loop _, ?_⟩
    exact max_loop (as := a0 :: as') (rs := r0 :: rest) (Ok.mono (by omega) O) (.cons h0 hrest) _ 1 h₃ tk' a0 r0 rfl (by simp) S₃ h0 hl (fun x' h' tk' hx S' => h x' h' tk' hx S')
end
end
section
/-! ## for i, c in enumerate(list) -/
def IsEn (it : Addr) (i : Nat) (o : Obj) : Prop := ∃ old, o = { cls := .type "enumerate", dict := none, data := .fields #[.none, .bool false, .ref it, rawInt (i : Int), .none, old], slots := #[] }
section
variable {prog : Program} {w : World} {A : Around} {hp : Heap} {gs₀ : Array GenState} {dr : Drawn} {tk₀ : Nat} {os : OsState} {E : Value → Shared → Prop} {g₀ g : Heap} {L a it e : Addr} {m : Str → Option Value} {mu : Mut} {vs : List Value}
theorem Sx.push2 {h h' : Heap} {r1 r2 : Addr} {o1 o2 : Obj} {P1 P2 : Obj → Prop} (S : Sx g₀ g L m mu h) (k : Keep h h') (n1 : h.get? r1 = none) (n2 : h.get? r2 = none) (hne : r1 ≠ r2) (e1 : h'.get? r1 = some o1) (e2 : h'.get? r2 = some o2) (q1 : P1 o1) (q2 : P2 o2) :
    Sx g₀ g L m ((r1, P1) :: (r2, P2) :: mu) h' := by
  have S₁ := S.adopt (P := P2) k n2 e2 q2
  refine ⟨S₁.base, S₁.ns, ?_, S₁.keep, S₁.gL, ?_, ?_, ?_⟩
  · intro q hq
    cases hq with
    | head => exact ⟨o1, e1, q1⟩
    | tail _ hq => exact S₁.get q hq
  · intro q hq
    cases hq with
    | head =>
      show g.get? r1 = none
      cases e : g.get? r1 with
      | none => rfl
      | some o' => rw [S.keep _ _ e] at n1; cases n1
    | tail _ hq => exact S₁.gm q hq
  · intro q hq
    cases hq with
    | head =>
      intro e
      have e : r1 = L := e
      obtain ⟨ol, _, _, e', _⟩ := S.ns
      rw [← e, n1] at e'; cases e'
    | tail _ hq => exact S₁.nL q hq
  · refine .cons ?_ S₁.nd
    intro b hb
    simp only [List.map_cons, List.mem_cons] at hb
    rcases hb with rfl | hb
    · exact hne
    · obtain ⟨q, hq, rfl⟩ := List.mem_map.mp hb
      intro e
      obtain ⟨o', e', _⟩ := S.get q hq
      have e : r1 = q.1 := e
      rw [← e, n1] at e'; cases e'
theorem en_new {Q : Value → Shared → Prop} (S : Sx g₀ g L m mu hp) (hl : LAt hp a vs) (h : ∀ e it h', Sx g₀ g L m ((e, IsEn it 0) :: (it, IsLIt a 0) :: mu) h' → Q (.ref e) ⟨h', gs₀, dr, tk₀, os⟩) :
    wpAny (model prog w) A (call (.type "enumerate") [.ref a]) Q E ⟨hp, gs₀, dr, tk₀, os⟩ := by
  refine call_enumerate_list (s := ⟨hp, gs₀, dr, tk₀, os⟩) hl.isList fun h' he hit hz hk => ?_
  obtain ⟨o, ho, hc, hd⟩ := hit
  exact h _ _ h' (S.push2 (P1 := IsEn hp.objs.size 0) (P2 := IsLIt a 0) hk (Heap.get?_none_of_le (Nat.le_succ _)) (Heap.get?_none_of_le (Nat.le_refl _)) (Nat.succ_ne_self _) he ho ⟨.none, rfl⟩ ⟨hc, hd⟩)
theorem en_item {Q : Addr → Unit → Shared → Prop} {E₂ : Value → Shared → Prop} {elts : List PySem.Expr} {x1 : Nat} {pos : Pos} {i : Nat} {x : Value} (S : Sx g₀ g L m ((e, IsEn it i) :: (it, IsLIt a i) :: mu) hp) (hl : ListIn g mu a vs) (hx : vs[i]? = some x)
    (h : ∀ T t h' tk, Sx g₀ g L m ((T, IsT [.int (i : Int) t, x]) :: (e, IsEn it (i + 1)) :: (it, IsLIt a (i + 1)) :: mu) h' → Q T () ⟨h', gs₀, dr, tk, os⟩) :
    wpAny (model prog w) A (pyNext (.ref e)) (fun r s₁ => ∃ T, r = some (.ref T) ∧ wpAny (model prog w) A (letOwnedTupleGo (.Tuple elts x1 pos) (.ref e) (.ref T)) (Q T) E₂ s₁) E ⟨hp, gs₀, dr, tk₀, os⟩ := by
  obtain ⟨oe, he, old, rfl⟩ := S.get _ (.head _)
  obtain ⟨oi, ho, hc, hd⟩ := S.get _ (.tail _ (.head _))
  have hne : e ≠ it := (List.pairwise_cons.mp S.nd).1 _ (.head _)
  have hL := hl.here S.drop.drop
  have hx' : vs.toArray[i]? = some x := by simpa using hx
  refine wpAny_pyNext_enum_item (s := ⟨hp, gs₀, dr, tk₀, os⟩) he ⟨oi, ho, hc, hd⟩ hL hx' hne fun h₁ heo hit₁ ht₁ hz₁ hk₁ => ⟨_, rfl, ?_⟩
  refine wpAny_letOwnedTupleGo_enum (s := ⟨h₁, gs₀, dr, tk₀ + 1, os⟩) heo fun h₂ he₂ hs₂ => ?_
  obtain ⟨oi1, ho1, hc1, hd1⟩ := hit₁
  have hTe : hp.objs.size ≠ e := Nat.ne_of_gt (Heap.lt_size he)
  have hTi : hp.objs.size ≠ it := Nat.ne_of_gt (Heap.lt_size ho)
  have keepO : ∀ b o, b ≠ e → b ≠ it → hp.get? b = some o → h₂.get? b = some o := fun b o n1 n2 q => (hs₂.2 b n1).trans (hk₁ b o n1 n2 q)
  have cast : ((i + 1 : Nat) : Int) = (i : Int) + 1 := by push_cast; rfl
  refine h hp.objs.size tk₀ h₂ _ ?_
  refine ⟨S.base, ?_, ?_, ?_, S.gL, ?_, ?_, ?_⟩
  · obtain ⟨o, es, ep, q, r⟩ := S.ns
    exact ⟨o, es, ep, keepO _ _ (Ne.symm (S.nL _ (.head _))) (Ne.symm (S.nL _ (.tail _ (.head _)))) q, r⟩
  · intro p hp'
    cases hp' with
    | head => exact ⟨_, (hs₂.2 _ hTe).trans ht₁, 0, rfl⟩
    | tail _ hp' =>
      cases hp' with
      | head => exact ⟨_, he₂, x, by rw [cast]⟩
      | tail _ hp' =>
        cases hp' with
        | head => exact ⟨oi1, (hs₂.2 _ (Ne.symm hne)).trans ho1, hc1, hd1⟩
        | tail _ hp' =>
          obtain ⟨o, q, r⟩ := S.get p (.tail _ (.tail _ hp'))
          have n1 : p.1 ≠ e := Ne.symm ((List.pairwise_cons.mp S.nd).1 _ (.tail _ (List.mem_map_of_mem (f := fun q : Addr × (Obj → Prop) => q.1) hp')))
          have n2 : p.1 ≠ it := Ne.symm ((List.pairwise_cons.mp S.drop.nd).1 _ (List.mem_map_of_mem (f := fun q : Addr × (Obj → Prop) => q.1) hp'))
          exact ⟨o, keepO _ _ n1 n2 q, r⟩
  · intro b o q
    have n1 : b ≠ e := fun z => by have := S.gm _ (.head _); rw [z] at q; rw [q] at this; cases this
    have n2 : b ≠ it := fun z => by have := S.gm _ (.tail _ (.head _)); rw [z] at q; rw [q] at this; cases this
    exact keepO b o n1 n2 (S.keep _ _ q)
  · intro p hp'
    cases hp' with
    | head =>
      show g.get? hp.objs.size = none
      cases q : g.get? hp.objs.size with
      | none => rfl
      | some o => exact absurd (Heap.lt_size (S.keep _ _ q)) (Nat.lt_irrefl _)
    | tail _ hp' =>
      cases hp' with
      | head => exact S.gm (e, IsEn it i) (.head _)
      | tail _ hp' =>
        cases hp' with
        | head => exact S.gm (it, IsLIt a i) (.tail _ (.head _))
        | tail _ hp' => exact S.gm p (.tail _ (.tail _ hp'))
  · intro p hp'
    cases hp' with
    | head => exact Nat.ne_of_gt S.ns.lt
    | tail _ hp' =>
      cases hp' with
      | head => exact S.nL (e, IsEn it i) (.head _)
      | tail _ hp' =>
        cases hp' with
        | head => exact S.nL (it, IsLIt a i) (.tail _ (.head _))
        | tail _ hp' => exact S.nL p (.tail _ (.tail _ hp'))
  · refine .cons ?_ S.nd
    intro b hb
    simp only [List.map_cons, List.mem_cons] at hb
    rcases hb with rfl | rfl | hb
    · exact hTe
    · exact hTi
    · obtain ⟨q, hq, rfl⟩ := List.mem_map.mp hb
      obtain ⟨o, z, _⟩ := S.get q (.tail _ (.tail _ hq))
      exact Nat.ne_of_gt (Heap.lt_size z)
theorem en_turn {P : Value → Shared → Prop} {N : Shared → Prop} {E₂ : Value → Shared → Prop} {elts : List PySem.Expr} {x1 : Nat} {pos : Pos} {i : Nat} {x : Value} (S : Sx g₀ g L m ((e, IsEn it i) :: (it, IsLIt a i) :: mu) hp) (hl : ListIn g mu a vs) (hx : vs[i]? = some x)
    (h : ∀ T t h' tk, Sx g₀ g L m ((T, IsT [.int (i : Int) t, x]) :: (e, IsEn it (i + 1)) :: (it, IsLIt a (i + 1)) :: mu) h' → P (.ref T) ⟨h', gs₀, dr, tk, os⟩) :
    wpAny (model prog w) A (pyNext (.ref e)) (fun r s₁ => match r with
      | none => N s₁
      | some v => wpAny (model prog w) A (letOwnedTupleGo (.Tuple elts x1 pos) (.ref e) v) (fun _ s₂ => P v s₂) E₂ s₁) E ⟨hp, gs₀, dr, tk₀, os⟩ := by
  refine wpAny_mono (en_item (E₂ := E₂) (elts := elts) (x1 := x1) (pos := pos) (Q := fun T _ s => P (.ref T) s) S hl hx h) (fun r s₁ hr => ?_) fun _ _ z => z
  obtain ⟨T, rfl, hr⟩ := hr
  exact hr
theorem en_stop {Q : Option Value → Shared → Prop} (hh : A.handled = none) (S : Sx g₀ g L m ((e, IsEn it vs.length) :: (it, IsLIt a vs.length) :: mu) hp) (hl : ListIn g mu a vs) (h : ∀ h', Sx g₀ g L m mu h' → Q none ⟨h', gs₀, dr, tk₀, os⟩) :
    wpAny (model prog w) A (pyNext (.ref e)) Q E ⟨hp, gs₀, dr, tk₀, os⟩ := by
  obtain ⟨oe, he, old, rfl⟩ := S.get _ (.head _)
  obtain ⟨oi, ho, hc, hd⟩ := S.get _ (.tail _ (.head _))
  refine wpAny_pyNext_enum_end (s := ⟨hp, gs₀, dr, tk₀, os⟩) hh he ⟨oi, ho, hc, hd⟩ (hl.here S.drop.drop) (by simp) fun h' hs => ?_
  exact h h' (ext_lose S.drop hs)
theorem en_self {Q : Value → Shared → Prop} {i : Nat} (he : ∃ o, hp.get? e = some o ∧ IsEn it i o) (h : Q (.ref e) ⟨hp, gs₀, dr, tk₀, os⟩) : wpAny (model prog w) A (pyIter (.ref e)) Q E ⟨hp, gs₀, dr, tk₀, os⟩ := by
  obtain ⟨o, he, old, rfl⟩ := he
  have hT : (⟨hp, gs₀, dr, tk₀, os⟩ : Shared).TypeIs (.ref e) "enumerate" := ⟨_, he, rfl⟩
  refine wpAny_pyIter_slot hT F.slot_enumerate_iter (wpAny_call_entry F.slot_enumerate_iter hT F.entry_enumerate_iter ?_ (F.args_enumerate_iter_1 _))
  show wpAny _ _ (ret (.ref e)) _ _ _
  exact wpAny_pure ⟨_, rfl, "enumerate", _, hT, F.slot_enumerate_next.lookup, h⟩
end
end
section
/-! ## commonpath -/
def keepC (c : Str) : Bool := decide (c ≠ "") && decide (c ≠ ".")
def partsF (x : Str) : List Str := (Txt.split x "/").filter keepC
def cpref : List Str → List Str → List Str
  | [], _ => []
  | _ :: _, [] => []
  | x :: xs, y :: ys => if x = y then x :: cpref xs ys else []
def loR : List (List Str) → List Str
  | [] => []
  | r :: rest => rest.foldl minStep r
def hiR : List (List Str) → List Str
  | [] => []
  | r :: rest => rest.foldl maxStep r
def commonF (xs : List Str) : Str := "/" ++ Txt.join "/" (cpref (loR (xs.map partsF)) (hiR (xs.map partsF)))
abbrev cpEnv (L : Addr) : Env := envX "commonpath" (scopeOf (stmtAt 18)) L 141 (.ref 140) [("curdir", L + 2), ("sep", L + 1)]
section
variable {K : Frag} {prog : Program} {w : World} {A : Around} {hp : Heap} {gs₀ : Array GenState} {dr : Drawn} {tk₀ : Nat} {os : OsState} {E : Value → Shared → Prop} {Q : Value → Shared → Prop} {g₀ g : Heap} {L : Addr} {m : Str → Option Value} {mu : Mut}
theorem cpref_wt : ∀ a b : List Str, wt (cpref a b) ≤ wt a
  | [], _ => Nat.le_refl _
  | x :: xs, [] => Nat.zero_le _
  | x :: xs, y :: ys => by
    unfold cpref
    split
    · have := cpref_wt xs ys
      have h3 : ∀ l : List Str, wt (x :: l) = x.length + 1 + wt l := fun l => by simp [wt]; omega
      rw [h3, h3]; omega
    · exact Nat.zero_le _
theorem cpref_all : ∀ a b : List Str, a = b.take a.length → cpref a b = a
  | [], _, _ => rfl
  | x :: xs, [], h => by simp at h
  | x :: xs, y :: ys, h => by
    simp only [List.length_cons, List.take_succ_cons, List.cons.injEq] at h
    unfold cpref
    rw [if_pos h.1, cpref_all xs ys h.2]
theorem cpref_cut : ∀ (i : Nat) (a b : List Str) (x y : Str), a.take i = b.take i → a[i]? = some x → b[i]? = some y → x ≠ y → cpref a b = a.take i
  | 0, x :: xs, y :: ys, _, _, _, h1, h2, hne => by
    simp only [List.getElem?_cons_zero, Option.some.injEq] at h1 h2
    subst h1 h2
    unfold cpref
    rw [if_neg hne]; rfl
  | i + 1, x :: xs, y :: ys, u, v, ht, h1, h2, hne => by
    simp only [List.take_succ_cons, List.cons.injEq, List.getElem?_cons_succ] at ht h1 h2
    unfold cpref
    rw [if_pos ht.1, cpref_cut i xs ys u v ht.2 h1 h2 hne]; rfl
  | 0, [], _, _, _, _, h1, _, _ => by simp at h1
  | i + 1, [], _, _, _, _, h1, _, _ => by simp at h1
  | 0, _ :: _, [], _, _, _, _, h2, _ => by simp at h2
  | i + 1, _ :: _, [], _, _, _, _, h2, _ => by simp at h2
theorem lo_mem : ∀ (rest : List (List Str)) (r0 : List Str), rest.foldl minStep r0 ∈ r0 :: rest
  | [], r0 => .head _
  | r :: rest, r0 => by
    rw [List.foldl_cons]
    have := lo_mem rest (minStep r0 r)
    rcases List.mem_cons.mp this with h | h
    · rw [h]
      unfold minStep
      split
      · exact .tail _ (.head _)
      · exact .head _
    · exact .tail _ (.tail _ h)
theorem filter_wt (p : Str → Bool) : ∀ l : List Str, wt (l.filter p) ≤ wt l
  | [] => Nat.le_refl _
  | c :: cs => by
    have := filter_wt p cs
    have h3 : ∀ l : List Str, wt (c :: l) = c.length + 1 + wt l := fun l => by simp [wt]; omega
    rw [List.filter_cons]
    split
    · rw [h3, h3]; omega
    · rw [h3]; omega
theorem tr_tup {Q : Bool → Shared → Prop} {T : Addr} {vs : List Value} (S : Sx g₀ g L m mu hp) (hm : (T, IsT vs) ∈ mu) (hn : vs.length ≤ 4096) (h : ∀ tk, Q (!vs.isEmpty) ⟨hp, gs₀, dr, tk, os⟩) : wpAny (model prog w) A (truthy (.ref T)) Q E ⟨hp, gs₀, dr, tk₀, os⟩ := by
  refine PyProof.Rows.truthy_tuple (s := ⟨hp, gs₀, dr, tk₀, os⟩) (S.tup hm) (by rw [List.size_toArray, show ((2 : Int) ^ 63) = 9223372036854775808 from by decide]; omega) ?_
  rw [List.isEmpty_toArray]
  exact h _
theorem common_ok (KK : KF K) {R : Result → Shared → Prop} {a : Addr} {xs : List Str} (C : Cx K hp) (O : Ok A 16) (ha : SAt hp a xs) (hne : xs ≠ []) (hn : xs.length ≤ 400) (hx : ∀ x ∈ xs, x.length ≤ 1000 ∧ Txt.startswith x "/" = true)
    (hok : ∀ i, (loR (xs.map partsF)).take i = (hiR (xs.map partsF)).take i → i < (loR (xs.map partsF)).length → i < (hiR (xs.map partsF)).length)
    (h : ∀ h' tk t', Keep hp h' → R (.ok (.ret (.str (commonF xs) t'))) ⟨h', gs₀, dr, tk, os⟩) :
    codeAny (model prog w) A (.call (.ref 141) ⟨[.ref a], []⟩) R ⟨hp, gs₀, dr, tk₀, os⟩ := by
  refine call_defC KK.commonpath (binds := [("paths", .ref a)]) C O.room (fun _ _ => rfl) (by intro y hy; simp only [List.mem_singleton] at hy; subst hy; rfl) ?_ ?_
  · intro p hq
    change p ∈ [(("curdir" : Str), hp.objs.size + 1 + 1), (("sep" : Str), hp.objs.size + 1)] at hq
    simp only [List.mem_cons, List.not_mem_nil, or_false] at hq
    rcases hq with rfl | rfl <;> rfl
  intro h₁ tk₁ S₀
  generalize hL : hp.objs.size = L at S₀ ⊢
  have S₁ : Sx hp hp L (bindL (fun y => (scopeOf (stmtAt 18)).names.lookup y) [("paths", .ref a)] fun _ => none) [(L + 2, IsC none), (L + 1, IsC none)] h₁ := S₀
  clear S₀
  change wpAny _ (A.deeper (cpEnv L)) (execs _ (cpEnv L)) _ (fun e s' => wpAny _ (A.deeper (cpEnv L)) (leaving (cpEnv L) e) _ _ s') _
  obtain ⟨l, rfl, hl⟩ := ha.open
  have hln : l.length ≤ 400 := by rw [List.length_map] at hn; exact hn
  refine wpAny_execs_cons ?_
  walk_at "mm"
  refine map_new (l := l) S₁ (.inl hl.isList) ?_
  intro mp TI it h₂ S₂
  walk_at "mm"
  refine tuple_map KK (by walk_at "ok") S₂ C ⟨by walk_at "mem", by walk_at "mem", .inl hl.isList⟩ (by rw [sizeLine_eq]; omega) ?_
  intro T l' h₃ tk₃ hl' S₃
  walk_at "mm"
  have hll : l'.length = l.length := by have := congrArg List.length hl'; rwa [List.length_map, List.length_map] at this
  have hl0 : l' ≠ [] := by
    intro q; rw [q] at hl'; exact hne hl'.symm
  rename Sx _ _ _ _ _ _ => S₄
  refine tr_tup (vs := strValues l') S₄ (by walk_at "mem") (by rw [strValues_length]; omega) ?_
  intro tk₄
  refine ite_neg (by cases l' with
    | nil => exact absurd rfl hl0
    | cons p q => simp [strValues]) ?_
  walk_at "mm"
  obtain ⟨x0, t0, hx0⟩ : ∃ x0 t0, (strValues l')[0]? = some (.str x0 t0) := by
    cases l' with
    | nil => exact absurd rfl hl0
    | cons p q => exact ⟨p.1, p.2, rfl⟩
  refine PyProof.Rows.item_tupleL (j := 0) (S₄.tup (by walk_at "mem")) (by decide) (by decide) ?_ hx0 ?_
  · rw [strValues_length]
    cases l' with
    | nil => exact absurd rfl hl0
    | cons p q => simp [seqIndex?]
  walk_at "mm"
  refine st_cell (c := L + 1) (v₀ := none) S₄ rfl (.tail (.tail (.tail (.tail .head)))) ?_
  intro h₆ S₆
  walk_at "mm"
  refine st_cell (c := L + 2) (v₀ := none) S₆ rfl (.tail (.tail (.tail .head))) ?_
  intro h₇ S₇
  walk_at "mm"
  obtain ⟨m8, t1, t2, hm8, S₈⟩ : ∃ m8 t1 t2, m8 "paths" = some (.ref T) ∧ Sx hp hp L m8 [(T, IsT (strValues l')), (L + 2, IsC (some (Value.str "." t2))), (L + 1, IsC (some (Value.str "/" t1)))] h₇ :=
    ⟨_, _, _, by walk_at "lk", S₇.sub (by walk_at "sub")⟩
  clear S₇ S₆ S₄ S₃ S₂
  revert hne hx hok h
  rw [← hl']
  intro hne hx hok h
  clear hl'
  have hpn : ∀ x : Str × Tok, x ∈ l' → x.1.length ≤ 4096 ∧ Txt.startswith x.1 "/" = true := fun x hq => by
    have := hx x.1 (List.mem_map_of_mem hq)
    exact ⟨by omega, this.2⟩
  have hln' : l'.length ≤ 400 := by omega
  have at' : ∀ (j : Nat) (v : Value), (strValues l')[j]? = some v → ∃ x t, l'[j]? = some (x, t) ∧ v = Value.str x t := fun j v hv => by
    simp only [strValues, List.getElem?_map, Option.map_eq_some_iff] at hv
    obtain ⟨⟨x, t⟩, e, rfl⟩ := hv
    exact ⟨x, t, e, rfl⟩
  refine comp_to (cl := [("sep", L + 1)]) (by rfl) ?_
  walk_at "mm"
  refine iter_of_tup S₈ (.inr (by walk_at "mem")) ?_
  intro it1 h9 S9
  refine comp_run_to (iter_tup (vs := strValues l') O.handled)
    (fun j ys g2 mu2 gs2 => gs2 = gs₀ ∧ mu2 = [(T, IsT (strValues l')), (L + 2, IsC (some (Value.str "." t2))), (L + 1, IsC (some (Value.str "/" t1)))] ∧ Keep hp g2 ∧
      ∃ bs, ys = bs.map .ref ∧ RowsAt g2 bs ((l'.take j).map fun x => Txt.split x.1 "/"))
    S9 ⟨rfl, rfl, Keep.rfl', [], rfl, .nil⟩ ?_ ?_ ?_ (by rw [strValues_length, sizeLine_eq]; omega)
  · rintro j ys g2 mu2 gs2 ⟨rfl, rfl, k2, bs, rfl, hB⟩
    refine ⟨.inr (by walk_at "mem"), ?_⟩
    rw [List.length_map, hB.len, List.length_map]
    exact List.length_take_le _ _
  · intro j v ys g2 mc2 mu2 gs2 h2 tk2 acc Cc E2 hj hv2 hJ2 hk2 S2
    obtain ⟨rfl, rfl, k2, bs, rfl, hB⟩ := hJ2
    obtain ⟨x, t, hlj, rfl⟩ := at' j v hv2
    have hxl := (hpn _ (List.mem_of_getElem? hlj)).1
    refine ifs_nil ?_
    refine ite_pos rfl ?_
    walk_at "mm"
    refine sp_str S2 hxl (by decide) ?_
    intro D h3 tk3 S3
    obtain ⟨g3, k3, S4, o3, e3, p3⟩ := S3.settle
    refine ⟨_, _, _, _, _, _, rfl, k3, S4, rfl, rfl, k2.trans k3, bs ++ [D], by simp, ?_⟩
    rw [List.take_add_one, hlj, List.map_append]
    exact (hB.keeps k3).app (.cons ⟨o3, e3, p3⟩ .nil)
  intro ys g2 mu2 gs2 h2 tk2 acc hJ2 hk2 S2
  obtain ⟨rfl, rfl, k2, bs, rfl, hB⟩ := hJ2
  rw [show l'.take (strValues l').length = l' from List.take_of_length_le (by rw [strValues_length]; exact Nat.le_refl _)] at hB
  walk_at "mm"
  refine scomp_eval (cl := [("sep", L + 1)]) (by rfl) ?_
  walk_at "mm"
  refine iter_of_tup S2 (.inr (by walk_at "mem")) ?_
  intro it3 h3 S3
  refine scomp_run (iter_tup (vs := strValues l') O.handled) S3 (.inr (by walk_at "mem")) (by rw [strValues_length]; intro q; exact hl0 (List.length_eq_zero_iff.mp q)) ?_ ?_
  · intro i v mc3 h4 tk4 acc3 Cc3 E3 hi hv3 S4
    obtain ⟨x, t, hlj, rfl⟩ := at' i v hv3
    have hst := (hpn _ (List.mem_of_getElem? hlj)).2
    walk_at "mm"
    rw [hst]
    exact ⟨rfl, _, _, _, rfl, S4⟩
  intro h4 tk4 acc3 S4
  refine unpack_one S4 (by walk_at "mem") O.handled rfl rfl ?_
  intro h5 S5
  walk_at "mm"
  rename Sx _ _ _ _ _ _ => S6
  refine comp_to (cl := [("curdir", L + 2)]) (by rfl) ?_
  walk_at "mm"
  refine iter_of_list S6 (.inr (by walk_at "mem")) ?_
  intro it5 h7 S7
  have lb : bs.length = l'.length := by rw [hB.len, List.length_map]
  refine comp_run_to (iter_list (vs := bs.map .ref) O.handled)
    (fun j ys g3 mu3 gs3 => gs3 = gs2 ∧ mu3 = [(acc3, IsOne w), (acc, IsL (bs.map .ref)), (T, IsT (strValues l')), (L + 2, IsC (some (Value.str "." t2))), (L + 1, IsC (some (Value.str "/" t1)))] ∧ Keep g2 g3 ∧
      ∃ ds, ys = ds.map .ref ∧ RowsAt g3 ds ((l'.take j).map fun x => partsF x.1))
    S7 ⟨rfl, rfl, Keep.rfl', [], rfl, .nil⟩ ?_ ?_ ?_ (by rw [List.length_map, lb, sizeLine_eq]; omega)
  · rintro j ys g3 mu3 gs3 ⟨rfl, rfl, k3, ds, rfl, hD⟩
    refine ⟨.inr (by walk_at "mem"), ?_⟩
    rw [List.length_map, hD.len, List.length_map]
    exact List.length_take_le _ _
  · intro j v ys g3 mc3 mu3 gs3 h8 tk8 acc4 Cc4 E4 hj hv8 hJ8 hk8 S8
    obtain ⟨rfl, rfl, k3, ds, rfl, hD⟩ := hJ8
    have hj' : j < l'.length := by rw [List.length_map, lb] at hj; exact hj
    obtain ⟨y, hy1, hy2⟩ := hB.at (i := j) (r := Txt.split l'[j].1 "/") (by simp [hj'])
    have hv' : v = .ref y := by
      rw [List.getElem?_map, hy1] at hv8
      exact (Option.some.inj hv8).symm
    subst hv'
    have hxl := hx l'[j].1 (List.mem_map_of_mem (List.getElem_mem hj'))
    have hpf : partsF l'[j].1 = (Txt.split l'[j].1 "/").filter keepC := rfl
    have htk : (l'.take (j + 1)).map (fun x => partsF x.1) = (l'.take j).map (fun x => partsF x.1) ++ [partsF l'[j].1] := by rw [List.take_add_one, List.getElem?_eq_getElem hj', List.map_append]; rfl
    rw [htk, hpf]
    have hsw : wt (Txt.split l'[j].1 "/") ≤ 1001 := by
      have h3 := PyProof.Rows.split_weight l'[j].1 "/" (by decide)
      show (List.map (fun x => x.length) (Txt.split l'[j].1 "/")).sum + (Txt.split l'[j].1 "/").length ≤ 1001
      omega
    generalize Txt.split l'[j].1 "/" = cs at hy2 hsw
    obtain ⟨lc, hlc, hyl⟩ := hy2.open
    have hlcl : lc.length = cs.length := by rw [← hlc, List.length_map]
    have hcl := len_le_wt cs
    refine ifs_nil ?_
    refine ite_pos rfl ?_
    refine comp_eval (cl := [("curdir", L + 2)]) (by rfl) ?_
    walk_at "mm"
    refine iter_of_list S8 (.inl (hyl.keeps k3).isList) ?_
    intro it6 h9 S9
    refine comp_run (iter_list (vs := strValues lc) O.handled)
      (fun i ys g4 mu4 gs4 => gs4 = gs3 ∧ mu4 = (it5, IsLIt acc (j + 1)) :: (acc4, IsL (ds.map .ref)) :: (L, IsNs _) :: [(acc3, IsOne w), (acc, IsL (bs.map .ref)), (T, IsT (strValues l')), (L + 2, IsC (some (Value.str "." t2))), (L + 1, IsC (some (Value.str "/" t1)))] ∧ Keep g3 g4 ∧
        ∃ le : List (Str × Tok), ys = strValues le ∧ le.map (·.1) = (cs.take i).filter keepC)
      S9 ⟨rfl, rfl, Keep.rfl', [], rfl, rfl⟩ ?_ ?_ ?_ (by rw [strValues_length, hlcl, sizeLine_eq]; omega)
    · rintro i ys g4 mu4 gs4 ⟨rfl, rfl, k4, le, rfl, hle⟩
      refine ⟨.inl ((hyl.keeps (k3.trans k4)).isList), ?_⟩
      have := congrArg List.length hle
      rw [List.length_map] at this
      rw [strValues_length, this]
      exact Nat.le_trans (List.length_filter_le _ _) (List.length_take_le _ _)
    · intro i v ys g4 mc6 mu4 gs4 h10 tk10 acc7 Cc7 E7 hi7 hv7 hJ7 hk7 S10
      obtain ⟨rfl, rfl, k4, le, rfl, hle⟩ := hJ7
      obtain ⟨c, tc, hci, rfl⟩ : ∃ c t, lc[i]? = some (c, t) ∧ v = Value.str c t := by
        simp only [strValues, List.getElem?_map, Option.map_eq_some_iff] at hv7
        obtain ⟨⟨c, t⟩, e, rfl⟩ := hv7
        exact ⟨c, t, e, rfl⟩
      have hcs : cs[i]? = some c := by rw [← hlc, List.getElem?_map, hci]; rfl
      have hcl2 : c.length ≤ 4096 := by have := len_le_sum (List.mem_of_getElem? hcs); have h9 : (cs.map (·.length)).sum ≤ wt cs := Nat.le_add_right _ _; omega
      rw [take_filter_step hcs]
      refine ifs_one ?_
      walk_at "mm"
      by_cases c0 : c = ""
      · refine ite_neg (by simp [c0]) ?_
        exact ⟨_, _, _, _, _, _, rfl, Keep.rfl', S10, rfl, rfl, k4, le, rfl, by rw [hle, if_neg (by simp [keepC, c0]), List.append_nil]⟩
      refine ite_pos (by simp [c0]) ?_
      walk_at "mm"
      by_cases c1 : c = "."
      · refine ite_neg (by simp [c1]) ?_
        exact ⟨_, _, _, _, _, _, rfl, Keep.rfl', S10, rfl, rfl, k4, le, rfl, by rw [hle, if_neg (by simp [keepC, c1]), List.append_nil]⟩
      refine ite_pos (by simp [c1]) ?_
      walk_at "mm"
      refine ⟨_, _, _, _, _, _, rfl, Keep.rfl', S10, rfl, rfl, k4, le ++ [(c, tc)], (strValues_append _ _ _).symm, ?_⟩
      rw [List.map_append, hle, if_pos (by simp [keepC, c0, c1])]; rfl
    · intro ys g4 mu4 gs4 h10 tk10 acc7 hJ7 hk7 S10
      obtain ⟨rfl, rfl, k4, le, rfl, hle⟩ := hJ7
      rw [show cs.take (strValues lc).length = cs from List.take_of_length_le (by rw [strValues_length, hlcl]; exact Nat.le_refl _)] at hle
      have S11 := S10.weaken (P' := IsS (cs.filter keepC)) .head fun o p => ⟨le, hle, p⟩
      obtain ⟨g5, k5, S12, o5, e5, p5⟩ := S11.settle
      exact ⟨_, _, _, _, _, _, rfl, k4.trans k5, S12, rfl, rfl, k3.trans (k4.trans k5), ds ++ [acc7], by simp, (hD.keeps (k4.trans k5)).app (.cons ⟨o5, e5, p5⟩ .nil)⟩
  intro ys g3 mu3 gs3 h8 tk8 acc5 hJ8 hk8 S8
  obtain ⟨rfl, rfl, k3, ds, rfl, hD⟩ := hJ8
  rw [show l'.take (bs.map Value.ref).length = l' from List.take_of_length_le (by rw [List.length_map, lb]; exact Nat.le_refl _)] at hD
  walk_at "mm"
  have hmm : (l'.map (·.1)).map partsF = l'.map fun x => partsF x.1 := by rw [List.map_map]; rfl
  rw [hmm] at hok
  have hcf : commonF (l'.map (·.1)) = "/" ++ Txt.join "/" (cpref (loR (l'.map fun x => partsF x.1)) (hiR (l'.map fun x => partsF x.1))) := by unfold commonF; rw [hmm]
  rw [hcf] at h
  obtain ⟨r0, rest, hrr⟩ : ∃ r0 rest, (l'.map fun x => partsF x.1) = r0 :: rest := by
    cases l' with
    | nil => exact absurd rfl hl0
    | cons p q => exact ⟨_, _, rfl⟩
  rw [hrr] at hD hok h
  have S9 := S8.sub (mu' := [(acc5, IsL (ds.map .ref)), (L + 1, IsC (some (Value.str "/" t1)))]) (by walk_at "sub")
  refine min_rows (as := ds) (r0 := r0) (rest := rest) (by walk_at "ok") hD S9 (.inr (by walk_at "mem")) ?_
  intro x1 h10 tk10 hx1 S10
  walk_at "mm"
  rename Sx _ _ _ _ _ _ => S11
  refine max_rows (as := ds) (r0 := r0) (rest := rest) (by walk_at "ok") hD S11 (.inr (by walk_at "mem")) ?_
  intro x2 h12 tk12 hx2 S12
  have hlw : wt (loR (r0 :: rest)) ≤ 1001 := by
    have hallw : ∀ q ∈ r0 :: rest, wt q ≤ 1001 := by
      rw [← hrr]
      intro q hq
      obtain ⟨x, hxm, rfl⟩ := List.mem_map.mp hq
      have h1 := (hx x.1 (List.mem_map_of_mem hxm)).1
      have h3 := PyProof.Rows.split_weight x.1 "/" (by decide)
      have h4 : wt (Txt.split x.1 "/") ≤ 1001 := by
        show (List.map (fun x => x.length) (Txt.split x.1 "/")).sum + (Txt.split x.1 "/").length ≤ 1001
        omega
      exact Nat.le_trans (filter_wt keepC _) h4
    exact hallw _ (lo_mem rest r0)
  change SAt g3 x1 (loR (r0 :: rest)) at hx1
  change SAt g3 x2 (hiR (r0 :: rest)) at hx2
  generalize loR (r0 :: rest) = lo at hx1 hok h hlw
  generalize hiR (r0 :: rest) = hi at hx2 hok h
  walk_at "mm"
  rename Sx _ _ _ _ _ _ => S13
  obtain ⟨ll, hll1, hll2⟩ := hx1.open
  have hlol : ll.length = lo.length := by rw [← hll1, List.length_map]
  refine en_new (vs := strValues ll) S13 (hll2.keeps S13.keep) ?_
  intro e it7 h14 S14
  walk_at "mm"
  refine en_self (i := 0) (S14.get _ (.head _)) ?_
  obtain ⟨lh, hlh1, hlh2⟩ := hx2.open
  obtain ⟨m14, hs1, hs2, hco, hab, S14⟩ : ∃ m14, m14 "s1" = some (.ref x1) ∧ m14 "s2" = some (.ref x2) ∧ m14 "common" = some (.ref x1) ∧ m14 "isabs" = some (.bool true) ∧
      Sx hp g3 L m14 [(e, IsEn it7 0), (it7, IsLIt x1 0), (acc5, IsL (ds.map .ref)), (L + 1, IsC (some (Value.str "/" t1)))] h14 :=
    ⟨_, by walk_at "lk", by walk_at "lk", by walk_at "lk", by walk_at "lk", S14⟩
  refine codeAny_mono (R := fun r s' => r = .ok .next ∧ ∃ m' h' tk mu' r', s' = ⟨h', gs3, dr, tk, os⟩ ∧ Sx hp g3 L m' mu' h' ∧ (L + 1, IsC (some (Value.str "/" t1))) ∈ mu' ∧ m' "isabs" = some (.bool true) ∧ m' "common" = some (.ref r') ∧ (SAt g3 r' (cpref lo hi) ∨ (r', IsS (cpref lo hi)) ∈ mu')) ?_ ?_
  · refine codeAny_forLoop_any (fun k s' => ∃ i h' tk' m', k = lo.length + 1 - i ∧ i ≤ lo.length ∧ s' = ⟨h', gs3, dr, tk', os⟩ ∧ lo.take i = hi.take i ∧ m' "s1" = some (.ref x1) ∧ m' "s2" = some (.ref x2) ∧ m' "common" = some (.ref x1) ∧ m' "isabs" = some (.bool true) ∧
      Sx hp g3 L m' [(e, IsEn it7 i), (it7, IsLIt x1 i), (acc5, IsL (ds.map .ref)), (L + 1, IsC (some (Value.str "/" t1)))] h') ?_ (lo.length + 1) ⟨0, _, _, _, rfl, Nat.zero_le _, rfl, rfl, hs1, hs2, hco, hab, S14⟩
    rintro _ _ ⟨i, h15, tk15, m15, rfl, hin, rfl, htk, hs1', hs2', hco', hab', S15⟩
    have hsrc : ListIn g3 [(acc5, IsL (ds.map .ref)), (L + 1, IsC (some (Value.str "/" t1)))] x1 (strValues ll) := .inl hll2.isList
    by_cases hlt : i < lo.length
    · have hlt2 := hok i htk hlt
      obtain ⟨ci, ti, hci⟩ : ∃ c t, ll[i]? = some (c, t) := ⟨ll[i].1, ll[i].2, by simp [hlol, hlt]⟩
      obtain ⟨di, ui, hdi⟩ : ∃ c t, lh[i]? = some (c, t) := ⟨(lh[i]'(by have := congrArg List.length hlh1; rw [List.length_map] at this; omega)).1, _, List.getElem?_eq_getElem _⟩
      have hlo : lo[i]? = some ci := by rw [← hll1, List.getElem?_map, hci]; rfl
      have hhi : hi[i]? = some di := by rw [← hlh1, List.getElem?_map, hdi]; rfl
      have hlol2 := len_le_wt lo
      refine en_turn (vs := strValues ll) (x := .str ci ti) S15 hsrc (by simp [strValues, hci]) ?_
      intro T t16 h16 tk16 S16
      refine asg_tup S16 (.inr (by walk_at "mem")) O.handled rfl rfl ?_
      intro h17 S17
      walk_at "mm"
      rename Sx _ _ _ _ _ _ => S18
      refine it_l (k := i) (v := .str di ui) (hlh2.keeps S18.keep) (by omega) (by simp [strValues, hdi]) ?_
      walk_at "mm"
      by_cases hcd : ci = di
      · refine ite_neg (by simp [hcd]) ?_
        walk_at "mm"
        refine ⟨lo.length + 1 - (i + 1), by omega, i + 1, _, _, _, rfl, hlt, rfl, ?_, by walk_at "lk", by walk_at "lk", by walk_at "lk", by walk_at "lk", S18.sub (by walk_at "sub")⟩
        rw [List.take_add_one, List.take_add_one, hlo, hhi, htk, hcd]
      · refine ite_pos (by simp [hcd]) ?_
        walk_at "mm"
        refine cut_ss (k := i) S18 (hx1.keeps S18.keep) (by rw [sizeLine_eq]; omega) ?_
        intro r19 h19 S19
        walk_at "mm"
        rename Sx _ _ _ _ _ _ => S20
        refine wpAny_Break ?_
        refine ⟨rfl, _, _, _, _, r19, rfl, S20, by walk_at "mem", by walk_at "lk", by walk_at "lk", ?_⟩
        rw [cpref_cut i lo hi ci di htk hlo hhi hcd]
        exact .inr (by walk_at "mem")
    · have hin' : i = (strValues ll).length := by rw [strValues_length, hlol]; omega
      subst hin'
      refine en_stop (vs := strValues ll) O.handled S15 hsrc ?_
      intro h16 S16
      walk_at "mm"
      refine ⟨rfl, _, _, _, _, x1, rfl, S16, by walk_at "mem", hab', hco', ?_⟩
      rw [cpref_all lo hi (by rw [strValues_length, hlol, List.take_length] at htk; exact htk)]
      exact .inl hx1
  · rintro r s' ⟨rfl, m', h', tk, mu', r', rfl, S', hsep, hab', hco', hr'⟩
    walk_at "mm"
    refine n_cell S' rfl hsep ?_
    walk_at "mm"
    rename Sx _ _ _ _ _ _ => S21
    refine n_cell S21 rfl hsep ?_
    walk_at "mm"
    have hcw : wt (cpref lo hi) ≤ 1001 := Nat.le_trans (cpref_wt lo hi) hlw
    have hjl := join_len hcw
    refine join_at (hr'.elim (fun z => z.keeps S21.keep) fun z => S21.sAt z) (by omega) (by decide) ?_
    intro t22 tk22
    have hjl' : (Txt.join "/" (cpref lo hi)).length ≤ 4096 := by omega
    generalize Txt.join "/" (cpref lo hi) = J at hjl' h ⊢
    walk_at "mm"
    exact h _ _ _ S21.old
theorem common_c (KK : KF K) (S : Sx g₀ g L m mu hp) (C : Cx K g₀) (O : Ok A 16) {a : Addr} {xs : List Str} (ha : SAt hp a xs) (hne : xs ≠ []) (hn : xs.length ≤ 400) (hx : ∀ x ∈ xs, x.length ≤ 1000 ∧ Txt.startswith x "/" = true)
    (hok : ∀ i, (loR (xs.map partsF)).take i = (hiR (xs.map partsF)).take i → i < (loR (xs.map partsF)).length → i < (hiR (xs.map partsF)).length)
    (h : ∀ h' tk t', Sx g₀ g L m mu h' → Q (.str (commonF xs) t') ⟨h', gs₀, dr, tk, os⟩) :
    wpAny (model prog w) A (call (.ref 141) [.ref a]) Q E ⟨hp, gs₀, dr, tk₀, os⟩ := wpAny_call (common_ok KK (C.keeps S.old) O ha hne hn hx hok fun h' tk t' k => h h' tk t' (S.grow k))
end
end
section
/-! ## [place for one in kept for place in _ancestry(one)] -/
abbrev nested (elt : PySem.Expr) (x : Str) (px : Pos) (it0 : PySem.Expr) (y : Str) (py : Pos) (it1 : PySem.Expr) (scope : Scope) (pos : Pos) : PySem.Expr := .ListComp elt [⟨.Name x px, it0, [], 0⟩, ⟨.Name y py, it1, [], 0⟩] scope pos
section
variable {K : Frag} {prog : Program} {w : World} {A : Around} {hp : Heap} {gs₀ : Array GenState} {dr : Drawn} {tk₀ : Nat} {os : OsState} {E : Value → Shared → Prop} {g₀ g : Heap} {L it ga Lf acc : Addr} {m : Str → Option Value} {mu : Mut} {env : Env} {ls : List Str}
  {elt it0 it1 : PySem.Expr} {x y : Str} {px py : Pos} {scope : Scope} {pos : Pos}
theorem nc_inner {Cc : Addr} {R : Result → Shared → Prop} {cenv : Env} (C : Cx K g₀) (O : Ok A 14) (hL : cenv.locals = Cc) (hk : cenv.scope.kind = .function) (hy : cenv.kindOf y = some .local) {pe : Pos} (helt : elt = .Name y pe) (hyd : (y == ("__debug__" : Str)) = false)
    (fin : ∀ mc' h' tk' ys', ys' = ls → Sx g₀ g Cc mc' ((ga, IsGenO gs₀.size) :: (acc, IsS (ys ++ ys')) :: mu) h' → R (.ok .next) ⟨h', gs₀.push .finished, dr, tk', os⟩) (hlen : ys.length + ls.length ≤ sizeLine)
    {o : Obj} {gst : GenState} {mc : Str → Option Value} (S : Sx g₀ g Cc mc ((Lf, (· = o)) :: (ga, IsGenO gs₀.size) :: (acc, IsS ys) :: mu) hp) (hA : AncSt K prog w A.in1 Lf ls 0 o gst) :
    codeAny (model prog w) A (.compLoop (nested elt x px it0 y py it1 scope pos) 1 (.ref ga) (.ref acc) cenv) R ⟨hp, gs₀.push gst, dr, tk₀, os⟩ := by
  subst helt
  refine codeAny_loop rfl (fun k s' => ∃ i mc' h tk o' gst', k = ls.length + 1 - i ∧ i ≤ ls.length ∧ s' = ⟨h, gs₀.push gst', dr, tk, os⟩ ∧ AncSt K prog w A.in1 Lf ls i o' gst' ∧ Sx g₀ g Cc mc' ((Lf, (· = o')) :: (ga, IsGenO gs₀.size) :: (acc, IsS (ys ++ ls.take i)) :: mu) h)
    ?_ (ls.length + 1) ⟨0, mc, hp, tk₀, o, gst, rfl, Nat.zero_le _, rfl, hA, by rw [List.take_zero, List.append_nil]; exact S⟩
  rintro k s' ⟨i, mc', h, tk, o', gst', rfl, hi, rfl, hA', S'⟩
  show wpAny _ _ ((compTurn (nested (.Name y pe) x px it0 y py it1 scope pos) 1 (.ref ga) (.ref acc) cenv).onRaise (fun x => do noteFrame x cenv; theTreesLotGoes x)) _ _ _
  refine wpAny_noted ?_
  have e : compTurn (nested (.Name y pe) x px it0 y py it1 scope pos) 1 (.ref ga) (.ref acc) cenv = (standAt it1.pos >>= fun _ => pyNext (.ref ga) >>= fun r => match r with
      | none => pure (.done .next)
      | some v => letOwnedTupleGo (.Name y py) (.ref ga) v >>= fun _ => assign (.Name y py) cenv v >>= fun _ =>
        (eval (.Name y pe) cenv >>= fun x => call (.builtin "list.append") [.ref acc, x] >>= fun _ => pure ()) >>= fun _ => again (.compLoop (nested (.Name y pe) x px it0 y py it1 scope pos) 1 (.ref ga) (.ref acc) cenv)) := by rfl
  rw [e]
  refine wpAny_bind (wpAny_standAt (wpAny_bind ?_))
  by_cases hlt : i < ls.length
  · refine gen_item (gn := gs₀.size) O C S' (.head _) push_at hA' hlt fun z t h' tk' o2 gst2 hz hA2 S₁ => ?_
    rw [push_set]
    refine wpAny_bind (wpAny_pure (wpAny_bind (wpAny_assign_Name (st_loc S₁ (fun h₂ tk₂ S₂ => ?_) hL hk hy))))
    refine wpAny_bind (wpAny_bind (n_loc S₂ (if_pos rfl) ?_ hL hk hy hyd))
    refine wpAny_bind (ls_append (ss := ys ++ ls.take i) (c := z) S₂ (.tail (.tail .head)) (by rw [List.length_append, List.length_take]; omega) fun h₃ S₃ => wpAny_pure (wpAny_pure ⟨rfl, ?_⟩))
    have ht : ls.take i ++ [z] = ls.take (i + 1) := by rw [List.take_add_one, hz]; rfl
    rw [List.append_assoc, ht] at S₃
    exact ⟨ls.length + 1 - (i + 1), by omega, i + 1, _, h₃, _, o2, gst2, rfl, hlt, rfl, hA2, S₃⟩
  · have hin : i = ls.length := by omega
    subst hin
    refine gen_stop (gn := gs₀.size) O C S' (.head _) push_at hA' fun h' tk' S₁ => ?_
    rw [push_set]
    rw [List.take_length] at S₁
    exact wpAny_pure (fin mc' h' tk' ls rfl S₁)
theorem compStart_nested {s : Shared} {R : Result → Shared → Prop} {cenv : Env} {itv accv : Value} (d : Nat) (hd : d = 0 ∨ d = 1)
    (h0 : codeAny (model prog w) A (.compLoop (nested elt x px it0 y py it1 scope pos) d itv accv cenv) R s)
    (h : wpAny (model prog w) A (pyIter itv) (fun it' s' => codeAny (model prog w) A (.compLoop (nested elt x px it0 y py it1 scope pos) d it' accv cenv) R s') (notedBy (model prog w) A cenv fun x s' => R (.error x) s') s) :
    codeAny (model prog w) A (.compStart (nested elt x px it0 y py it1 scope pos) d itv accv cenv) R s := by
  refine codeAny_of_tree ?_
  show wpAny _ _ ((compStart (nested elt x px it0 y py it1 scope pos) d itv accv cenv).onRaise (fun x => do noteFrame x cenv; standAt theWindowsPlace)) _ _ s
  refine wpAny_notedAt ?_
  unfold compStart
  rcases hd with rfl | rfl <;>
  · show wpAny _ _ (ask >>= _) _ _ s
    refine wpAny_bind (wpAny_askSetting (wpAny_ite ?_))
    split
    · first
        | exact wpAny_bind (wpAny_pure (wpAny_pure (And.intro rfl h0)))
        | exact wpAny_pure (And.intro rfl h0)
    · refine wpAny_bind (wpAny_rule ?_)
      first
        | (show wpAny _ _ (standAt it0.pos >>= _) _ _ s; exact wpAny_bind (wpAny_standAt (wpAny_bind (wpAny_mono h (fun it' s' h' => wpAny_pure (And.intro rfl h')) fun _ _ x => x))))
        | (show wpAny _ _ (standAt it1.pos >>= _) _ _ s; exact wpAny_bind (wpAny_standAt (wpAny_bind (wpAny_mono h (fun it' s' h' => wpAny_pure (And.intro rfl h')) fun _ _ x => x))))
theorem nc_outer (KK : KF K) {Cc a : Addr} {R : Result → Shared → Prop} {cenv : Env} {l : List (Str × Tok)} {af : Str → List Str} (C : Cx K g₀) (O : Ok A 14) (hL : cenv.locals = Cc) (hk : cenv.scope.kind = .function) (hx : cenv.kindOf x = some .local) (hy : cenv.kindOf y = some .local) {pe : Pos} (helt : elt = .Name y pe) (hyd : (y == ("__debug__" : Str)) = false)
    (hfs : ∀ v, foldedSetIterable it1 cenv v = pure v) (hsrc : ListIn g mu a (strValues l)) (hlen : ∀ i, ((l.take i).flatMap fun z => af z.1).length ≤ 1000) (hlen2 : l.length ≤ 1000)
    (ev : ∀ {hp : Heap} {gs : Array GenState} {mc : Str → Option Value} {mu' : Mut} {tk : Nat} {E : Value → Shared → Prop} {Q : Value → Shared → Prop} (z : Str × Tok), z ∈ l → Sx g₀ g Cc mc mu' hp → mc x = some (.str z.1 z.2) →
      (∀ Lf ga o h' tk, (∀ Ag, Ok Ag 12 → AncSt K prog w Ag Lf (af z.1) 0 o (.fresh (ancFunc Lf))) → Sx g₀ g Cc mc ((Lf, (· = o)) :: (ga, IsGenO gs.size) :: mu') h' → Q (.ref ga) ⟨h', gs.push (.fresh (ancFunc Lf)), dr, tk, os⟩) → wpAny (model prog w) A (eval it1 cenv) Q E ⟨hp, gs, dr, tk, os⟩)
    (fin : ∀ mc' h' tk' gs', (AllBare gs₀ → AllBare gs') → Sx g₀ g Cc mc' ((acc, IsS (l.flatMap fun z => af z.1)) :: mu) h' → R (.ok .next) ⟨h', gs', dr, tk', os⟩)
    {mc : Str → Option Value} (S : Sx g₀ g Cc mc ((it, IsLIt a 0) :: (acc, IsS []) :: mu) hp) :
    codeAny (model prog w) A (.compLoop (nested elt x px it0 y py it1 scope pos) 0 (.ref it) (.ref acc) cenv) R ⟨hp, gs₀, dr, tk₀, os⟩ := by
  subst helt
  refine codeAny_loop rfl (fun k s' => ∃ i mc' h tk gs, k = l.length + 1 - i ∧ i ≤ l.length ∧ s' = ⟨h, gs, dr, tk, os⟩ ∧ (AllBare gs₀ → AllBare gs) ∧ Sx g₀ g Cc mc' ((it, IsLIt a i) :: (acc, IsS ((l.take i).flatMap fun z => af z.1)) :: mu) h)
    ?_ (l.length + 1) ⟨0, mc, hp, tk₀, gs₀, rfl, Nat.zero_le _, rfl, id, S⟩
  rintro k s' ⟨i, mc', h, tk, gs, rfl, hi, rfl, hB, S'⟩
  show wpAny _ _ ((compTurn (nested (.Name y pe) x px it0 y py it1 scope pos) 0 (.ref it) (.ref acc) cenv).onRaise (fun x => do noteFrame x cenv; theTreesLotGoes x)) _ _ _
  refine wpAny_noted ?_
  have e : compTurn (nested (.Name y pe) x px it0 y py it1 scope pos) 0 (.ref it) (.ref acc) cenv = (standAt it0.pos >>= fun _ => pyNext (.ref it) >>= fun r => match r with
      | none => pure (.done .next)
      | some v => letOwnedTupleGo (.Name x px) (.ref it) v >>= fun _ => assign (.Name x px) cenv v >>= fun _ =>
        eval it1 cenv >>= fun z => standAt it1.pos >>= fun _ => foldedSetIterable it1 cenv z >>= fun z => holding [z] (pyIter z) >>= fun itv =>
          runOwn (.compStart (nested (.Name y pe) x px it0 y py it1 scope pos) 1 itv (.ref acc) cenv) cenv >>= fun _ => again (.compLoop (nested (.Name y pe) x px it0 y py it1 scope pos) 0 (.ref it) (.ref acc) cenv)) := by rfl
  rw [e]
  refine wpAny_bind (wpAny_standAt (wpAny_bind ?_))
  have IT := iter_list (prog := prog) (w := w) (A := A) (a := a) (it := it) (vs := strValues l) O.handled
  by_cases hlt : i < l.length
  · refine IT.next i (by rw [strValues_length]; exact hlt) S' (hsrc.more _) fun v h' tk' hv S₁ => ?_
    have hv' : v = .str l[i].1 l[i].2 := by
      simp only [strValues, List.getElem?_map, List.getElem?_eq_getElem hlt, Option.map_some, Option.some.injEq] at hv
      exact hv.symm
    subst hv'
    refine wpAny_bind (wpAny_pure (wpAny_bind (wpAny_assign_Name (st_loc S₁ (fun h₂ tk₂ S₂ => ?_) hL hk hx))))
    refine wpAny_bind (ev l[i] (List.getElem_mem hlt) S₂ (if_pos rfl) fun Lf ga o h₃ tk₃ hA S₃ => ?_)
    refine wpAny_bind (wpAny_standAt ?_)
    rw [hfs]
    refine wpAny_bind (wpAny_pure (wpAny_bind (wpAny_holding (gen_self S₃ (.tail _ (.head _)) ?_))))
    have hloop : codeAny (model prog w) A (.compLoop (nested (.Name y pe) x px it0 y py it1 scope pos) 1 (.ref ga) (.ref acc) cenv) (fun r s' => match r with | .ok f => (∃ h₅ tk₅ mc₅, s' = ⟨h₅, gs.push .finished, dr, tk₅, os⟩ ∧ Sx g₀ g Cc mc₅ ((it, IsLIt a (i + 1)) :: (acc, IsS ((l.take (i + 1)).flatMap fun z => af z.1)) :: mu) h₅) | .error e => cameBackBy (model prog w) A cenv (notedBy (model prog w) A cenv fun e s' => R (.error e) s') e s') ⟨h₃, gs.push (.fresh (ancFunc Lf)), dr, tk₃, os⟩ := by
      have S₄ := S₃.perm (mu' := (Lf, (· = o)) :: (ga, IsGenO gs.size) :: (acc, IsS ((l.take i).flatMap fun z => af z.1)) :: (it, IsLIt a (i + 1)) :: mu) (.cons _ (.cons _ (.swap _ _ _)))
      refine nc_inner C O hL hk hy rfl hyd (fun mc₅ h₅ tk₅ ys' hys S₅ => ?_) ?_ S₄ (hA _ (Ok.in1 (Ok.mono (by omega) O)))
      · subst hys
        refine ⟨h₅, tk₅, mc₅, rfl, ?_⟩
        rw [List.take_add_one, List.getElem?_eq_getElem hlt, List.flatMap_append]
        have : (Option.some l[i]).toList.flatMap (fun z => af z.1) = af l[i].1 := by simp
        rw [this]
        exact S₅.drop.swap
      · have h1 := hlen (i + 1)
        rw [List.take_add_one, List.getElem?_eq_getElem hlt, List.flatMap_append, List.length_append] at h1
        have : (Option.some l[i]).toList.flatMap (fun z => af z.1) = af l[i].1 := by simp
        rw [this] at h1
        rw [sizeLine_eq]; omega
    refine wpAny_bind (wpAny_runOwn (compStart_nested 1 (.inr rfl) (codeAny_mono hloop fun r s₅ hr => ?_) (gen_self S₃ (.tail _ (.head _)) (codeAny_mono hloop fun r s₅ hr => ?_))))
    all_goals
      cases r with
      | error e => exact hr
      | ok f =>
        obtain ⟨h₅, tk₅, mc₅, rfl, S₅⟩ := hr
        exact wpAny_pure ⟨rfl, l.length + 1 - (i + 1), by omega, i + 1, mc₅, h₅, tk₅, _, rfl, hlt, rfl, fun q => (hB q).push rfl, S₅⟩
  · have hin : i = (strValues l).length := by rw [strValues_length]; omega
    subst hin
    refine IT.stop S' (hsrc.more _) fun h' tk' S₁ => ?_
    rw [show l.take (strValues l).length = l from List.take_of_length_le (by rw [strValues_length]; exact Nat.le_refl _)] at S₁
    exact wpAny_pure (fin mc' h' tk' gs hB S₁)
end
end
section
/-! ## The nested comprehension evaluated -/
section
variable {K : Frag} {prog : Program} {w : World} {A : Around} {hp : Heap} {gs₀ : Array GenState} {dr : Drawn} {tk₀ : Nat} {os : OsState} {E : Value → Shared → Prop} {Q : Value → Shared → Prop} {g₀ g : Heap} {L it a : Addr} {m : Str → Option Value} {mu : Mut} {env : Env}
  {elt it0 it1 : PySem.Expr} {x y : Str} {px py : Pos} {scope : Scope} {pos : Pos} {cl : List (Str × Addr)}
theorem nest_run (KK : KF K) {l : List (Str × Tok)} {af : Str → List Str} (C : Cx K g₀) (O : Ok A 14) {pe : Pos} (S : Sx g₀ g L m ((it, IsLIt a 0) :: mu) hp) (hsrc : ListIn g mu a (strValues l)) (hlen : ∀ i, ((l.take i).flatMap fun z => af z.1).length ≤ 1000) (hlen2 : l.length ≤ 1000)
    (ev : ∀ {Cc : Addr} {hp : Heap} {gs : Array GenState} {mc : Str → Option Value} {mu' : Mut} {tk : Nat} {E : Value → Shared → Prop} {Q : Value → Shared → Prop} (z : Str × Tok), z ∈ l → Sx g₀ g Cc mc mu' hp → mc x = some (.str z.1 z.2) →
      (∀ Lf ga o h' tk, (∀ Ag, Ok Ag 12 → AncSt K prog w Ag Lf (af z.1) 0 o (.fresh (ancFunc Lf))) → Sx g₀ g Cc mc ((Lf, (· = o)) :: (ga, IsGenO gs.size) :: mu') h' → Q (.ref ga) ⟨h', gs.push (.fresh (ancFunc Lf)), dr, tk, os⟩) → wpAny (model prog w) A (eval it1 (compEnvC scope cl Cc env)) Q E ⟨hp, gs, dr, tk, os⟩)
    (done : ∀ acc h' tk' gs', (AllBare gs₀ → AllBare gs') → Sx g₀ g L m ((acc, IsS (l.flatMap fun z => af z.1)) :: mu) h' → Q (.ref acc) ⟨h', gs', dr, tk', os⟩)
    (hfs : ∀ Cc v, foldedSetIterable it1 (compEnvC scope cl Cc env) v = pure v := by intro _ _; rfl) (hyd : (y == ("__debug__" : Str)) = false := by decide)
    (hcell : ∀ y ∈ scope.names, y.2 ≠ .cell := by decide) (hkind : scope.kind = .function := by rfl) (hx : scope.names.lookup x = some .local := by rfl) (hy : scope.names.lookup y = some .local := by rfl) :
    wpAny (model prog w) A (newList []) (fun acc s₃ => wpAny (model prog w) A (newFunctionEnv scope env.globals cl [] env.qual none .none (some env)) (fun cenv s₄ =>
      codeAny (model prog w) A (.compStart (nested (.Name y pe) x px it0 y py it1 scope pos) 0 (.ref it) acc { cenv with scope := relabel scope env }) (compPost (model prog w) A E none Q acc cenv.locals) s₄) E s₃) E ⟨hp, gs₀, dr, tk₀, os⟩ := by
  refine new_list S (fun acc h₁ S₁ => ?_)
  refine wpAny_newFunctionEnv hcell (by intro y hy; simp at hy) (fun h₂ hns₂ hsb₂ => ?_) hkind
  dsimp only at hns₂ hsb₂ ⊢
  have S₁' : Sx g₀ g L m ((h₁.objs.size, fun _ => True) :: (acc, IsL []) :: (it, IsLIt a 0) :: mu) (h₁.push { cls := .type (if (some env).isSome then "dict" else "frame"), data := .dict #[] }) := S₁.alloc rfl trivial
  obtain ⟨oc, es, ep, ec, dc, kc, fc⟩ := id hns₂
  have S₂ := (S₁'.set hsb₂ (P' := IsNs (fun x => ([] : List (Str × Value)).reverse.lookup x)) ec ⟨es, ep, dc, kc, fc⟩).front
  have S₃ : Sx g₀ g h₁.objs.size (fun x => ([] : List (Str × Value)).reverse.lookup x) ((it, IsLIt a 0) :: (acc, IsL []) :: (L, IsNs m) :: mu) h₂ := S₂.perm (by
    refine List.Perm.trans (List.Perm.swap _ _ _) ?_
    exact List.Perm.trans (.cons _ (List.Perm.swap _ _ _)) (List.Perm.swap _ _ _))
  have S₄ := S₃.weaken (P' := IsS []) (.tail .head) isS_nil
  have loop : codeAny (model prog w) A (.compLoop (nested (.Name y pe) x px it0 y py it1 scope pos) 0 (.ref it) (.ref acc) (compEnvC scope cl h₁.objs.size env))
      (compPost (model prog w) A E none Q (.ref acc) h₁.objs.size) ⟨h₂, gs₀, dr, tk₀ + ([] : List (Str × Value)).length, os⟩ := by
    refine nc_outer KK C O rfl (by simp [compEnvC, relabel, hkind]) (lookup_relabel_local hx) (lookup_relabel_local hy) rfl hyd (hfs _) (hsrc.more _) hlen hlen2 (fun z hz S' hm hq => ev z hz S' hm hq) (fun mc' h' tk' gs' hB S' => ?_) S₄
    have S'' := (S'.perm (List.Perm.swap _ _ _)).front
    exact ⟨mc', S''.front.ns, fun h'' hs => done acc h'' tk' gs' hB (S''.lose hs)⟩
  refine compStart_nested 0 (.inl rfl) loop ((iter_list (prog := prog) (w := w) (A := A) (a := a) (it := it) (vs := strValues l) O.handled).self 0 S₃ ((hsrc.more _).more _) loop)
theorem nest_eval {Q : Value → Shared → Prop} (hclos : closureFor scope env = pure cl)
    (h : wpAny (model prog w) A (eval it0 env) (fun xv s₁ => wpAny (model prog w) A (pyIter xv) (fun itv s₂ => wpAny (model prog w) A (newList []) (fun acc s₃ => wpAny (model prog w) A (newFunctionEnv scope env.globals cl [] env.qual none .none (some env)) (fun cenv s₄ =>
      codeAny (model prog w) A (.compStart (nested elt x px it0 y py it1 scope pos) 0 itv acc { cenv with scope := relabel scope env }) (compPost (model prog w) A E none Q acc cenv.locals) s₄) E s₃) E s₂) E s₁) E ⟨hp, gs₀, dr, tk₀, os⟩)
    (hkind : scope.kind = .function := by rfl) (hnames : ∀ y ∈ scope.names, y.2 = .local → scope.names.lookup y.1 = some .local := by decide) (hs : ∀ x, foldedSetIterable it0 env x = pure x := by intro _; rfl) :
    wpAny (model prog w) A (eval (nested elt x px it0 y py it1 scope pos) env) Q E ⟨hp, gs₀, dr, tk₀, os⟩ := by
  rw [eval_ListComp]
  exact wpAny_comprehension_free (use := none) rfl hs hclos hkind hnames h
end
end
section
/-! ## law: the first loop -/
def digN (x : Int) (k : Nat) : Nat := x.natAbs / 6 ^ k % 6
def pcs (x : Int) : List Str := (List.range 4).map fun k => menu.getD (digN x k) ("" : Str)
def txt (x : Int) : Str := Txt.join "/" ((["."] : List Str) ++ pcs x)
def rowX (x : Int) : List Str := rowF (txt x)
def nameX (x : Int) : Str := normF ("/" ++ txt x)
def keepX (x : Int) : Bool := decide (x.natAbs / 1296 % 2 = 1)
def intVals (l : List (Int × Tok)) : List Value := l.map fun p => .int p.1 p.2
abbrev lawEnv (L : Addr) : Env := envX "law" (scopeOf (stmtAt 35)) L 238 (.ref 237) [("stay", L + 3), ("x", L + 2), ("pieces", L + 1)]
theorem menu_len : ∀ c ∈ menu, c.length ≤ 2 := by decide
theorem dig_lt (x : Int) (k : Nat) : digN x k < 6 := Nat.mod_lt _ (by decide)
theorem menu_get (x : Int) (k : Nat) : menu[digN x k]? = some (menu.getD (digN x k) ("" : Str)) := by
  have h : digN x k < menu.length := dig_lt x k
  rw [List.getD_eq_getElem?_getD, List.getElem?_eq_getElem h]; rfl
theorem pcs_mem (x : Int) : ∀ c ∈ pcs x, c ∈ menu := by
  intro c hc
  obtain ⟨k, _, rfl⟩ := List.mem_map.mp hc
  exact List.mem_of_getElem? (menu_get x k)
theorem wt_le_of {ps : List Str} {n : Nat} (h : ∀ c ∈ ps, c.length ≤ n) : wt ps ≤ ps.length * (n + 1) := by
  induction ps with
  | nil => simp [wt]
  | cons c cs ih =>
    have h1 := ih fun c hc => h c (.tail _ hc)
    have h2 := h c (.head _)
    have h3 : wt (c :: cs) = c.length + 1 + wt cs := by simp [wt]; omega
    rw [h3, List.length_cons, Nat.add_mul]; omega
theorem txt_wt (x : Int) : wt ((["."] : List Str) ++ pcs x) ≤ 15 := by
  have : ∀ c ∈ ((["."] : List Str) ++ pcs x), c.length ≤ 2 := by
    intro c hc
    rcases List.mem_append.mp hc with hc | hc
    · simp only [List.mem_singleton] at hc; subst hc; decide
    · exact menu_len c (pcs_mem x c hc)
  have h := wt_le_of this
  have hl : ((["."] : List Str) ++ pcs x).length = 5 := by simp [pcs]
  rw [hl] at h
  omega
section
variable {prog : Program} {w : World} {A : Around} {E : Value → Shared → Prop} {hp : Heap} {gs₀ : Array GenState} {dr : Drawn} {tk₀ : Nat} {os : OsState} {a : Addr} {Q : Value → Shared → Prop} {ss : List Str} {t u : Tok} {x : Int}
theorem it_ss {value slice : PySem.Expr} {k : Nat} {c : Str} (ha : SAt hp a ss) (hk : k < 4096) (hv : ss[k]? = some c) (h : ∀ t, Q (.str c t) ⟨hp, gs₀, dr, tk₀, os⟩)
    (hs : subscripted slice false (.ref a) (.int (k : Int) u) = operate [.ref a, .int (k : Int) u] (getItem (.ref a) (.int (k : Int) u)) := by with_unfolding_all rfl) (hg : ∀ r, letTemporaryGo value (.ref a) r = pure () := by intro _; with_unfolding_all rfl) :
    wpAny (model prog w) A (subscriptTail value slice (.ref a) (.int (k : Int) u)) Q E ⟨hp, gs₀, dr, tk₀, os⟩ := by
  obtain ⟨l, rfl, la⟩ := ha.open
  rw [List.getElem?_map, Option.map_eq_some_iff] at hv
  obtain ⟨⟨c', t'⟩, e, rfl⟩ := hv
  exact it_l (v := .str c' t') la hk (by simp [strValues, e]) (h t') hs hg
theorem c_abs (h : ∀ t' tk, Q (.int ((x.natAbs : Nat) : Int) t') ⟨hp, gs₀, dr, tk, os⟩) : wpAny (model prog w) A (call (.builtin "abs") [.int x t]) Q E ⟨hp, gs₀, dr, tk₀, os⟩ := by
  refine PyProof.Rows.call_abs_int fun u tk => ?_
  have e : (if x < 0 then -x else x) = ((x.natAbs : Nat) : Int) := by split <;> omega
  rw [e]
  exact h u tk
theorem c_pow {k : Nat} (hk : k < 4) (h : ∀ t' tk, Q (.int ((6 ^ k : Nat) : Int) t') ⟨hp, gs₀, dr, tk, os⟩) : wpAny (model prog w) A (binaryOp .Pow (.int 6 t) (.int (k : Int) u)) Q E ⟨hp, gs₀, dr, tk₀, os⟩ := by
  refine PyProof.Rows.pow_int_small (by omega) (by omega) (by decide) ?_
  have e : (6 : Int) ^ ((k : Int)).toNat = ((6 ^ k : Nat) : Int) := by rw [Int.toNat_natCast]; push_cast; rfl
  rw [e]
  exact h _ _
theorem small_div {a : Int} {k : Nat} (hk : k ≤ 1296) : Builtin.divisionGoesByPylong a (k : Int) = false := PyProof.noPylong_small (by omega)
theorem c_fdiv {n k : Nat} (h0 : k ≠ 0) (hk : k ≤ 1296) (h : ∀ t' tk, Q (.int ((n / k : Nat) : Int) t') ⟨hp, gs₀, dr, tk, os⟩) : wpAny (model prog w) A (binaryOp .FloorDiv (.int (n : Int) t) (.int (k : Int) u)) Q E ⟨hp, gs₀, dr, tk₀, os⟩ := by
  refine PyProof.Rows.floordiv_int (by omega) ?_ (.inl (small_div hk))
  have e : ((n : Int)).fdiv (k : Int) = ((n / k : Nat) : Int) := by rw [Int.fdiv_eq_ediv_of_nonneg _ (by omega)]; rfl
  rw [e]
  exact h _ _
theorem c_fmod {n k : Nat} (h0 : k ≠ 0) (h : ∀ t' tk, Q (.int ((n % k : Nat) : Int) t') ⟨hp, gs₀, dr, tk, os⟩) : wpAny (model prog w) A (binaryOp .Mod (.int (n : Int) t) (.int (k : Int) u)) Q E ⟨hp, gs₀, dr, tk₀, os⟩ := by
  refine PyProof.Rows.mod_int (by omega) ?_
  have e : ((n : Int)).fmod (k : Int) = ((n % k : Nat) : Int) := by rw [Int.fmod_eq_emod_of_nonneg _ (by omega)]; rfl
  rw [e]
  exact h _ _
end
end
section
/-! ## Plain words of texts -/
theorem slash_eq : ("/" : Str) = ⟨#[47]⟩ := by decide
theorem slice_text (x : Str) (l u : Option Int) : Txt.slice x l u = StrLaws.sliceText x l u := rfl
theorem str_ext {x y : Str} (h : x.cps.toList = y.cps.toList) : x = y := Str.ext' (Array.toList_inj.mp h)
theorem cps_of {x y : Str} (h : x = y) : x.cps.toList = y.cps.toList := by rw [h]
theorem cps_app (x y : Str) : (x ++ y).cps.toList = x.cps.toList ++ y.cps.toList := by
  show (x.cps ++ y.cps).toList = _
  rw [Array.toList_append]
theorem slash_cps : ("/" : Str).cps.toList = [47] := by decide
theorem free_inj : ∀ {x y u v : List Nat}, 47 ∉ x → 47 ∉ y → x ++ 47 :: u = y ++ 47 :: v → x = y ∧ u = v
  | [], [], u, v, _, _, h => ⟨rfl, (List.cons.inj h).2⟩
  | [], b :: y, u, v, _, hy, h => absurd (by rw [(List.cons.inj h).1]; exact .head _) hy
  | a :: x, [], u, v, hx, _, h => absurd (by rw [← (List.cons.inj h).1]; exact .head _) hx
  | a :: x, b :: y, u, v, hx, hy, h => by
    obtain ⟨h1, h2⟩ := List.cons.inj h
    obtain ⟨h3, h4⟩ := free_inj (fun q => hx (.tail _ q)) (fun q => hy (.tail _ q)) h2
    exact ⟨by rw [h1, h3], h4⟩
def Free (x : Str) : Prop := 47 ∉ x.cps.toList
theorem join_cons2 (x y : Str) (r : List Str) : (Str.join "/" (x :: y :: r)).cps.toList = x.cps.toList ++ 47 :: (Str.join "/" (y :: r)).cps.toList := by
  show (x ++ "/" ++ Str.join "/" (y :: r)).cps.toList = _
  rw [cps_app, cps_app, slash_cps, List.append_assoc]; rfl
theorem free_app {x y u : List Nat} (hy : 47 ∉ y) (h : x ++ 47 :: u = y) : False := hy (by rw [← h]; simp)
theorem join_inj : ∀ {ps qs : List Str}, ps ≠ [] → qs ≠ [] → (∀ p ∈ ps, Free p) → (∀ q ∈ qs, Free q) → Str.join "/" ps = Str.join "/" qs → ps = qs
  | [], _, h, _, _, _, _ => absurd rfl h
  | _ :: _, [], _, h, _, _, _ => absurd rfl h
  | [x], [y], _, _, _, _, h => by
    have h : x = y := h
    rw [h]
  | [x], y :: z :: r, _, _, hp, _, h => by
    have h := cps_of h
    rw [join_cons2] at h
    exact (free_app (hp x (.head _)) h.symm).elim
  | x :: z :: r, [y], _, _, _, hq, h => by
    have h := cps_of h
    rw [join_cons2] at h
    exact (free_app (hq y (.head _)) h).elim
  | x :: z :: r, y :: w :: s, _, _, hp, hq, h => by
    have h := cps_of h
    rw [join_cons2, join_cons2] at h
    obtain ⟨h1, h2⟩ := free_inj (hp x (.head _)) (hq y (.head _)) h
    rw [str_ext h1, join_inj (List.cons_ne_nil _ _) (List.cons_ne_nil _ _) (fun p q => hp p (.tail _ q)) (fun p q => hq p (.tail _ q)) (str_ext h2)]
theorem split_ne (x y : Str) : Txt.split x y ≠ [] := by
  unfold Txt.split
  split
  · simp
  · split
    · simp
    · rw [StrLaws.partsBetween_eq]
      obtain ⟨p, r, e⟩ := StrLaws.partsFrom_ne x y.length 0 (Builtin.Str.occurrences x y 0 x.length (x.length + 1))
      rw [e]; simp
theorem split_join {ps : List Str} (h0 : ps ≠ []) (hp : ∀ p ∈ ps, Free p) : Txt.split (Txt.join "/" ps) "/" = ps := by
  refine join_inj (split_ne _ _) h0 ?_ hp ?_
  · intro p hq
    rw [slash_eq] at hq
    exact StrLaws.split_free _ _ p hq
  · rw [StrLaws.join_split]
    exact StrLaws.glued_eq_join _ _
theorem slice_from1 (t : Str) : Txt.slice ("/" ++ t) (some 1) none = t := by
  rw [slice_text, StrLaws.sliceText_from (i := 1) ⟨by decide, by rw [cps_app, slash_cps]; simp; omega⟩]
  apply str_ext
  rw [cps_app, slash_cps]
  show List.take _ (List.drop 1 ([47] ++ t.cps.toList)) = t.cps.toList
  rw [List.cons_append, List.nil_append, List.drop_one, List.tail_cons]
  exact List.take_of_length_le (by simp only [List.length_cons]; omega)
theorem slice_to1 (t : Str) : Txt.slice ("/" ++ t) none (some 1) = "/" := by
  rw [slice_text, StrLaws.sliceText_to (j := 1) ⟨by decide, by rw [cps_app, slash_cps]; simp; omega⟩]
  apply str_ext
  rw [cps_app, slash_cps]
  rfl
theorem starts_slash (x : Str) : Txt.startswith x "/" = (x.cps.toList.take 1 == [47]) := by
  unfold Txt.startswith
  rw [StrLaws.subAt_eq, slash_cps, show Str.length "/" = 1 from rfl, List.drop_zero]
  cases e : x.cps.toList with
  | nil => simp
  | cons a l =>
    have : x.length = l.length + 1 := by
      show x.cps.size = _
      rw [← Array.length_toList, e]; rfl
    simp [this]
theorem txt_eq (x : Int) : txt x = Str.join "/" ((".": Str) :: pcs x) := StrLaws.glued_eq_join _ _
theorem menu_free : ∀ c ∈ menu, Free c := by unfold Free; decide
theorem pcs_ne (x : Int) : ∃ p r, pcs x = p :: r := ⟨_, _, rfl⟩
theorem txt_cps (x : Int) : ∃ l, (txt x).cps.toList = 46 :: l := by
  obtain ⟨p, r, e⟩ := pcs_ne x
  rw [txt_eq, e, join_cons2]
  exact ⟨_, rfl⟩
theorem txt_split (x : Int) : Txt.split (txt x) "/" = (".": Str) :: pcs x := by
  refine split_join (List.cons_ne_nil _ _) ?_
  intro p hp
  rcases List.mem_cons.mp hp with rfl | hp
  · unfold Free; decide
  · exact menu_free p (pcs_mem x p hp)
theorem txt_head (x : Int) : Txt.startswith (txt x) "/" = false ∧ Txt.slice ("/" ++ txt x) none (some 1) = "/" ∧ (Txt.slice ("/" ++ txt x) (some 1) (some 2) != "/") = true ∧ (("/" ++ txt x) != "") = true ∧ (txt x).length ≤ 30 := by
  obtain ⟨l, hl⟩ := txt_cps x
  refine ⟨?_, slice_to1 _, ?_, ?_, ?_⟩
  · rw [starts_slash, hl]; rfl
  · rw [slice_text, StrLaws.sliceText_plain (i := 1) (j := 2) ⟨by decide, by decide, by rw [cps_app, slash_cps, hl]; simp; omega⟩, cps_app, slash_cps, hl, slash_eq]
    rfl
  · rw [bne_iff_ne]
    intro q
    have q := cps_of q
    rw [cps_app, slash_cps, hl] at q
    cases q
  · have h1 := join_len (txt_wt x)
    have : Txt.join "/" ((["."] : List Str) ++ pcs x) = txt x := rfl
    rw [this] at h1
    exact h1
end
section
/-! ## law: the walk begins -/
def script5 (sl : List Int) : List Int := [8, 1309, 1050] ++ sl.take 5
def nthS (l : List Stmt) (i : Nat) : Stmt := (l[i]?).getD (.Pass default)
def forBody : Stmt → List Stmt | .For _ _ b _ _ => b | _ => []
def lawS (i : Nat) : Stmt := nthS (bodyOf (stmtAt 35)) i
def loopS (i : Nat) : Stmt := nthS (forBody (lawS 1)) i
theorem intVals_length (l : List (Int × Tok)) : (intVals l).length = l.length := by simp [intVals]
section
variable {K : Frag} {prog : Program} {w : World} {A : Around} {hp : Heap} {gs₀ : Array GenState} {dr : Drawn} {tk₀ : Nat} {os : OsState} {E : Value → Shared → Prop} {g₀ g : Heap} {L : Addr} {m : Str → Option Value} {mu : Mut}


theorem text_ok (KK : KF K) {x : Int} {xt : Tok} {PA : Addr} {Q : Flow → Shared → Prop} (S : Sx g₀ g L m mu hp) (C : Cx K g₀) (O : Ok A 16)
    (hx : (L + 2, IsC (some (.int x xt))) ∈ mu) (hp1 : (L + 1, IsC (some (.ref PA))) ∈ mu) (hp2 : (PA, IsS menu) ∈ mu)
    (h : ∀ h' tk t', Sx g₀ g L (fun y => if y = "text" then some (.str (txt x) t') else m y) mu h' → Q .next ⟨h', gs₀, dr, tk, os⟩) : wpAny (model prog w) A (exec (loopS 0) (lawEnv L)) Q E ⟨hp, gs₀, dr, tk₀, os⟩ := by
  show wpAny _ _ (exec (Stmt.Assign [Expr.Name _ _] _ _) _) _ _ _
  walk_at "mm"
  rename_i PT _ S0
  have S1 := S0.weaken (P' := IsS (["."] : List Str)) .head isS_one
  refine comp_eval (cl := [("x", L + 2), ("pieces", L + 1)]) (by rfl) ?_
  walk_at "mm"
  refine mk_rng1 S1 ?_
  intro ra h2 tk2 S2
  walk_at "mm"
  refine iter_of_rng (y := ((4 : Nat) : Int)) S2 (by decide) ?_
  intro it h3 S3
  rw [size_up0, rit0] at S3
  refine comp_run (iter_rng (x := 0) (c := 1) (n := 4) O.handled)
    (fun j ys g2 mu2 gs2 => gs2 = gs₀ ∧ g2 = g ∧ mu2 = (PT, IsS (["."] : List Str)) :: mu ∧ ∃ l : List (Str × Tok), ys = strValues l ∧ l.map (·.1) = (pcs x).take j)
    S3 ⟨rfl, rfl, rfl, [], rfl, rfl⟩ ?_ ?_ ?_ (by rw [sizeLine_eq]; omega)
  · rintro j ys g2 mu2 gs2 ⟨rfl, rfl, rfl, l, rfl, hl⟩
    refine ⟨trivial, ?_⟩
    have := congrArg List.length hl
    rw [List.length_map] at this
    rw [strValues_length, this]
    exact List.length_take_le _ _
  · intro j v ys g2 mc2 mu2 gs2 h4 tk4 acc Cc E2 hj hv hJ2 hk2 S4
    obtain ⟨rfl, rfl, rfl, l, rfl, hl⟩ := hJ2
    obtain ⟨tv, rfl⟩ := hv
    have hkv : (0 : Int) + (j : Int) * 1 = ((j : Nat) : Int) := by omega
    rw [hkv] at S4
    refine ifs_nil ?_
    refine ite_pos rfl ?_
    have hp1' : ∀ p1 p2 p3 p4 : Addr × (Obj → Prop), (L + 1, IsC (some (.ref PA))) ∈ p1 :: p2 :: p3 :: p4 :: mu := fun _ _ _ _ => .tail _ (.tail _ (.tail _ (.tail _ hp1)))
    have hx' : ∀ p1 p2 p3 p4 : Addr × (Obj → Prop), (L + 2, IsC (some (.int x xt))) ∈ p1 :: p2 :: p3 :: p4 :: mu := fun _ _ _ _ => .tail _ (.tail _ (.tail _ (.tail _ hx)))
    walk_at "mm"
    refine n_cell S4 rfl (hp1' _ _ _ _) ?_
    walk_at "mm"
    refine n_cell S4 rfl (hx' _ _ _ _) ?_
    walk_at "mm"
    refine c_abs ?_
    intro t5 tk5
    walk_at "mm"
    refine c_pow hj ?_
    intro t6 tk6
    walk_at "mm"
    refine c_fdiv (Nat.pos_iff_ne_zero.mp (Nat.pow_pos (by decide))) ?_ ?_
    · exact Nat.le_trans (Nat.pow_le_pow_right (by decide) (show j ≤ 4 by omega)) (by decide)
    intro t7 tk7
    walk_at "mm"
    refine c_fmod (k := 6) (by decide) ?_
    intro t8 tk8
    walk_at "mm"
    have hp2' : (PA, IsS menu) ∈ ((it, IsRIt (0 + ((j + 1 : Nat) : Int) * 1) (((4 : Nat) : Int) - ((j + 1 : Nat) : Int)) 1) :: (acc, IsL (strValues l)) :: (L, IsNs m) :: (PT, IsS (["."] : List Str)) :: mu : Mut) := .tail _ (.tail _ (.tail _ (.tail _ hp2)))
    refine it_ss (k := x.natAbs / 6 ^ j % 6) (c := menu.getD (digN x j) ("" : Str)) (S4.sAt hp2') (Nat.lt_trans (Nat.mod_lt _ (by decide)) (by decide)) (menu_get x j) ?_
    intro t9
    refine ⟨_, _, _, _, _, _, rfl, Keep.rfl', S4, rfl, rfl, rfl, l ++ [(_, t9)], (strValues_append _ _ _).symm, ?_⟩
    rw [List.map_append, hl, List.take_add_one]
    have : (pcs x)[j]? = some (menu.getD (digN x j) ("" : Str)) := by simp [pcs, hj]
    rw [this]; rfl
  · intro ys g2 mu2 gs2 h4 tk4 acc hJ2 hk2 S4
    obtain ⟨rfl, rfl, rfl, l, rfl, hl⟩ := hJ2
    have hl : l.map (·.1) = pcs x := by rw [hl]; exact List.take_of_length_le (by simp [pcs])
    have S5 := S4.weaken (P' := IsS (pcs x)) .head fun o p => ⟨l, hl, p⟩
    refine add_ss S5 (S5.sAt (by walk_at "mem")) (S5.sAt (by walk_at "mem")) (by rw [sizeLine_eq]; simp [pcs]) ?_
    intro r h5 S6
    walk_at "mm"
    refine join_at (S6.sAt (by walk_at "mem")) (Nat.le_trans (txt_wt x) (by decide)) (by decide) ?_
    intro t7 tk7
    walk_at "mm"
    rename Sx _ _ _ _ _ _ => S8
    exact h _ _ _ (S8.sub (by walk_at "sub"))
theorem if_ok (KK : KF K) {x : Int} {xt : Tok} {NA KA RA HA : Addr} {ns ks : List Str} {nx : Str} {ra rlast : List Addr} {r : Addr} {Q : Flow → Shared → Prop} {ha : List Addr} (S : Sx g₀ g L m mu hp) (C : Cx K g₀) (O : Ok A 16)
    (hx : (L + 2, IsC (some (.int x xt))) ∈ mu) (m1 : m "names" = some (.ref NA)) (m2 : m "kept" = some (.ref KA)) (m3 : m "rows" = some (.ref RA)) (m4 : m "held" = some (.ref HA))
    (hN : (NA, IsS (ns ++ [nx])) ∈ mu) (hR : (RA, IsL (ra.map .ref ++ [.ref r])) ∈ mu) (l1 : ns.length ≤ 100) (l2 : ks.length ≤ 100) (l3 : ha.length ≤ 100)
    {mu1 mu2 : Mut} (u1 : Up KA (IsS ks) (IsS (ks ++ [nx])) mu mu1) (hR1 : (RA, IsL (ra.map .ref ++ [.ref r])) ∈ mu1) (u2 : Up HA (IsL (ha.map .ref)) (IsL (ha.map .ref ++ [.ref r])) mu1 mu2)
    (h1 : keepX x = true → ∀ h' tk, Sx g₀ g L m mu2 h' → Q .next ⟨h', gs₀, dr, tk, os⟩) (h2 : keepX x = false → ∀ h' tk, Sx g₀ g L m mu h' → Q .next ⟨h', gs₀, dr, tk, os⟩) : wpAny (model prog w) A (exec (loopS 3) (lawEnv L)) Q E ⟨hp, gs₀, dr, tk₀, os⟩ := by
  show wpAny _ _ (exec (Stmt.If _ _ _ _) _) _ _ _
  walk_at "mm"
  refine n_cell S rfl hx ?_
  walk_at "mm"
  refine c_abs ?_
  intro t5 tk5
  walk_at "mm"
  refine c_fdiv (k := 1296) (by decide) (by decide) ?_
  intro t7 tk7
  walk_at "mm"
  refine c_fmod (k := 2) (by decide) ?_
  intro t8 tk8
  walk_at "mm"
  refine PyProof.Rows.eq_int ?_
  walk_at "mm"
  by_cases hk : keepX x = true
  · have hk' : x.natAbs / 1296 % 2 = 1 := of_decide_eq_true hk
    refine ite_pos (by rw [hk']; decide) ?_
    walk_at "mm"
    refine gm_S S u1.mem PySem.F.slot_list_append PySem.F.type_list_append ?_
    walk_at "mm"
    refine ls_last S hN (by simp) ?_
    intro t9
    rw [show (ns ++ [nx]).getLast (by simp) = nx from by simp]
    walk_at "mm"
    refine ls_append (c := nx) S u1 (by rw [sizeLine_eq]; omega) ?_
    intro h10 S10
    walk_at "mm"
    refine gm_list S10 u2.mem PySem.F.slot_list_append PySem.F.type_list_append ?_
    walk_at "mm"
    refine last_l (vs := ra.map .ref) (v := .ref r) (S10.lAt hR1) ?_
    walk_at "mm"
    refine l_append (vs := ha.map .ref) S10 u2 (by rw [List.length_map, sizeLine_eq]; omega) ?_
    intro h11 S11
    walk_at "mm"
    exact h1 hk _ _ S11
  · have hk' : ¬ x.natAbs / 1296 % 2 = 1 := fun q => hk (decide_eq_true q)
    refine ite_neg ?_ ?_
    · rw [beq_iff_eq]; omega
    walk_at "mm"
    exact h2 (by simpa using hk) _ _ S
end
end
section
/-! ## law: the first loop, whole -/
def heldX (xs : List Int) : List Int := xs.filter keepX
section
variable {K : Frag} {prog : Program} {w : World} {A : Around} {hp : Heap} {gs₀ : Array GenState} {dr : Drawn} {tk₀ : Nat} {os : OsState} {E : Value → Shared → Prop} {g₀ g : Heap} {L : Addr} {m : Str → Option Value} {mu : Mut}
abbrev loopMu (L HA RA KA NA PA : Addr) (has ras : List Addr) (xs : List Int) (xv : Option Value) : Mut :=
  [(HA, IsL (has.map .ref)), (RA, IsL (ras.map .ref)), (KA, IsS ((heldX xs).map nameX)), (NA, IsS (xs.map nameX)), (PA, IsS menu), (L + 3, IsC none), (L + 2, IsC xv), (L + 1, IsC (some (.ref PA)))]
theorem sl_i {a : Addr} {vs ws : List Value} {value slice : PySem.Expr} {vl vu : Value} {lo hi : Option Int} {Q : Value → Shared → Prop} (S : Sx g₀ g L m mu hp) (hl : hp.IsList a vs.toArray) (pl : IsPart vl lo) (pu : IsPart vu hi) (hz : vs.length ≤ sizeLine) (hv : (slicePick vs.toArray lo hi none) = ws.toArray)
    (h : ∀ r h', Sx g₀ g L m ((r, IsL ws) :: mu) h' → Q (.ref r) ⟨h', gs₀, dr, tk₀, os⟩)
    (hs : subscripted slice false (.ref a) (.ref hp.objs.size) = operate [.ref hp.objs.size, .ref a] (getItem (.ref a) (.ref hp.objs.size)) := by with_unfolding_all rfl) :
    wpAny (model prog w) A (subscriptTail value slice (.ref a) (.ref hp.objs.size)) Q E ⟨hp.push { cls := .type "slice", data := .fields #[vl, vu, .none] }, gs₀, dr, tk₀, os⟩ := by
  have S' := S.grow (Keep.rfl'.push { cls := .type "slice", data := .fields #[vl, vu, .none] })
  refine tail_any (s := ⟨hp.push { cls := .type "slice", data := .fields #[vl, vu, .none] }, gs₀, dr, tk₀, os⟩) (hl.push _).typeIs slot_list_getitem.lookup (wpAny_getItem_list_slice (hl.push _) (Heap.IsSliceOf.new ..) pl pu .none (by simp) ?_ (by rw [List.size_toArray]; exact hz)) hs
  rw [hv]
  exact h _ _ (S'.alloc rfl ⟨0, rfl⟩)
theorem il_keep {h h' : Heap} {a : Addr} {items : Array Value} (x : h.IsList a items) (k : Keep h h') : h'.IsList a items := let ⟨o, e, r⟩ := x; ⟨o, k _ _ e, r⟩
theorem loop_ok (KK : KF K) {h₁ : Heap} {sa HA RA KA NA PA : Addr} {sl : List (Int × Tok)} {Q : Flow → Shared → Prop} (C : Cx K hp) (O : Ok A 16) (hsa : hp.IsList sa (intVals sl).toArray) (hsl : sl.length ≤ 4096)
    (S : Sx hp hp L m (loopMu L HA RA KA NA PA [] [] [] none) h₁) (m0 : m "script" = some (.ref sa)) (m1 : m "names" = some (.ref NA)) (m2 : m "kept" = some (.ref KA)) (m3 : m "rows" = some (.ref RA)) (m4 : m "held" = some (.ref HA))
    (h : ∀ g' m' h' tk has ras xv, Keep hp g' → RowsAt g' ras ((script5 (sl.map (·.1))).map rowX) → RowsAt g' has ((heldX (script5 (sl.map (·.1)))).map rowX) → m' "names" = some (.ref NA) → m' "kept" = some (.ref KA) → m' "rows" = some (.ref RA) → m' "held" = some (.ref HA) →
      Sx hp g' L m' (loopMu L HA RA KA NA PA has ras (script5 (sl.map (·.1))) xv) h' → Q .next ⟨h', gs₀, dr, tk, os⟩) :
    wpAny (model prog w) A (exec (lawS 1) (lawEnv L)) Q E ⟨h₁, gs₀, dr, tk₀, os⟩ := by
  show wpAny _ _ (exec (Stmt.For _ _ _ _ _) _) _ _ _
  walk_at "mm"
  rename_i LA _ S1 _ _
  refine sl_i (ws := intVals (sl.take 5)) S1 (il_keep hsa S1.keep) .none (.int _ _) (by rw [intVals_length, sizeLine_eq]; omega) ?_ ?_
  · rw [show (5 : Int) = ((5 : Nat) : Int) from rfl, slicePick_upto']
    simp [intVals, List.map_take]
  intro r2 h2 S2
  walk_at "mm"
  refine add_l S2 (S2.lAt (by walk_at "mem")) (S2.lAt (by walk_at "mem")) ?_ ?_
  · rw [intVals_length, sizeLine_eq, List.length_take]; simp only [List.length_cons, List.length_nil]; omega
  intro r3 h3 S3
  obtain ⟨XL, hXL, S4⟩ : ∃ XL : List (Int × Tok), XL.map (·.1) = script5 (sl.map (·.1)) ∧ Sx hp hp L m ((r3, IsL (intVals XL)) :: loopMu L HA RA KA NA PA [] [] [] none) h3 := by
    refine ⟨(8, _) :: (1309, _) :: (1050, _) :: sl.take 5, ?_, S3.sub (.cons_cons _ (.cons _ (.cons _ (List.Sublist.refl _))))⟩
    simp [script5, List.map_take]
  have hXl : XL.length ≤ 8 := by
    have := congrArg List.length hXL
    simp only [List.length_map, script5, List.length_append, List.length_cons, List.length_nil, List.length_take] at this
    omega
  refine iter_of_list S4 (.inr (by walk_at "mem")) ?_
  intro it h5 S5
  rw [← hXL] at h
  refine for_any (iter_list (vs := intVals XL) O.handled)
    (fun i g' m' mu' gs => gs = gs₀ ∧ m' "names" = some (.ref NA) ∧ m' "kept" = some (.ref KA) ∧ m' "rows" = some (.ref RA) ∧ m' "held" = some (.ref HA) ∧ Keep hp g' ∧
      ∃ has ras xv, RowsAt g' ras (((XL.take i).map (·.1)).map rowX) ∧ RowsAt g' has ((heldX ((XL.take i).map (·.1))).map rowX) ∧ mu' = (r3, IsL (intVals XL)) :: loopMu L HA RA KA NA PA has ras ((XL.take i).map (·.1)) xv)
    S5 ⟨rfl, m1, m2, m3, m4, Keep.rfl', [], [], none, .nil, .nil, rfl⟩ (fun i g m mu gs hJ => .inr (by obtain ⟨_, _, _, _, _, _, _, _, _, _, _, e⟩ := hJ; rw [e]; walk_at "mem")) ?_ ?_
  · intro i v g' m' mu' gs h6 tk6 E' hi hv hJ hk S6
    obtain ⟨rfl, n1, n2, n3, n4, kg, has, ras, xv, hR, hH, rfl⟩ := hJ
    have hi' : i < XL.length := by rw [intVals_length] at hi; exact hi
    obtain ⟨x, xt, hxi, rfl⟩ : ∃ x t, XL[i]? = some (x, t) ∧ v = Value.int x t := by
      simp only [intVals, List.getElem?_map, Option.map_eq_some_iff] at hv
      obtain ⟨⟨c, t⟩, e, rfl⟩ := hv
      exact ⟨c, t, e, rfl⟩
    have htk : (XL.take (i + 1)).map (·.1) = (XL.take i).map (·.1) ++ [x] := by rw [List.take_add_one, hxi, List.map_append]; rfl
    have hlt : ((XL.take i).map (·.1)).length ≤ 8 := by rw [List.length_map, List.length_take]; omega
    rw [htk]
    generalize (XL.take i).map (·.1) = xs at hR hH hlt S6
    refine wpAny_assign_Name ?_
    refine st_cell (c := L + 2) S6 rfl (.tail (.tail (.tail (.tail (.tail (.tail (.tail (.tail .head)))))))) ?_
    intro h7 S7
    refine wpAny_execs_cons ?_
    refine text_ok (x := x) (xt := xt) (PA := PA) KK S7 C O (by walk_at "mem") (by walk_at "mem") (by walk_at "mem") ?_
    intro h8 tk8 t8 S8
    walk_at "mm"
    refine join_c KK S8 C (by walk_at "ok") (by have := (txt_head x).2.2.2.2; omega) (txt_head x).1 ?_
    intro h9 tk9 t9 S9
    walk_at "mm"
    refine normpath_c KK S9 C (by walk_at "ok") (by rw [Str.length_append, show Str.length "/" = 1 from rfl]; have := (txt_head x).2.2.2.2; omega) (txt_head x).2.1 (txt_head x).2.2.1 (txt_head x).2.2.2.1 ?_
    intro h10 tk10 t10 S10
    walk_at "mm"
    refine ls_append (c := nameX x) S10 (.tail (.tail (.tail (.tail (.tail .head))))) (by rw [sizeLine_eq, List.length_map]; omega) ?_
    intro h11 S11
    walk_at "mm"
    refine lawRow_c KK S11 C (by walk_at "ok") (by have := (txt_head x).2.2.2.2; omega) ?_
    intro r h12 tk12 S12
    walk_at "mm"
    have lr := hR.len
    rw [List.length_map] at lr
    have lh := hH.len
    rw [List.length_map] at lh
    have lh2 : (heldX xs).length ≤ xs.length := List.length_filter_le _ _
    refine l_append (vs := ras.map .ref) S12 (.tail (.tail (.tail (.tail .head)))) (by rw [List.length_map, sizeLine_eq]; omega) ?_
    intro h13 S13
    obtain ⟨g2, k2, S14, o2, e2, p2⟩ := S13.settle
    have hr2 : SAt g2 r (rowX x) := ⟨o2, e2, p2⟩
    refine wpAny_execs_cons ?_
    have e1 : ∀ (l : List Addr) (a : Addr), l.map Value.ref ++ [Value.ref a] = (l ++ [a]).map .ref := fun l a => by simp
    refine if_ok (x := x) (xt := xt) (NA := NA) (KA := KA) (RA := RA) (HA := HA) (ns := xs.map nameX) (nx := nameX x) (ks := (heldX xs).map nameX) (ra := ras) (rlast := []) (r := r) (ha := has) KK S14 C O (by walk_at "mem") (by walk_at "lk") (by walk_at "lk") (by walk_at "lk") (by walk_at "lk") (by walk_at "mem") (by walk_at "mem") (by rw [List.length_map]; omega) (by rw [List.length_map]; omega) (by omega)
      (.tail (.tail (.tail (.tail .head)))) (by walk_at "mem") (.tail (.tail .head)) ?_ ?_
    · intro hkx h15 tk15 S15
      walk_at "mm"
      rw [e1, e1] at S15
      have hh : heldX (xs ++ [x]) = heldX xs ++ [x] := by simp [heldX, List.filter_append, hkx]
      refine ⟨_, _, _, _, _, _, rfl, k2, S15, rfl, by walk_at "lk", by walk_at "lk", by walk_at "lk", by walk_at "lk", kg.trans k2, has ++ [r], ras ++ [r], some (.int x xt), ?_, ?_, ?_⟩
      · rw [List.map_append]; exact (hR.keeps k2).app (.cons hr2 .nil)
      · rw [hh, List.map_append]; exact (hH.keeps k2).app (.cons hr2 .nil)
      · simp only [loopMu, hh, List.map_append, List.map_cons, List.map_nil]
    · intro hkx h15 tk15 S15
      walk_at "mm"
      rw [e1] at S15
      have hh : heldX (xs ++ [x]) = heldX xs := by simp [heldX, List.filter_append, hkx]
      refine ⟨_, _, _, _, _, _, rfl, k2, S15, rfl, by walk_at "lk", by walk_at "lk", by walk_at "lk", by walk_at "lk", kg.trans k2, has, ras ++ [r], some (.int x xt), ?_, ?_, ?_⟩
      · rw [List.map_append]; exact (hR.keeps k2).app (.cons hr2 .nil)
      · rw [hh]; exact hH.keeps k2
      · simp only [loopMu, hh, List.map_append, List.map_cons, List.map_nil]
  · intro g' m' mu' gs h6 tk6 hJ hk S6
    obtain ⟨rfl, n1, n2, n3, n4, kg, has, ras, xv, hR, hH, rfl⟩ := hJ
    rw [show XL.take (intVals XL).length = XL from List.take_of_length_le (by rw [intVals_length]; exact Nat.le_refl _)] at hR hH S6
    exact h g' m' h6 tk6 has ras xv kg hR hH n1 n2 n3 n4 S6.drop
end
end
section
/-! ## law: stay -/
def ancF : Nat → Str → List Str
  | 0, _ => []
  | n + 1, p => if Txt.rstripChars p "/" = "" then [] else p :: ancF n (dirF p)
def af (x : Str) : List Str := ancF 8 (Txt.rstripChars x "/")
structure AncOk (x : Str) : Prop where
  anc : Anc (Txt.rstripChars x "/") (af x)
  len : x.length ≤ 1000
  few : (af x).length ≤ 8
def stayT (ks : List Str) : List Str := (ks.flatMap af).foldl put []
theorem flat_len {ks : List Str} (h : ∀ x ∈ ks, AncOk x) : (ks.flatMap af).length ≤ ks.length * 8 := by
  induction ks with
  | nil => simp
  | cons x ks ih =>
    rw [List.flatMap_cons, List.length_append, List.length_cons]
    have h1 := (h x (.head _)).few
    have h2 := ih fun y hy => h y (.tail _ hy)
    omega
theorem put_fold_len : ∀ (xs acc : List Str), (xs.foldl put acc).length ≤ acc.length + xs.length
  | [], acc => by simp
  | x :: xs, acc => by
    rw [List.foldl_cons]
    have := put_fold_len xs (put acc x)
    have := put_len acc x
    rw [List.length_cons]; omega
section
variable {K : Frag} {prog : Program} {w : World} {A : Around} {hp : Heap} {gs₀ : Array GenState} {dr : Drawn} {tk₀ : Nat} {os : OsState} {E : Value → Shared → Prop} {g₀ g : Heap} {L : Addr} {m : Str → Option Value} {mu mu' : Mut}
theorem stay_ok (KK : KF K) {KA : Addr} {ks : List Str} {Q : Flow → Shared → Prop} (S : Sx g₀ g L m [(L + 3, IsC none)] hp) (C : Cx K g₀) (O : Ok A 20) (mk : m "kept" = some (.ref KA)) (hK : SAt g KA ks) (hkl : ks.length ≤ 8) (hA : ∀ x ∈ ks, AncOk x)
    (h : ∀ ST g' h' tk gs', Keep g g' → (AllBare gs₀ → AllBare gs') → SAt g' ST (stayT ks) → Sx g₀ g' L m [(L + 3, IsC (some (.ref ST)))] h' → Q .next ⟨h', gs', dr, tk, os⟩) :
    wpAny (model prog w) A (exec (lawS 2) (lawEnv L)) Q E ⟨hp, gs₀, dr, tk₀, os⟩ := by
  show wpAny _ _ (exec (Stmt.Assign [Expr.Name _ _] _ _) _) _ _ _
  walk_at "mm"
  refine cw_bf ?_
  walk_at "mm"
  obtain ⟨l, hl1, hl2⟩ := hK.open
  have hll : l.length = ks.length := by rw [← hl1, List.length_map]
  have hfm : ∀ l' : List (Str × Tok), l'.flatMap (fun z => af z.1) = (l'.map (·.1)).flatMap af := fun l' => by rw [List.flatMap_map]
  refine nest_eval (cl := []) (by rfl) ?_
  walk_at "mm"
  refine iter_of_list S (.inl hl2.isList) ?_
  intro it h1 S1
  refine nest_run (l := l) (af := af) KK C (Ok.mono (by omega) O) S1 (.inl hl2.isList) ?_ (by omega) ?_ ?_
  · intro i
    rw [hfm]
    have := flat_len (ks := (l.take i).map (·.1)) (fun x hx => hA x (by rw [← hl1]; rw [List.map_take] at hx; exact List.mem_of_mem_take hx))
    have h2 : ((l.take i).map (·.1)).length ≤ l.length := by rw [List.length_map]; exact List.length_take_le' _ _
    omega
  · intro Cc hp2 gs2 mc2 mu2 tk2 E2 Q2 z hz S2 hm2 hq2
    have hz' := hA z.1 (by rw [← hl1]; exact List.mem_map_of_mem hz)
    walk_at "mm"
    exact anc_c KK S2 C (by walk_at "ok") hz'.anc (by have := hz'.len; omega) fun Lf ga o h' tk hAg S3 => hq2 Lf ga o h' tk hAg S3
  · intro acc h3 tk3 gs3 hB S3
    rw [hfm, hl1] at S3
    obtain ⟨l3, hl3, k3⟩ := S3.openS (a := acc) (by walk_at "mem")
    have S4 := k3 _ .head
    walk_at "mm"
    refine ⟨dedupe_is KK (C.keeps S4.old), ?_⟩
    have hl3l : l3.length ≤ 64 := by
      have := congrArg List.length hl3
      rw [List.length_map] at this
      have := flat_len hA
      omega
    refine dedupe_list (l := l3) KK S4 C (by walk_at "ok") (.inr (by walk_at "mem")) (by rw [sizeLine_eq]; omega) ?_
    intro d h5 tk5 hd S5
    rw [hl3] at S5
    walk_at "mm"
    have hpl := put_fold_len (ks.flatMap af) []
    have := flat_len hA
    refine list_dict S5 C O.handled hd (by rw [sizeLine_eq]; simp only [List.length_nil] at hpl; omega) ?_
    intro ST h6 tk6 S6
    obtain ⟨g7, k7, S7, o7, e7, p7⟩ := S6.settle
    walk_at "mm"
    refine st_cell (c := L + 3) (v₀ := none) (S7.sub (mu' := [(L + 3, IsC none)]) (by walk_at "sub")) rfl .head ?_
    intro h8 S8
    exact h ST g7 _ _ _ k7 hB ⟨o7, e7, p7⟩ S8
def goneT (ns ss : List Str) : List Str := (ns.filter fun y => decide (y ∉ ss)).foldl put []
theorem gone_ok (KK : KF K) (F : FF K) {NA ST : Addr} {ns ss : List Str} {Q : Flow → Shared → Prop} (S : Sx g₀ g L m [(L + 3, IsC (some (.ref ST)))] hp) (C : Cx K g₀) (O : Ok A 40) (hfr : A.frames = some [lawEnv L]) (mk : m "names" = some (.ref NA)) (hN : SAt g NA ns) (hS : SAt g ST ss) (hnl : ns.length ≤ 8) (hsl : ss.length ≤ 64)
    (h : ∀ GO g' h' tk, Keep g g' → SAt g' GO (goneT ns (ss ++ [("/" : Str)])) → Sx g₀ g' L (fun y => if y = "gone" then some (.ref GO) else m y) [(L + 3, IsC (some (.ref ST)))] h' → Q .next ⟨h', gs₀, dr, tk, os⟩) :
    wpAny (model prog w) A (exec (lawS 3) (lawEnv L)) Q E ⟨hp, gs₀, dr, tk₀, os⟩ := by
  show wpAny _ _ (exec (Stmt.Assign [Expr.Name _ _] _ _) _) _ _ _
  walk_at "mm"
  refine cw_bf ?_
  walk_at "mm"
  rename Sx _ _ _ _ _ _ => S1
  have S2 := S1.weaken (P' := IsS (["/"] : List Str)) .head isS_one
  refine add_ss S2 (hS.keeps S2.keep) (S2.sAt (by walk_at "mem")) (by rw [sizeLine_eq]; simp only [List.length_singleton]; omega) ?_
  intro sub h3 S3
  walk_at "mm"
  obtain ⟨l, hl1, hl2⟩ := hN.open
  have hll : l.length = ns.length := by rw [← hl1, List.length_map]
  refine difference_c KK F S3 C (by walk_at "ok") (S3.sAt (by walk_at "mem")) (by show _ < 4096; rw [List.length_append, List.length_singleton]; omega) (src_list (hl2.keeps S3.keep)) ?_
  rintro v x dx b st h4 tk4 ⟨it, rfl⟩ S4
  walk_at "mm"
  refine ⟨dedupe_is KK (C.keeps S4.old), ?_⟩
  have D := draw_list (K := K) (prog := prog) (w := w) (gs₀ := gs₀) (a := NA) (it := it) (A := Around.blur ((A.in1.deeper (nextEnv 0)).in1)) O.handled l
  have hin : Ok A.in1 20 := by walk_at "ok"
  have P := pull_ff (x := x) (dx := dx) (b := b) (st := st) (outer := [lawEnv L]) (ss := ss ++ [("/" : Str)]) (ls := l.map (·.1)) KK F hin D hfr (by show _ < 4096; rw [List.length_append, List.length_singleton]; omega) rfl
  have S5 : Sx g₀ g L m ((it, IsLIt NA 0) :: [(x, (· = ffObj dx #[some (.ref b), some (.ref it)])), (dx, (· = emptyDict)), (b, (· = bmObj st)), (st, IsSS prog w (ss ++ [("/" : Str)])), (L + 3, IsC (some (.ref ST)))]) h4 := S4.sub (by
    show List.Sublist _ [(it, _), (x, _), (dx, _), (b, _), (st, _), (sub, _), (_, _), (L + 3, _)]
    walk_at "sub")
  refine dedupe_ff (todo := ns.filter fun y => decide (y ∉ ss ++ [("/" : Str)])) KK F P S5 C (by walk_at "ok") ⟨0, Nat.zero_le _, ⟨rfl, rfl⟩, by rw [hl1]; rfl⟩ (by walk_at "mem") (by walk_at "mem") ?_ ?_ ?_
  · exact Nat.le_trans (List.length_filter_le _ _) (by rw [sizeLine_eq]; omega)
  · exact ⟨⟨by walk_at "mem", by walk_at "mem", by walk_at "mem", by walk_at "mem"⟩, fun env he => by simp only [List.mem_singleton] at he; subst he; exact ⟨by show (scopeOf (stmtAt 35)).kind ≠ _; decide, L, rfl, .inl rfl⟩, .inl hl2.isList⟩
  intro d h6 tk6 gs6 hd hE S6
  subst hE
  walk_at "mm"
  have hpl := put_fold_len (ns.filter fun y => decide (y ∉ ss ++ [("/" : Str)])) []
  have hfl := List.length_filter_le (fun y => decide (y ∉ ss ++ [("/" : Str)])) ns
  refine list_dict S6 C O.handled hd (by rw [sizeLine_eq]; simp only [List.length_nil] at hpl; omega) ?_
  intro GO h7 tk7 S7
  obtain ⟨g8, k8, S8, o8, e8, p8⟩ := S7.settle
  walk_at "mm"
  rename Sx _ _ _ _ _ _ => S9
  exact h GO g8 _ _ k8 ⟨o8, e8, p8⟩ (S9.sub (by walk_at "sub"))
end
end
section
/-! ## law: tops -/
def topT (ss : List Str) (one : Str) : Str := (((af one).filter fun y => decide (y ∉ ss)).getLast?).getD ""
section
variable {K : Frag} {prog : Program} {w : World} {A : Around} {hp : Heap} {gs₀ : Array GenState} {dr : Drawn} {tk₀ : Nat} {os : OsState} {E : Value → Shared → Prop} {g₀ g : Heap} {L : Addr} {m : Str → Option Value} {mu mu' : Mut}
theorem tops_ok (KK : KF K) (F : FF K) {GO ST : Addr} {go ss : List Str} {Q : Flow → Shared → Prop} (S : Sx g₀ g L m [(L + 3, IsC (some (.ref ST)))] hp) (C : Cx K g₀) (O : Ok A 60) (hfr : A.frames = some [lawEnv L]) (mk : m "gone" = some (.ref GO)) (hG : SAt g GO go) (hS : SAt g ST ss) (hgl : go.length ≤ 8) (hsl : ss.length ≤ 64)
    (hA : ∀ x ∈ go, AncOk x) (hne : ∀ x ∈ go, ((af x).filter fun y => decide (y ∉ ss)) ≠ [])
    (h : ∀ TO g' h' tk gs', (AllBare gs₀ → AllBare gs') → Keep g g' → SAt g' TO (go.map (topT ss)) → Sx g₀ g' L (fun y => if y = "tops" then some (.ref TO) else m y) [(L + 3, IsC (some (.ref ST)))] h' → Q .next ⟨h', gs', dr, tk, os⟩) :
    wpAny (model prog w) A (exec (lawS 4) (lawEnv L)) Q E ⟨hp, gs₀, dr, tk₀, os⟩ := by
  show wpAny _ _ (exec (Stmt.Assign [Expr.Name _ _] _ _) _) _ _ _
  refine comp_to (cl := [("stay", L + 3)]) (by rfl) ?_
  walk_at "mm"
  obtain ⟨l, hl1, hl2⟩ := hG.open
  have hll : l.length = go.length := by rw [← hl1, List.length_map]
  refine iter_of_list S (.inl hl2.isList) ?_
  intro it h1 S1
  refine comp_run_to (iter_list (vs := strValues l) O.handled)
    (fun j ys g2 mu2 gs2 => (AllBare gs₀ → AllBare gs2) ∧ mu2 = [(L + 3, IsC (some (.ref ST)))] ∧ Keep g g2 ∧ ∃ l2 : List (Str × Tok), ys = strValues l2 ∧ l2.map (·.1) = (go.take j).map (topT ss))
    S1 ⟨id, rfl, Keep.rfl', [], rfl, rfl⟩ ?_ ?_ ?_ (by rw [strValues_length, hll, sizeLine_eq]; omega)
  · rintro j ys g2 mu2 gs2 ⟨hB, rfl, k2, l2, rfl, hl2'⟩
    refine ⟨.inl ((hl2.keeps k2).isList), ?_⟩
    have := congrArg List.length hl2'
    rw [List.length_map, List.length_map] at this
    rw [strValues_length, this]
    exact List.length_take_le _ _
  · intro j v ys g2 mc2 mu2 gs2 h2 tk2 acc Cc E2 hj hv hJ hk2 S2
    obtain ⟨hB, rfl, k2, l2, rfl, hl2'⟩ := hJ
    have hj' : j < l.length := by rw [strValues_length] at hj; exact hj
    have hv' : v = .str l[j].1 l[j].2 := by
      simp only [strValues, List.getElem?_map, List.getElem?_eq_getElem hj', Option.map_some, Option.some.injEq] at hv
      exact hv.symm
    subst hv'
    have hgj : go[j]? = some l[j].1 := by rw [← hl1, List.getElem?_map, List.getElem?_eq_getElem hj']; rfl
    have htk : (go.take (j + 1)).map (topT ss) = (go.take j).map (topT ss) ++ [topT ss l[j].1] := by rw [List.take_add_one, hgj, List.map_append]; rfl
    rw [htk]
    have hone := hA _ (List.mem_of_getElem? hgj)
    have hne' := hne _ (List.mem_of_getElem? hgj)
    generalize l[j].1 = one at S2 hone hne'
    generalize l[j].2 = ot at S2
    refine ifs_nil ?_
    refine ite_pos rfl ?_
    walk_at "mm"
    refine anc_c KK S2 C (by walk_at "ok") hone.anc (by have := hone.len; omega) ?_
    intro Lf ga o h3 tk3 hAg S3
    walk_at "mm"
    obtain ⟨og, eg, hg⟩ := S3.get _ (.tail _ (.head _))
    refine difference_c KK F S3 C (by walk_at "ok") (hS.keeps (k2.trans S3.keep)) (by show _ < 4096; omega) (src_gen eg hg) ?_
    rintro v x dx b st h4 tk4 rfl S4
    walk_at "mm"
    have S5 : Sx g₀ g2 Cc _ ((Lf, (· = o)) :: (ga, IsGenO gs2.size) :: (x, (· = ffObj dx #[some (.ref b), some (.ref ga)])) :: (dx, (· = emptyDict)) :: (b, (· = bmObj st)) :: (st, IsSS prog w ss) :: (it, IsLIt GO (j + 1)) :: (acc, IsL (strValues l2)) :: (L, IsNs m) :: [(L + 3, IsC (some (.ref ST)))]) h4 :=
      S4.perm (List.perm_append_comm (l₁ := [(x, (· = ffObj dx #[some (.ref b), some (.ref ga)])), (dx, (· = emptyDict)), (b, (· = bmObj st)), (st, IsSS prog w ss)]) (l₂ := [(Lf, (· = o)), (ga, IsGenO gs2.size)]) |>.append_right _)
    have hin : Ok A.in1.in1 40 := Ok.in1M (Ok.in1M O (Nat.le_refl _)) (by decide)
    have hbl : Ok (Around.blur ((A.in1.in1.deeper (nextEnv 0)).in1)) 20 := by
      have h1 : Ok ((A.in1.in1.deeper (nextEnv 0)).in1) 20 := Ok.in1M (Ok.deeperM hin (Nat.le_refl _)) (by decide)
      exact ⟨h1.handled, h1.depth, h1.units⟩
    have D := draw_gen (K := K) (prog := prog) (w := w) (gs₀ := gs2) (ga := ga) (Lf := Lf) (ls := af one) (A := Around.blur ((A.in1.in1.deeper (nextEnv 0)).in1)) (hbl.mono (by omega))
    have P := pull_ff (x := x) (dx := dx) (b := b) (st := st) (outer := [lawEnv L]) (ss := ss) (ls := af one) KK F (hin.mono (by omega)) D hfr (by show _ < 4096; omega) rfl
    refine list_ff (todo := (af one).filter fun y => decide (y ∉ ss)) KK F P S5 C (by walk_at "ok") ⟨0, Nat.zero_le _, ⟨o, _, rfl, rfl, hAg _ (Ok.in1M hbl (by decide))⟩, rfl⟩ (by walk_at "mem") (by walk_at "mem") ?_ ?_ ?_
    · exact Nat.le_trans (List.length_filter_le _ _) (by have := hone.few; rw [sizeLine_eq]; omega)
    · exact ⟨⟨by walk_at "mem", by walk_at "mem", by walk_at "mem", by walk_at "mem"⟩, fun env he => by simp only [List.mem_singleton] at he; subst he; exact ⟨by show (scopeOf (stmtAt 35)).kind ≠ _; decide, L, rfl, .inr ⟨m, by walk_at "mem"⟩⟩, by walk_at "mem"⟩
    intro a6 h6 tk6 gs6 hE S6
    subst hE
    walk_at "mm"
    refine ls_last S6 (by walk_at "mem") hne' ?_
    intro t7
    have htop : ((af one).filter fun y => decide (y ∉ ss)).getLast hne' = topT ss one := by unfold topT; rw [List.getLast?_eq_some_getLast hne']; rfl
    rw [htop]
    refine ⟨_, _, _, _, _, _, rfl, Keep.rfl', S6.sub (mu' := (it, IsLIt GO (j + 1)) :: (acc, IsL (strValues l2)) :: (L, IsNs m) :: [(L + 3, IsC (some (.ref ST)))]) (by walk_at "sub"), fun q => (hB q).push rfl, rfl, k2, l2 ++ [(topT ss one, t7)], (strValues_append _ _ _).symm, ?_⟩
    rw [List.map_append, hl2']; rfl
  · intro ys g2 mu2 gs2 h2 tk2 acc hJ hk2 S2
    obtain ⟨hB, rfl, k2, l2, rfl, hl2'⟩ := hJ
    rw [show go.take (strValues l).length = go from List.take_of_length_le (by rw [strValues_length, hll]; exact Nat.le_refl _)] at hl2'
    have S3 := S2.weaken (P' := IsS (go.map (topT ss))) .head fun o p => ⟨l2, hl2', p⟩
    obtain ⟨g3, k3, S4, o4, e4, p4⟩ := S3.settle
    exact h acc g3 _ _ gs2 hB (k2.trans k3) ⟨o4, e4, p4⟩ S4
end
end
section
/-! ## law: the tests -/
section
variable {prog : Program} {w : World} {A : Around} {E : Value → Shared → Prop} {hp : Heap} {gs₀ : Array GenState} {dr : Drawn} {tk₀ : Nat} {os : OsState} {g₀ g : Heap} {L a b : Addr} {m : Str → Option Value} {mu mu' : Mut} {Q : Value → Shared → Prop} {ss : List Str} {t u : Tok} {c : Str} {n : Nat}
theorem mul_gen {s : Shared} {l : Addr} {items : Array Value} {k : Nat} {x : Int} {u : Tok} (hl : s.heap.get? l = some { cls := .type "list", dict := none, data := .seq items k, slots := #[] })
    (hlo : -(2 ^ 63 : Int) ≤ x) (hhi : x < 2 ^ 63) (hsz : items.size * x.toNat ≤ 2 ^ 24)
    (h : Q (.ref s.heap.objs.size) { s with heap := s.heap.push { cls := .type "list", data := .seq (List.foldl (fun x1 x2 => x1 ++ x2) #[] (List.replicate (if items.isEmpty = true then 0 else x.toNat) items)) } }) :
    wpAny (model prog w) A (binaryOp .Mult (.ref l) (.int x u)) Q E s :=
  wpAny_binaryOp_repeat_ref (T := "list") (U := "int") (by decide) ⟨_, hl, rfl⟩ (fun s' => typeIs_int s' x u) noFill_list_mul F.fills_int_mul F.slot_int_rmul repeat_list F.slot_int_index.lookup
    (call_meets F.slot_int_rmul (typeIs_int s x u) F.entry_int_rmul (F.args_int_rmul_2 _ _) (int___rmul___int_list x u l items k)
      ⟨hl, rfl, ⟨_, hl, rfl⟩, call_meets F.slot_list_mul ⟨_, hl, rfl⟩ F.entry_list_mul (F.args_list_mul_2 _ _)
        (AutoListH.list___mul___list_int_3 l items k x u (by simp [Builtin.List.listFitsIndex]; omega) (by omega) (by simp [Builtin.List.listTooLong, sizeLine]; omega))
        ⟨hl, h⟩⟩)
theorem mul_one (S : Sx g₀ g L m mu hp) (ha : (a, IsL [.str c t]) ∈ mu) (hn : n ≤ 64) (h : ∀ r h', Sx g₀ g L m ((r, IsS (List.replicate n c)) :: mu) h' → Q (.ref r) ⟨h', gs₀, dr, tk₀, os⟩) :
    wpAny (model prog w) A (binaryOp .Mult (.ref a) (.int (n : Int) u)) Q E ⟨hp, gs₀, dr, tk₀, os⟩ := by
  obtain ⟨o, e, k, rfl⟩ := S.get _ ha
  refine mul_gen (s := ⟨hp, gs₀, dr, tk₀, os⟩) e (by omega) (by omega) (by rw [Int.toNat_natCast]; simp; omega) ?_
  refine h _ _ (S.alloc rfl ⟨List.replicate n (c, t), by simp, 0, ?_⟩)
  rw [if_neg (by simp), Int.toNat_natCast, listMul_foldl, lm_rep_flat_one]
  simp [strValues]
theorem ne_bb {p q : Bool} (h : Q (.bool (!(p == q))) ⟨hp, gs₀, dr, tk₀, os⟩) : wpAny (model prog w) A (compareOp .NotEq (.bool p) (.bool q)) Q E ⟨hp, gs₀, dr, tk₀, os⟩ := SeqAt.RcNeAt.bool_bool p q prog w E Q h
theorem mid_ss {value slice : PySem.Expr} {i j : Nat} {u v : Tok} (S : Sx g₀ g L m mu hp) (ha : SAt hp a ss) (hz : ss.length ≤ sizeLine) (hij : j ≤ i) (hi : i ≤ ss.length) (h : ∀ r h', Sx g₀ g L m ((r, IsS ((ss.drop j).take (i - j))) :: mu) h' → Q (.ref r) ⟨h', gs₀, dr, tk₀, os⟩)
    (hs : subscripted slice false (.ref a) (.ref hp.objs.size) = operate [.ref hp.objs.size, .ref a] (getItem (.ref a) (.ref hp.objs.size)) := by with_unfolding_all rfl) :
    wpAny (model prog w) A (subscriptTail value slice (.ref a) (.ref hp.objs.size)) Q E ⟨hp.push { cls := .type "slice", data := .fields #[.int (j : Int) u, .int (i : Int) v, .none] }, gs₀, dr, tk₀, os⟩ := by
  obtain ⟨l, rfl, la⟩ := ha.open
  rw [List.length_map] at hz hi
  refine sl_l (ws := strValues ((l.drop j).take (i - j))) S la (.int _ _) (.int _ _) (by rw [strValues_length]; exact hz) ?_ (fun r h' S' => h r h' (S'.weaken .head fun o p => ⟨(l.drop j).take (i - j), by simp [List.map_take, List.map_drop], p⟩)) hs
  rw [slicePick_run _ _ _ (by rw [List.size_toArray, strValues_length]; exact hi) hij]
  simp [strValues, List.map_take, List.map_drop]
end
section
variable {K : Frag} {prog : Program} {w : World} {A : Around} {hp : Heap} {gs₀ : Array GenState} {dr : Drawn} {tk₀ : Nat} {os : OsState} {E : Value → Shared → Prop} {g₀ g : Heap} {L : Addr} {m : Str → Option Value} {mu mu' : Mut}
theorem if1_ok (KK : KF K) {GO ST TO RA HA : Addr} {ras has : List Addr} {rows held : List (List Str)} {go ss to : List Str} {Q : Flow → Shared → Prop} (S : Sx g₀ g L m [(L + 3, IsC (some (.ref ST)))] hp) (C : Cx K g₀) (O : Ok A 30)
    (m1 : m "gone" = some (.ref GO)) (m2 : m "tops" = some (.ref TO)) (m3 : m "rows" = some (.ref RA)) (m4 : m "held" = some (.ref HA)) (hG : SAt g GO go) (hS : SAt g ST ss) (hT : SAt g TO to) (hR : LAt g RA (ras.map .ref)) (hRR : RowsAt g ras rows) (hH : LAt g HA (has.map .ref)) (hHR : RowsAt g has held)
    (n1 : rows.length ≤ 8) (n2 : held.length ≤ 8) (w1 : ∀ r ∈ rows, wt r ≤ 40) (w2 : ∀ r ∈ held, wt r ≤ 40) (hgl : go.length ≤ 8) (hsl : ss.length ≤ 64) (hgo : ∀ x ∈ go, x.length ≤ 1000)
    (told : toldF rows held = [ss, go, to]) (climbed : go.map (climbN ss 3) = to)
    (h : ∀ h' tk, Sx g₀ g L m [(L + 3, IsC (some (.ref ST)))] h' → Q .next ⟨h', gs₀, dr, tk, os⟩) :
    wpAny (model prog w) A (exec (lawS 5) (lawEnv L)) Q E ⟨hp, gs₀, dr, tk₀, os⟩ := by
  show wpAny _ _ (exec (Stmt.If _ _ _ _) _) _ _ _
  walk_at "mm"
  rename_i LA _ S1
  refine told_c KK S1 C (by walk_at "ok") (hR.keeps S1.keep) (hRR.keeps S1.keep) (hH.keeps S1.keep) (hHR.keeps S1.keep) n1 n2 w1 w2 ?_
  intro r as h2 tk2 S2 hr1 hr2
  rw [told] at hr2
  refine ne_rs (as := [ST, GO, TO]) (by walk_at "ok") (S2.lAt (vs := [.ref ST, .ref GO, .ref TO]) (by walk_at "mem")) hr1 (.cons (hS.keeps S2.keep) (.cons (hG.keeps S2.keep) (.cons (hT.keeps S2.keep) .nil))) hr2 ?_
  rw [decide_eq_true rfl]
  walk_at "mm"
  refine ite_neg (by decide) ?_
  walk_at "mm"
  refine comp_eval (cl := [("stay", L + 3)]) (by rfl) ?_
  walk_at "mm"
  obtain ⟨l, hl1, hl2⟩ := hG.open
  have hll : l.length = go.length := by rw [← hl1, List.length_map]
  refine iter_of_list S2 (.inl hl2.isList) ?_
  intro it h3 S3
  refine comp_run (iter_list (vs := strValues l) O.handled)
    (fun j ys g2 mu2 gs2 => gs2 = gs₀ ∧ g2 = g ∧ mu2 = [(LA, IsL [.ref ST, .ref GO, .ref TO]), (L + 3, IsC (some (.ref ST)))] ∧ ∃ l2 : List (Str × Tok), ys = strValues l2 ∧ l2.map (·.1) = (go.take j).map (climbN ss 3))
    S3 ⟨rfl, rfl, rfl, [], rfl, rfl⟩ ?_ ?_ ?_ (by rw [strValues_length, hll, sizeLine_eq]; omega)
  · rintro j ys g2 mu2 gs2 ⟨rfl, rfl, rfl, l2, rfl, hl2'⟩
    refine ⟨.inl (hl2.isList), ?_⟩
    have := congrArg List.length hl2'
    rw [List.length_map, List.length_map] at this
    rw [strValues_length, this]
    exact List.length_take_le _ _
  · intro j v ys g2 mc2 mu2 gs2 h4 tk4 acc Cc E2 hj hv hJ hk2 S4
    obtain ⟨rfl, rfl, rfl, l2, rfl, hl2'⟩ := hJ
    have hj' : j < l.length := by rw [strValues_length] at hj; exact hj
    have hv' : v = .str l[j].1 l[j].2 := by
      simp only [strValues, List.getElem?_map, List.getElem?_eq_getElem hj', Option.map_some, Option.some.injEq] at hv
      exact hv.symm
    subst hv'
    have hgj : go[j]? = some l[j].1 := by rw [← hl1, List.getElem?_map, List.getElem?_eq_getElem hj']; rfl
    have htk : (go.take (j + 1)).map (climbN ss 3) = (go.take j).map (climbN ss 3) ++ [climbN ss 3 l[j].1] := by rw [List.take_add_one, hgj, List.map_append]; rfl
    rw [htk]
    have hone := hgo _ (List.mem_of_getElem? hgj)
    generalize l[j].1 = one at S4 hone
    generalize l[j].2 = ot at S4
    refine ifs_nil ?_
    refine ite_pos rfl ?_
    walk_at "mm"
    refine climbed_c KK S4 C (by walk_at "ok") (by omega) (hS.keeps S4.keep) (by rw [sizeLine_eq]; omega) ?_
    intro h5 tk5 t5 S5
    refine ⟨_, _, _, _, _, _, rfl, Keep.rfl', S5, rfl, rfl, rfl, l2 ++ [(_, t5)], (strValues_append _ _ _).symm, ?_⟩
    rw [List.map_append, hl2']; rfl
  intro ys g2 mu2 gs2 h4 tk4 acc hJ hk2 S4
  obtain ⟨rfl, rfl, rfl, l2, rfl, hl2'⟩ := hJ
  rw [show go.take (strValues l).length = go from List.take_of_length_le (by rw [strValues_length, hll]; exact Nat.le_refl _), climbed] at hl2'
  have S5 := S4.weaken (P' := IsS to) .head fun o p => ⟨l2, hl2', p⟩
  walk_at "mm"
  refine ne_ss O (S5.sAt (by walk_at "mem")) (hT.keeps S5.keep) ?_
  rw [decide_eq_true rfl]
  walk_at "mm"
  refine ite_neg (by decide) ?_
  walk_at "mm"
  exact h _ _ (S5.sub (by walk_at "sub"))
end
end
section
/-! ## law: the pairs -/
structure CpOk (xs : List Str) : Prop where
  ne : xs ≠ []
  few : xs.length ≤ 400
  all : ∀ x ∈ xs, x.length ≤ 1000 ∧ Txt.startswith x "/" = true
  ord : ∀ i, (loR (xs.map partsF)).take i = (hiR (xs.map partsF)).take i → i < (loR (xs.map partsF)).length → i < (hiR (xs.map partsF)).length
structure PairOk (go to ss : List Str) (i j : Nat) (gi gj ti tj : Str) : Prop where
  k1 : CpOk ((go.drop j).take (i + 1 - j))
  k2 : CpOk [gi, gj]
  k3 : CpOk [gj, ti]
  e1 : decide ((to.drop j).take (i + 1 - j) = List.replicate (i + 1 - j) ti) = !decide (commonF ((go.drop j).take (i + 1 - j)) ∈ ss ++ [("/" : Str)])
  e2 : decide (ti = tj) = !decide (commonF [gi, gj] ∈ ss ++ [("/" : Str)])
  e3 : decide (ti = tj) = decide (commonF [gj, ti] = ti)
def LawOk (go to ss : List Str) : Prop := ∀ i j gi gj ti tj, go[i]? = some gi → go[j]? = some gj → to[i]? = some ti → to[j]? = some tj → j ≤ i → PairOk go to ss i j gi gj ti tj
def innerS : Stmt := nthS (forBody (lawS 6)) 0
def pairS (i : Nat) : Stmt := nthS (forBody innerS) i
section
variable {K : Frag} {prog : Program} {w : World} {A : Around} {hp : Heap} {gs₀ : Array GenState} {dr : Drawn} {tk₀ : Nat} {os : OsState} {E : Value → Shared → Prop} {g₀ g : Heap} {L : Addr} {m : Str → Option Value} {mu mu' : Mut}
theorem alike_ok (KK : KF K) {TO ST : Addr} {to : List Str} {i j : Nat} {it jt : Tok} {ti : Str} {Q : Flow → Shared → Prop} (S : Sx g₀ g L m mu hp) (C : Cx K g₀) (O : Ok A 30) (m2 : m "tops" = some (.ref TO)) (mi : m "i" = some (.int (i : Int) it)) (mj : m "j" = some (.int (j : Int) jt)) (hT : SAt g TO to) (htl : to.length ≤ 8) (hti : to[i]? = some ti) (hij : j ≤ i)
    (h : ∀ h' tk, Sx g₀ g L (fun y => if y = "alike" then some (.bool (decide ((to.drop j).take (i + 1 - j) = List.replicate (i + 1 - j) ti))) else m y) mu h' → Q .next ⟨h', gs₀, dr, tk, os⟩) :
    wpAny (model prog w) A (exec (pairS 0) (lawEnv L)) Q E ⟨hp, gs₀, dr, tk₀, os⟩ := by
  have hil : i < to.length := by
    rcases Nat.lt_or_ge i to.length with q | q
    · exact q
    · rw [List.getElem?_eq_none q] at hti; cases hti
  show wpAny _ _ (exec (Stmt.Assign [Expr.Name _ _] _ _) _) _ _ _
  walk_at "mm"
  rw [show ((i : Int) + 1) = ((i + 1 : Nat) : Int) from rfl]
  refine mid_ss (i := i + 1) (j := j) S (hT.keeps S.keep) (by rw [sizeLine_eq]; omega) (by omega) (by omega) ?_
  intro r1 h1 S1
  walk_at "mm"
  refine it_ss (k := i) (hT.keeps S1.keep) (by omega) hti ?_
  intro t2
  walk_at "mm"
  rename Sx _ _ _ _ _ _ => S2
  refine PyProof.Rows.sub_int ?_
  rw [show ((i : Int) + 1 - (j : Int)) = ((i + 1 - j : Nat) : Int) from by omega]
  refine mul_one (n := i + 1 - j) S2 (by walk_at "mem") (by omega) ?_
  intro r3 h3 S3
  refine eq_ss O (S3.sAt (by walk_at "mem")) (S3.sAt (by walk_at "mem")) ?_
  walk_at "mm"
  rename Sx _ _ _ _ _ _ => S4
  exact h _ _ (S4.sub (.cons _ (.cons _ (.cons _ (List.Sublist.refl _)))))
theorem test1_ok {p q : Addr × (Obj → Prop)} (KK : KF K) {GO ST : Addr} {go ss : List Str} {i j : Nat} {it jt : Tok} {al : Bool} {Q : Flow → Shared → Prop} (S : Sx g₀ g L m [p, q, (L + 3, IsC (some (.ref ST)))] hp) (C : Cx K g₀) (O : Ok A 30) (m1 : m "gone" = some (.ref GO)) (mi : m "i" = some (.int (i : Int) it)) (mj : m "j" = some (.int (j : Int) jt)) (ma : m "alike" = some (.bool al)) (hG : SAt g GO go) (hS : SAt g ST ss) (hgl : go.length ≤ 8) (hsl : ss.length ≤ 64) (hij : j ≤ i) (hil : i < go.length)
    (k1 : CpOk ((go.drop j).take (i + 1 - j))) (e1 : al = !decide (commonF ((go.drop j).take (i + 1 - j)) ∈ ss ++ [("/" : Str)]))
    (h : ∀ h' tk, Sx g₀ g L m [p, q, (L + 3, IsC (some (.ref ST)))] h' → Q .next ⟨h', gs₀, dr, tk, os⟩) :
    wpAny (model prog w) A (exec (pairS 1) (lawEnv L)) Q E ⟨hp, gs₀, dr, tk₀, os⟩ := by
  show wpAny _ _ (exec (Stmt.If _ _ _ _) _) _ _ _
  walk_at "mm"
  rw [show ((i : Int) + 1) = ((i + 1 : Nat) : Int) from rfl]
  refine mid_ss (i := i + 1) (j := j) S (hG.keeps S.keep) (by rw [sizeLine_eq]; omega) (by omega) (by omega) ?_
  intro r1 h1 S1
  walk_at "mm"
  refine common_c KK S1 C (by walk_at "ok") (S1.sAt (by walk_at "mem")) k1.ne k1.few k1.all k1.ord ?_
  intro h2 tk2 t2 S2
  walk_at "mm"
  rename Sx _ _ _ _ _ _ => S3
  have S4 := S3.weaken (P' := IsS (["/"] : List Str)) .head isS_one
  refine add_ss S4 (hS.keeps S4.keep) (S4.sAt (by walk_at "mem")) (by rw [sizeLine_eq]; simp only [List.length_singleton]; omega) ?_
  intro r5 h5 S5
  refine notin_ss (S5.sAt (by walk_at "mem")) ?_
  refine ne_bb ?_
  rw [← e1]
  walk_at "mm"
  refine ite_neg (by simp) ?_
  walk_at "mm"
  exact h _ _ (S5.sub (by walk_at "sub"))
end
end
section
/-! ## law: the pairs, whole -/
section
variable {K : Frag} {prog : Program} {w : World} {A : Around} {hp : Heap} {gs₀ : Array GenState} {dr : Drawn} {tk₀ : Nat} {os : OsState} {E : Value → Shared → Prop} {g₀ g : Heap} {L : Addr} {m : Str → Option Value} {mu mu' : Mut}
theorem beq_dec (x y : Str) : (x == y) = decide (x = y) := by rw [Bool.eq_iff_iff]; simp
theorem test2_ok {p q : Addr × (Obj → Prop)} (KK : KF K) {GO TO ST : Addr} {go to ss : List Str} {i j : Nat} {it jt : Tok} {gi gj ti tj : Str} {Q : Flow → Shared → Prop} (S : Sx g₀ g L m [p, q, (L + 3, IsC (some (.ref ST)))] hp) (C : Cx K g₀) (O : Ok A 30) (m1 : m "gone" = some (.ref GO)) (m2 : m "tops" = some (.ref TO)) (mi : m "i" = some (.int (i : Int) it)) (mj : m "j" = some (.int (j : Int) jt)) (hG : SAt g GO go) (hT : SAt g TO to) (hS : SAt g ST ss) (hi : i < 4096) (hj : j < 4096) (hsl : ss.length ≤ 64)
    (g1 : go[i]? = some gi) (g2 : go[j]? = some gj) (t1 : to[i]? = some ti) (t2 : to[j]? = some tj)
    (k2 : CpOk [gi, gj]) (e2 : decide (ti = tj) = !decide (commonF [gi, gj] ∈ ss ++ [("/" : Str)]))
    (h : ∀ h' tk, Sx g₀ g L m [p, q, (L + 3, IsC (some (.ref ST)))] h' → Q .next ⟨h', gs₀, dr, tk, os⟩) :
    wpAny (model prog w) A (exec (pairS 2) (lawEnv L)) Q E ⟨hp, gs₀, dr, tk₀, os⟩ := by
  show wpAny _ _ (exec (Stmt.If _ _ _ _) _) _ _ _
  walk_at "mm"
  refine it_ss (k := i) (hT.keeps S.keep) hi t1 ?_
  intro u1
  walk_at "mm"
  refine it_ss (k := j) (hT.keeps S.keep) hj t2 ?_
  intro u2
  walk_at "mm"
  refine it_ss (k := i) (hG.keeps S.keep) hi g1 ?_
  intro u3
  walk_at "mm"
  refine it_ss (k := j) (hG.keeps S.keep) hj g2 ?_
  intro u4
  walk_at "mm"
  rename Sx _ _ _ _ _ _ => S1
  have S2 := S1.weaken (P' := IsS [gi, gj]) .head fun o p => ⟨[(gi, u3), (gj, u4)], rfl, p⟩
  refine common_c KK S2 C (by walk_at "ok") (S2.sAt (by walk_at "mem")) k2.ne k2.few k2.all k2.ord ?_
  intro h2 tk2 t2 S2
  walk_at "mm"
  rename Sx _ _ _ _ _ _ => S3
  have S4 := S3.weaken (P' := IsS (["/"] : List Str)) .head isS_one
  refine add_ss S4 (hS.keeps S4.keep) (S4.sAt (by walk_at "mem")) (by rw [sizeLine_eq]; simp only [List.length_singleton]; omega) ?_
  intro r5 h5 S5
  refine notin_ss (S5.sAt (by walk_at "mem")) ?_
  refine ne_bb ?_
  rw [beq_dec, e2]
  walk_at "mm"
  refine ite_neg (by simp) ?_
  walk_at "mm"
  exact h _ _ (S5.sub (by walk_at "sub"))
theorem test3_ok {p q : Addr × (Obj → Prop)} (KK : KF K) {GO TO ST : Addr} {go to ss : List Str} {i j : Nat} {it jt : Tok} {gj ti tj : Str} {Q : Flow → Shared → Prop} (S : Sx g₀ g L m [p, q, (L + 3, IsC (some (.ref ST)))] hp) (C : Cx K g₀) (O : Ok A 30) (m1 : m "gone" = some (.ref GO)) (m2 : m "tops" = some (.ref TO)) (mi : m "i" = some (.int (i : Int) it)) (mj : m "j" = some (.int (j : Int) jt)) (hG : SAt g GO go) (hT : SAt g TO to) (hi : i < 4096) (hj : j < 4096)
    (g2 : go[j]? = some gj) (t1 : to[i]? = some ti) (t2 : to[j]? = some tj)
    (k3 : CpOk [gj, ti]) (e3 : decide (ti = tj) = decide (commonF [gj, ti] = ti))
    (h : ∀ h' tk, Sx g₀ g L m [p, q, (L + 3, IsC (some (.ref ST)))] h' → Q .next ⟨h', gs₀, dr, tk, os⟩) :
    wpAny (model prog w) A (exec (pairS 3) (lawEnv L)) Q E ⟨hp, gs₀, dr, tk₀, os⟩ := by
  show wpAny _ _ (exec (Stmt.If _ _ _ _) _) _ _ _
  walk_at "mm"
  refine it_ss (k := i) (hT.keeps S.keep) hi t1 ?_
  intro u1
  walk_at "mm"
  refine it_ss (k := j) (hT.keeps S.keep) hj t2 ?_
  intro u2
  walk_at "mm"
  refine it_ss (k := j) (hG.keeps S.keep) hj g2 ?_
  intro u3
  walk_at "mm"
  refine it_ss (k := i) (hT.keeps S.keep) hi t1 ?_
  intro u4
  walk_at "mm"
  rename Sx _ _ _ _ _ _ => S1
  have S2 := S1.weaken (P' := IsS [gj, ti]) .head fun o p => ⟨[(gj, u3), (ti, u4)], rfl, p⟩
  refine common_c KK S2 C (by walk_at "ok") (S2.sAt (by walk_at "mem")) k3.ne k3.few k3.all k3.ord ?_
  intro h2 tk2 t2 S2
  walk_at "mm"
  refine it_ss (k := i) (hT.keeps S2.keep) hi t1 ?_
  intro u5
  walk_at "mm"
  refine ne_bb ?_
  rw [beq_dec, beq_dec, e3]
  walk_at "mm"
  refine ite_neg (by simp) ?_
  walk_at "mm"
  exact h _ _ (S2.sub (by walk_at "sub"))
end
end
section
/-! ## law: all pairs -/
section
variable {K : Frag} {prog : Program} {w : World} {A : Around} {hp : Heap} {gs₀ : Array GenState} {dr : Drawn} {tk₀ : Nat} {os : OsState} {E : Value → Shared → Prop} {g₀ g : Heap} {L : Addr} {m : Str → Option Value} {mu mu' : Mut}
theorem get_some {α : Type} {l : List α} {i : Nat} (h : i < l.length) : ∃ x, l[i]? = some x := ⟨l[i], List.getElem?_eq_getElem h⟩
theorem inner_ok (KK : KF K) {p : Addr × (Obj → Prop)} {GO TO ST : Addr} {go to ss : List Str} {i : Nat} {it : Tok} {Q : Flow → Shared → Prop} (S : Sx g₀ g L m [p, (L + 3, IsC (some (.ref ST)))] hp) (C : Cx K g₀) (O : Ok A 30) (m1 : m "gone" = some (.ref GO)) (m2 : m "tops" = some (.ref TO)) (mi : m "i" = some (.int (i : Int) it))
    (hG : SAt g GO go) (hT : SAt g TO to) (hS : SAt g ST ss) (hgl : go.length ≤ 8) (htl : to.length = go.length) (hsl : ss.length ≤ 64) (hi : i < go.length) (hl : LawOk go to ss)
    (h : ∀ m' h' tk, m' "gone" = some (.ref GO) → m' "tops" = some (.ref TO) → Sx g₀ g L m' [p, (L + 3, IsC (some (.ref ST)))] h' → Q .next ⟨h', gs₀, dr, tk, os⟩) :
    wpAny (model prog w) A (exec innerS (lawEnv L)) Q E ⟨hp, gs₀, dr, tk₀, os⟩ := by
  show wpAny _ _ (exec (Stmt.For _ _ _ _ _) _) _ _ _
  walk_at "mm"
  rw [show ((i : Int) + 1) = ((i + 1 : Nat) : Int) from rfl]
  refine mk_rng1 S ?_
  intro ra h2 tk2 S2
  walk_at "mm"
  refine iter_of_rng S2 (small_up (by omega) (by omega) (by omega) (by omega)) ?_
  intro it2 h3 S3
  rw [size_up0, rit0] at S3
  refine for_run (iter_rng (x := 0) (c := 1) (n := i + 1) O.handled)
    (fun j g' m' mu' gs => gs = gs₀ ∧ g' = g ∧ m' "gone" = some (.ref GO) ∧ m' "tops" = some (.ref TO) ∧ m' "i" = some (.int (i : Int) it) ∧ mu' = [p, (L + 3, IsC (some (.ref ST)))])
    S3 ⟨rfl, rfl, m1, m2, mi, rfl⟩ (fun _ _ _ _ _ _ => trivial) ?_ ?_
  · intro j v g' m' mu' gs h4 tk4 E' hj hv hJ hk S4
    obtain ⟨rfl, rfl, n1, n2, n3, rfl⟩ := hJ
    obtain ⟨tv, rfl⟩ := hv
    have hkv : (0 : Int) + (j : Int) * 1 = ((j : Nat) : Int) := by omega
    rw [hkv] at S4
    obtain ⟨gi, hgi⟩ := get_some hi
    obtain ⟨gj, hgj⟩ := get_some (l := go) (i := j) (by omega)
    obtain ⟨ti, hti⟩ := get_some (l := to) (i := i) (by omega)
    obtain ⟨tj, htj⟩ := get_some (l := to) (i := j) (by omega)
    have P := hl i j gi gj ti tj hgi hgj hti htj (by omega)
    refine wpAny_execs_cons ?_
    refine alike_ok (i := i) (j := j) (jt := tv) (ti := ti) (TO := TO) (ST := ST) KK S4 C O (by walk_at "lk") (by walk_at "lk") (by walk_at "lk") hT (by omega) hti (by omega) ?_
    intro h5 tk5 S5
    refine wpAny_execs_cons ?_
    refine test1_ok (i := i) (j := j) (GO := GO) (ST := ST) KK S5 C O (by walk_at "lk") (by walk_at "lk") (by walk_at "lk") (by walk_at "lk") hG hS hgl hsl (by omega) hi P.k1 P.e1 ?_
    intro h6 tk6 S6
    refine wpAny_execs_cons ?_
    refine test2_ok (i := i) (j := j) (GO := GO) (TO := TO) (ST := ST) KK S6 C O (by walk_at "lk") (by walk_at "lk") (by walk_at "lk") (by walk_at "lk") hG hT hS (by omega) (by omega) hsl hgi hgj hti htj P.k2 P.e2 ?_
    intro h7 tk7 S7
    refine wpAny_execs_cons ?_
    refine test3_ok (ss := ss) (i := i) (j := j) (GO := GO) (TO := TO) (ST := ST) KK S7 C O (by walk_at "lk") (by walk_at "lk") (by walk_at "lk") (by walk_at "lk") hG hT (by omega) (by omega) hgj hti htj P.k3 P.e3 ?_
    intro h8 tk8 S8
    walk_at "mm"
    exact ⟨_, _, _, _, _, _, rfl, Keep.rfl', S8, rfl, rfl, by walk_at "lk", by walk_at "lk", by walk_at "lk", rfl⟩
  · intro g' m' mu' gs h4 tk4 hJ hk S4
    obtain ⟨rfl, rfl, n1, n2, n3, rfl⟩ := hJ
    exact h m' h4 tk4 n1 n2 S4
theorem outer_ok (KK : KF K) {GO TO ST : Addr} {go to ss : List Str} {Q : Flow → Shared → Prop} (S : Sx g₀ g L m [(L + 3, IsC (some (.ref ST)))] hp) (C : Cx K g₀) (O : Ok A 30) (m1 : m "gone" = some (.ref GO)) (m2 : m "tops" = some (.ref TO))
    (hG : SAt g GO go) (hT : SAt g TO to) (hS : SAt g ST ss) (hgl : go.length ≤ 8) (htl : to.length = go.length) (hsl : ss.length ≤ 64) (hl : LawOk go to ss)
    (h : ∀ m' h' tk, Sx g₀ g L m' [(L + 3, IsC (some (.ref ST)))] h' → Q .next ⟨h', gs₀, dr, tk, os⟩) :
    wpAny (model prog w) A (exec (lawS 6) (lawEnv L)) Q E ⟨hp, gs₀, dr, tk₀, os⟩ := by
  show wpAny _ _ (exec (Stmt.For _ _ _ _ _) _) _ _ _
  walk_at "mm"
  refine len_ss (hG.keeps S.keep) (by omega) ?_
  intro t1 tk1
  walk_at "mm"
  refine mk_rng1 S ?_
  intro ra h2 tk2 S2
  walk_at "mm"
  refine iter_of_rng S2 (small_up (by omega) (by omega) (by omega) (by omega)) ?_
  intro it2 h3 S3
  rw [size_up0, rit0] at S3
  refine for_run (iter_rng (x := 0) (c := 1) (n := go.length) O.handled)
    (fun j g' m' mu' gs => gs = gs₀ ∧ g' = g ∧ m' "gone" = some (.ref GO) ∧ m' "tops" = some (.ref TO) ∧ mu' = [(L + 3, IsC (some (.ref ST)))])
    S3 ⟨rfl, rfl, m1, m2, rfl⟩ (fun _ _ _ _ _ _ => trivial) ?_ ?_
  · intro j v g' m' mu' gs h4 tk4 E' hj hv hJ hk S4
    obtain ⟨rfl, rfl, n1, n2, rfl⟩ := hJ
    obtain ⟨tv, rfl⟩ := hv
    have hkv : (0 : Int) + (j : Int) * 1 = ((j : Nat) : Int) := by omega
    rw [hkv] at S4
    refine wpAny_execs_cons ?_
    refine inner_ok (i := j) (it := tv) (GO := GO) (TO := TO) (ST := ST) KK S4 C O (by walk_at "lk") (by walk_at "lk") (by walk_at "lk") hG hT hS hgl htl hsl hj hl ?_
    intro m5 h5 tk5 k1 k2 S5
    walk_at "mm"
    exact ⟨_, _, _, _, _, _, rfl, Keep.rfl', S5, rfl, rfl, k1, k2, rfl⟩
  · intro g' m' mu' gs h4 tk4 hJ hk S4
    obtain ⟨rfl, rfl, n1, n2, rfl⟩ := hJ
    exact h m' h4 tk4 S4
end
end
section
/-! ## law, whole -/
def ssX (xs : List Int) : List Str := stayT ((heldX xs).map nameX)
def goX (xs : List Int) : List Str := goneT (xs.map nameX) (ssX xs ++ [("/" : Str)])
def toX (xs : List Int) : List Str := (goX xs).map (topT (ssX xs))
structure PlainOk (xs : List Int) : Prop where
  anc : ∀ x ∈ xs, AncOk (nameX x)
  wt : ∀ x ∈ xs, wt (rowX x) ≤ 40
  ne : ∀ y ∈ goX xs, ((af y).filter fun z => decide (z ∉ ssX xs)) ≠ []
  told : toldF (xs.map rowX) ((heldX xs).map rowX) = [ssX xs, goX xs, toX xs]
  climbed : (goX xs).map (climbN (ssX xs) 3) = toX xs
  law : LawOk (goX xs) (toX xs) (ssX xs)
theorem put_fold_mem : ∀ (xs acc : List Str) (y : Str), y ∈ xs.foldl put acc ↔ y ∈ acc ∨ y ∈ xs
  | [], acc, y => by simp
  | x :: xs, acc, y => by
    rw [List.foldl_cons, put_fold_mem xs (put acc x) y]
    have : y ∈ put acc x ↔ y ∈ acc ∨ y = x := by
      unfold put
      split
      · rename_i h
        constructor
        · exact .inl
        · rintro (h2 | rfl)
          · exact h2
          · exact h
      · simp
    rw [this, List.mem_cons, or_assoc]
section
variable {K : Frag} {prog : Program} {w : World} {A : Around} {hp : Heap} {gs₀ : Array GenState} {dr : Drawn} {tk₀ : Nat} {os : OsState}
theorem zero_ok {E : Value → Shared → Prop} {g₀ g : Heap} {L : Addr} {m : Str → Option Value} {Q : Flow → Shared → Prop} (KK : KF K) (S : Sx g₀ g L m [(L + 3, IsC none), (L + 2, IsC none), (L + 1, IsC none)] hp) (O : Ok A 16)
    (h : ∀ h' tk HA RA KA NA PA, Sx g₀ g L (fun y => if y = "held" then some (.ref HA) else if y = "rows" then some (.ref RA) else if y = "kept" then some (.ref KA) else if y = "names" then some (.ref NA) else m y) (loopMu L HA RA KA NA PA [] [] [] none) h' → Q .next ⟨h', gs₀, dr, tk, os⟩) :
    wpAny (model prog w) A (exec (lawS 0) (lawEnv L)) Q E ⟨hp, gs₀, dr, tk₀, os⟩ := by
  show wpAny _ _ (exec (Stmt.Assign [Expr.Tuple _ _ _] _ _) _) _ _ _
  refine PyProof.Rows.Assign_Tuple ?_
  walk_at "mm"
  rename Sx _ _ _ _ _ _ => S₂
  refine asg_tup S₂ (.inr (by walk_at "mem")) O.handled rfl rfl ?_
  intro h₃ S₃
  walk_at "mm"
  rename_i PA _ _ NA _ _ KA _ _ RA _ _ HA _ _ T _
  refine st_cell (c := L + 1) (v₀ := none) S₃ rfl (.tail (.tail (.tail (.tail (.tail (.tail (.tail (.tail .head)))))))) ?_
  intro h₄ S₄
  walk_at "mm"
  rename Sx _ _ _ _ _ _ => S₅
  have S₆ := (((S₅.drop.weaken (P' := IsL (([] : List Addr).map .ref)) .head fun o p => p).weaken (P' := IsL (([] : List Addr).map .ref)) (.tail .head) fun o p => p).weaken (P' := IsS []) (.tail (.tail .head)) fun o p => ⟨[], rfl, p⟩).weaken (P' := IsS []) (.tail (.tail (.tail .head))) fun o p => ⟨[], rfl, p⟩
  have S₇ := S₆.weaken (P' := IsS menu) (.tail (.tail (.tail (.tail .head)))) fun o p => ⟨[(_, _), (_, _), (_, _), (_, _), (_, _), (_, _)], rfl, p⟩
  exact h _ _ _ _ _ _ _ S₇
theorem law_ok (KK : KF K) (F : FF K) {R : Result → Shared → Prop} {sa : Addr} {sl : List (Int × Tok)} (C : Cx K hp) (O : Ok A 62) (hf : A.frames = some []) (hsa : hp.IsList sa (intVals sl).toArray) (hsl : sl.length ≤ 4096) (P : PlainOk (script5 (sl.map (·.1))))
    (h : ∀ h' gs' tk, Keep hp h' → (AllBare gs₀ → AllBare gs') → R (.ok (.ret (.bool true))) ⟨h', gs', dr, tk, os⟩) :
    codeAny (model prog w) A (.call (.ref 238) ⟨[.ref sa], []⟩) R ⟨hp, gs₀, dr, tk₀, os⟩ := by
  refine call_defC KK.law (binds := [("script", .ref sa)]) C O.room (fun _ _ => rfl) (by intro y hy; simp only [List.mem_cons, List.not_mem_nil, or_false] at hy; subst hy; rfl) ?_ ?_
  · intro p hq
    change p ∈ [(("stay" : Str), hp.objs.size + 1 + 1 + 1), (("x" : Str), hp.objs.size + 1 + 1), (("pieces" : Str), hp.objs.size + 1)] at hq
    simp only [List.mem_cons, List.not_mem_nil, or_false] at hq
    rcases hq with rfl | rfl | rfl <;> rfl
  intro h₁ tk₁ S₀
  generalize hL : hp.objs.size = L at S₀ ⊢
  have S₁ : Sx hp hp L (bindL (fun y => (scopeOf (stmtAt 35)).names.lookup y) [("script", .ref sa)] fun _ => none) [(L + 3, IsC none), (L + 2, IsC none), (L + 1, IsC none)] h₁ := S₀
  clear S₀
  change wpAny _ (A.deeper (lawEnv L)) (execs _ (lawEnv L)) _ (fun e s' => wpAny _ (A.deeper (lawEnv L)) (leaving (lawEnv L) e) _ _ s') _
  have hfr : (A.deeper (lawEnv L)).frames = some [lawEnv L] := by
    show A.frames.map _ = _
    rw [hf]; rfl
  refine wpAny_execs_cons ?_
  show wpAny _ _ (exec (lawS 0) (lawEnv L)) _ _ _
  with_reducible refine zero_ok KK S₁ ?_ ?_
  · walk_at "ok"
  intro h₂ tk₂ HA RA KA NA PA S₂
  refine wpAny_execs_cons ?_
  refine loop_ok (sl := sl) (HA := HA) (RA := RA) (KA := KA) (NA := NA) (PA := PA) KK C (by walk_at "ok") hsa hsl S₂ (by walk_at "lk") (by walk_at "lk") (by walk_at "lk") (by walk_at "lk") (by walk_at "lk") ?_
  have hx8 : (script5 (sl.map (·.1))).length ≤ 8 := by
    simp only [script5, List.length_append, List.length_cons, List.length_nil, List.length_take]; omega
  generalize script5 (sl.map (·.1)) = xs at P hx8 ⊢
  intro g1 m1 h5 tk5 has ras xv k1 hR hH n1 n2 n3 n4 S8
  obtain ⟨g2, k2, S9, o2, e2, p2⟩ := S8.settle
  obtain ⟨g3, k3, S10, o3, e3, p3⟩ := S9.settle
  obtain ⟨g4, k4, S11, o4, e4, p4⟩ := S10.settle
  obtain ⟨g5, k5, S12, o5, e5, p5⟩ := S11.settle
  have S13 : Sx hp g5 L m1 [(L + 3, IsC none)] h5 := S12.sub (by walk_at "sub")
  have hHA : LAt g5 HA (has.map .ref) := LAt.keeps ⟨o2, e2, p2⟩ (k3.trans (k4.trans k5))
  have hRA : LAt g5 RA (ras.map .ref) := LAt.keeps ⟨o3, e3, p3⟩ (k4.trans k5)
  have hKA : SAt g5 KA ((heldX xs).map nameX) := SAt.keeps ⟨o4, e4, p4⟩ k5
  have hNA : SAt g5 NA (xs.map nameX) := ⟨o5, e5, p5⟩
  have hRR := hR.keeps (k2.trans (k3.trans (k4.trans k5)))
  have hHR := hH.keeps (k2.trans (k3.trans (k4.trans k5)))
  clear e2 e3 e4 e5 p2 p3 p4 p5 S8 S9 S10 S11 S12 hR hH
  have hhl : (heldX xs).length ≤ xs.length := List.length_filter_le _ _
  have hks : ∀ x ∈ (heldX xs).map nameX, AncOk x := by
    intro x hx
    obtain ⟨y, hy, rfl⟩ := List.mem_map.mp hx
    exact P.anc y (List.mem_filter.mp hy).1
  have hsl2 : (ssX xs).length ≤ 64 := by
    have a1 := put_fold_len (((heldX xs).map nameX).flatMap af) []
    have a2 := flat_len hks
    rw [List.length_map] at a2
    simp only [List.length_nil] at a1
    show (stayT _).length ≤ 64
    unfold stayT
    omega
  have hgl : (goX xs).length ≤ 8 := by
    have a1 := put_fold_len ((xs.map nameX).filter fun y => decide (y ∉ ssX xs ++ [("/" : Str)])) []
    have a2 := List.length_filter_le (fun y => decide (y ∉ ssX xs ++ [("/" : Str)])) (xs.map nameX)
    rw [List.length_map] at a2
    simp only [List.length_nil] at a1
    show (goneT _ _).length ≤ 8
    unfold goneT
    omega
  have hgm : ∀ x ∈ goX xs, AncOk x := by
    intro x hx
    have hx' : x ∈ (((xs.map nameX).filter fun y => decide (y ∉ ssX xs ++ [("/" : Str)])).foldl put []) := hx
    rw [put_fold_mem] at hx'
    rcases hx' with hx' | hx'
    · cases hx'
    · obtain ⟨y, hy, rfl⟩ := List.mem_map.mp ((List.mem_filter.mp hx').1)
      exact P.anc y hy
  refine wpAny_execs_cons ?_
  refine stay_ok (K := K) (KA := KA) (ks := (heldX xs).map nameX) KK S13 C (by walk_at "ok") n2 hKA (by rw [List.length_map]; omega) hks ?_
  intro ST g6 h6 tk6 gs6 k6 b6 hST S14
  change SAt g6 ST (ssX xs) at hST
  refine wpAny_execs_cons ?_
  refine gone_ok (K := K) (NA := NA) (ST := ST) (ns := xs.map nameX) (ss := ssX xs) KK F S14 C (by walk_at "ok") hfr n1 (hNA.keeps k6) hST (by rw [List.length_map]; omega) hsl2 ?_
  intro GO g7 h7 tk7 k7 hGO S15
  change SAt g7 GO (goX xs) at hGO
  refine wpAny_execs_cons ?_
  refine tops_ok (K := K) (GO := GO) (ST := ST) (go := goX xs) (ss := ssX xs) KK F S15 C (by walk_at "ok") hfr (by walk_at "lk") hGO (hST.keeps k7) hgl hsl2 hgm P.ne ?_
  intro TO g8 h8 tk8 gs8 b8 k8 hTO S16
  change SAt g8 TO (toX xs) at hTO
  have k58 : Keep g5 g8 := k6.trans (k7.trans k8)
  refine wpAny_execs_cons ?_
  refine if1_ok (GO := GO) (ST := ST) (TO := TO) (RA := RA) (HA := HA) (ras := ras) (has := has) KK S16 C (by walk_at "ok") (by walk_at "lk") (by walk_at "lk") (by walk_at "lk") (by walk_at "lk") (hGO.keeps k8) (hST.keeps (k7.trans k8)) hTO (hRA.keeps k58) (hRR.keeps k58) (hHA.keeps k58) (hHR.keeps k58)
    (by rw [List.length_map]; omega) (by rw [List.length_map]; omega) ?_ ?_ hgl hsl2 (fun x hx => (hgm x hx).len) P.told P.climbed ?_
  · intro r hr
    obtain ⟨x, hx, rfl⟩ := List.mem_map.mp hr
    exact P.wt x hx
  · intro r hr
    obtain ⟨x, hx, rfl⟩ := List.mem_map.mp hr
    exact P.wt x (List.mem_filter.mp hx).1
  intro h9 tk9 S17
  refine wpAny_execs_cons ?_
  refine outer_ok (GO := GO) (TO := TO) (ST := ST) (go := goX xs) (to := toX xs) (ss := ssX xs) KK S17 C (by walk_at "ok") (by walk_at "lk") (by walk_at "lk") (hGO.keeps k8) hTO (hST.keeps (k7.trans k8)) hgl (by simp [toX]) hsl2 P.law ?_
  intro m10 h10 tk10 S18
  walk_at "mm"
  exact h _ _ _ (k1.trans (k2.trans (k3.trans (k4.trans (k5.trans (k58.trans S18.keep)))))) fun q => b8 (b6 q)
end
end
section
/-! ## the row -/
theorem ints_open {vs : List Value} {ns : List Int} (h : IntsAre vs ns) : ∃ sl : List (Int × Tok), vs = intVals sl ∧ ns = sl.map (·.1) := by
  induction h with
  | nil => exact ⟨[], rfl, rfl⟩
  | cons n t _ ih =>
    obtain ⟨sl, h1, h2⟩ := ih
    exact ⟨(n, t) :: sl, by rw [h1]; rfl, by rw [h2]; rfl⟩
theorem mem_keep {h₀ h : Heap} (k : Keep h₀ h) : PySem.W.X.Mem h₀ h [] [] where
  keep := fun b o e _ => k b o e
  ch := fun _ hp => nomatch hp
  cd := List.nodup_nil
  nw := fun _ hp => nomatch hp
  ord := List.Pairwise.nil
theorem room0 : Ok callerA 62 := ⟨rfl, by decide, by decide⟩
theorem law_run {K : Frag} {prog : Program} {w : World} {E : Value → Shared → Prop} {Q : Value → Shared → Prop} {s : Shared} {a : Addr} {vs : List Value} {ns : List Int} (C : Cx K s.heap) (KK : KF K) (F : FF K) (hl : s.heap.IsList a vs.toArray) (hi : IntsAre vs ns) (hn : ns.length ≤ 4096) (P : PlainOk (script5 ns))
    (h : ∀ h' gs' tk, Keep s.heap h' → (AllBare s.gens → AllBare gs') → Q (.bool true) ⟨h', gs', s.drawn, tk, s.os⟩) :
    wpAny (model prog w) callerA (call (.ref 238) [.ref a]) Q E s := by
  obtain ⟨sl, rfl, rfl⟩ := ints_open hi
  rw [List.length_map] at hn
  exact wpAny_call (law_ok (hp := s.heap) (gs₀ := s.gens) (dr := s.drawn) (tk₀ := s.toks) (os := s.os) KK F C room0 rfl hl hn P h)
end
section
/-! ## Rows of letters -/
def Rw (r : List Str) : Prop := (∀ c ∈ r, c ∈ letters) ∧ r.length ≤ 4
theorem rowsOf_mem : ∀ {n : Nat} {r : List Str}, (∀ c ∈ r, c ∈ letters) → r.length ≤ n → r ∈ rowsOf n
  | 0, [], _, _ => by simp [rowsOf]
  | 0, _ :: _, _, h => by simp at h
  | n + 1, [], _, _ => by simp [rowsOf]
  | n + 1, c :: r, h, hl => by
    have h1 := rowsOf_mem (n := n) (r := r) (fun c hc => h c (.tail _ hc)) (by simp at hl; omega)
    unfold rowsOf
    refine List.mem_append_right _ ?_
    rw [List.mem_flatMap]
    exact ⟨r, h1, List.mem_map.mpr ⟨c, h c (.head _), rfl⟩⟩
theorem Rw.mem {r : List Str} (h : Rw r) : r ∈ allRows := rowsOf_mem h.1 h.2
theorem Rw.take {r : List Str} (h : Rw r) (n : Nat) : Rw (r.take n) := ⟨fun c hc => h.1 c (List.mem_of_mem_take hc), Nat.le_trans (List.length_take_le' _ _) h.2⟩
theorem Rw.dropLast {r : List Str} (h : Rw r) : Rw r.dropLast := by rw [List.dropLast_eq_take]; exact h.take _
theorem letters_menu : ∀ c ∈ menu, c = ".." ∨ c = "" ∨ c = "." ∨ c ∈ letters := by decide
theorem letters_not : ∀ c ∈ letters, c ≠ ".." ∧ c ≠ "" ∧ c ≠ "." ∧ Free c ∧ c.length ≤ 2 := by unfold Free; decide
theorem rstep_row {r : List Str} {c : Str} (hr : ∀ c ∈ r, c ∈ letters) (hc : c ∈ (".": Str) :: menu) : (∀ d ∈ rstep r c, d ∈ letters) ∧ (rstep r c).length ≤ r.length + 1 ∧ nstep r c = rstep r c := by
  have hl : r.getLast? ≠ some ".." := fun q => (letters_not _ (hr _ (List.mem_of_getLast? q))).1 rfl
  have hc' : c = ".." ∨ c = "" ∨ c = "." ∨ c ∈ letters := by
    rcases List.mem_cons.mp hc with rfl | hc
    · exact .inr (.inr (.inl rfl))
    · exact letters_menu c hc
  unfold rstep nstep
  rcases hc' with rfl | rfl | rfl | hc'
  · rw [if_pos rfl, if_neg (by decide), if_neg (by rintro (q | q); exact q rfl; exact hl q)]
    exact ⟨fun d hd => hr d (List.dropLast_subset _ hd), by simp; omega, rfl⟩
  · rw [if_neg (by decide), if_neg (by decide), if_pos (.inl rfl)]
    exact ⟨hr, by omega, rfl⟩
  · rw [if_neg (by decide), if_neg (by decide), if_pos (.inr rfl)]
    exact ⟨hr, by omega, rfl⟩
  · obtain ⟨h1, h2, h3, _⟩ := letters_not c hc'
    rw [if_neg h1, if_pos ⟨h2, h3⟩, if_neg (by rintro (q | q); exact h2 q; exact h3 q), if_pos (.inl h1)]
    refine ⟨fun d hd => ?_, by simp, rfl⟩
    rcases List.mem_append.mp hd with hd | hd
    · exact hr d hd
    · rw [List.mem_singleton.mp hd]; exact hc'
theorem fold_row : ∀ (cs : List Str) {r : List Str}, (∀ c ∈ r, c ∈ letters) → (∀ c ∈ cs, c ∈ (".": Str) :: menu) → (∀ c ∈ cs.foldl rstep r, c ∈ letters) ∧ (cs.foldl rstep r).length ≤ r.length + cs.length ∧ cs.foldl nstep r = cs.foldl rstep r
  | [], r, hr, _ => ⟨hr, Nat.le_refl _, rfl⟩
  | c :: cs, r, hr, hc => by
    obtain ⟨h1, h2, h3⟩ := rstep_row hr (hc c (.head _))
    obtain ⟨h4, h5, h6⟩ := fold_row cs h1 fun c q => hc c (.tail _ q)
    rw [List.foldl_cons, List.foldl_cons, h3, List.length_cons]
    exact ⟨h4, by omega, h6⟩
theorem row_eq (x : Int) : rowX x = (pcs x).foldl rstep [] := by
  unfold rowX rowF
  rw [txt_split, List.foldl_cons]; rfl
theorem row_rw (x : Int) : Rw (rowX x) := by
  rw [row_eq]
  obtain ⟨h1, h2, _⟩ := fold_row (pcs x) (r := []) (fun _ h => nomatch h) fun c hc => .tail _ (pcs_mem x c hc)
  exact ⟨h1, Nat.le_trans h2 (by simp [pcs])⟩
theorem name_eq (x : Int) : nameX x = pathOf (rowX x) := by
  unfold nameX normF
  rw [slice_from1, txt_split, row_eq, List.foldl_cons, show nstep [] (".": Str) = [] from by decide]
  rw [(fold_row (pcs x) (r := []) (fun _ h => nomatch h) fun c hc => .tail _ (pcs_mem x c hc)).2.2]
theorem rw_wt {r : List Str} (h : Rw r) : wt r ≤ 40 := by
  have := wt_le_of (n := 2) fun c hc => (letters_not c (h.1 c hc)).2.2.2.2
  have := h.2
  omega
theorem path_cps (r : List Str) : (pathOf r).cps.toList = 47 :: (Str.join "/" r).cps.toList := by
  unfold pathOf
  rw [cps_app, slash_cps]
  show [47] ++ (Txt.join "/" r).cps.toList = _
  rw [show Txt.join "/" r = Str.join "/" r from StrLaws.glued_eq_join _ _]
  rfl
theorem path_len {r : List Str} (h : Rw r) : (pathOf r).length ≤ 1000 := by
  have h1 := join_len (rw_wt h)
  unfold pathOf
  rw [Str.length_append, show Str.length "/" = 1 from rfl]
  omega
theorem path_starts (r : List Str) : Txt.startswith (pathOf r) "/" = true := by
  rw [starts_slash, path_cps]; rfl
theorem path_split {r : List Str} (h : Rw r) (h0 : r ≠ []) : Txt.split (pathOf r) "/" = ("" : Str) :: r := by
  have e : pathOf r = Txt.join "/" (("" : Str) :: r) := by
    apply str_ext
    rw [path_cps, show Txt.join "/" (("" : Str) :: r) = Str.join "/" (("" : Str) :: r) from StrLaws.glued_eq_join _ _]
    cases r with
    | nil => exact absurd rfl h0
    | cons c r => rw [join_cons2]; rfl
  rw [e]
  refine split_join (List.cons_ne_nil _ _) ?_
  intro p hp
  rcases List.mem_cons.mp hp with rfl | hp
  · unfold Free; decide
  · exact (letters_not p (h.1 p hp)).2.2.2.1
theorem parts_path {r : List Str} (h : Rw r) : partsF (pathOf r) = r := by
  unfold partsF
  cases r with
  | nil => decide +kernel
  | cons c r =>
    rw [path_split h (List.cons_ne_nil _ _), List.filter_cons_of_neg (by decide)]
    refine List.filter_eq_self.mpr fun d hd => ?_
    obtain ⟨_, h2, h3, _⟩ := letters_not d (h.1 d hd)
    unfold keepC
    rw [decide_eq_true h2, decide_eq_true h3]; rfl
theorem path_inj {r q : List Str} (h : Rw r) (h' : Rw q) (e : pathOf r = pathOf q) : r = q := by
  rw [← parts_path h, e, parts_path h']
theorem path_nil : pathOf [] = "/" := by decide
theorem rw_nil : Rw [] := ⟨fun _ h => (nomatch h), by decide⟩
theorem dir_all : (allRows.all fun r => r == [] || (dirF (pathOf r) == pathOf r.dropLast && (Txt.rstripChars (pathOf r) "/" == pathOf r && Txt.rstripChars (pathOf r) "/" != ""))) = true := by decide +kernel
theorem root_strip : Txt.rstripChars (pathOf []) "/" = "" := by decide +kernel
theorem dir_path {r : List Str} (h : Rw r) (h0 : r ≠ []) : dirF (pathOf r) = pathOf r.dropLast ∧ Txt.rstripChars (pathOf r) "/" = pathOf r ∧ pathOf r ≠ "" := by
  have := List.all_eq_true.mp dir_all r h.mem
  simp only [Bool.or_eq_true, beq_iff_eq, Bool.and_eq_true, bne_iff_ne] at this
  rcases this with q | ⟨q1, q2, q3⟩
  · exact absurd q h0
  · exact ⟨q1, q2, by rw [← q2]; exact q3⟩
end
section
/-! ## Fronts, and what stays -/
def AllRw (l : List (List Str)) : Prop := ∀ r ∈ l, Rw r
def putR (ks : List (List Str)) (k : List Str) : List (List Str) := if k ∈ ks then ks else ks ++ [k]
theorem putR_mem (ks : List (List Str)) (k y : List Str) : y ∈ putR ks k ↔ y ∈ ks ∨ y = k := by
  unfold putR
  split
  · rename_i h
    constructor
    · exact .inl
    · rintro (h2 | rfl)
      · exact h2
      · exact h
  · simp
theorem foldR_mem : ∀ (xs acc : List (List Str)) (y : List Str), y ∈ xs.foldl putR acc ↔ y ∈ acc ∨ y ∈ xs
  | [], acc, y => by simp
  | x :: xs, acc, y => by rw [List.foldl_cons, foldR_mem xs (putR acc x) y, putR_mem, List.mem_cons, or_assoc]
theorem path_mem {l : List (List Str)} {r : List Str} (hl : AllRw l) (hr : Rw r) : pathOf r ∈ l.map pathOf ↔ r ∈ l := by
  constructor
  · intro h
    obtain ⟨q, hq, e⟩ := List.mem_map.mp h
    rw [← path_inj (hl q hq) hr e]; exact hq
  · exact List.mem_map_of_mem
theorem put_map : ∀ (xs acc : List (List Str)), AllRw xs → AllRw acc → (xs.map pathOf).foldl put (acc.map pathOf) = (xs.foldl putR acc).map pathOf
  | [], acc, _, _ => rfl
  | x :: xs, acc, hx, ha => by
    rw [List.map_cons, List.foldl_cons, List.foldl_cons]
    have e : put (acc.map pathOf) (pathOf x) = (putR acc x).map pathOf := by
      unfold put putR
      by_cases h : x ∈ acc
      · rw [if_pos h, if_pos ((path_mem ha (hx x (.head _))).mpr h)]
      · rw [if_neg h, if_neg fun q => h ((path_mem ha (hx x (.head _))).mp q), List.map_append]; rfl
    rw [e]
    refine put_map xs _ (fun r hr => hx r (.tail _ hr)) fun r hr => ?_
    rcases (putR_mem _ _ _).mp hr with h | h
    · exact ha r h
    · rw [h]; exact hx x (.head _)
theorem put_nodup : ∀ (l st : List (List Str)), l.Pairwise (· ≠ ·) → l.foldl putR st = st ++ l.filter fun r => decide (r ∉ st)
  | [], st, _ => by simp
  | x :: l, st, h => by
    obtain ⟨h1, h2⟩ := List.pairwise_cons.mp h
    rw [List.foldl_cons, put_nodup l _ h2]
    unfold putR
    by_cases hx : x ∈ st
    · rw [if_pos hx, List.filter_cons_of_neg (by simp [hx])]
    · rw [if_neg hx, List.filter_cons_of_pos (by simp [hx]), List.append_assoc, List.singleton_append]
      congr 2
      refine List.filter_congr fun r hr => ?_
      rw [decide_eq_decide, List.mem_append, List.mem_singleton]
      exact ⟨fun q w => q (.inl w), fun q w => w.elim q fun e => h1 r hr e.symm⟩
theorem downs_nodup (r : List Str) : (downs r).Pairwise (· ≠ ·) := by
  unfold downs
  rw [List.pairwise_map]
  refine List.Pairwise.imp_of_mem ?_ (List.pairwise_lt_range (n := r.length))
  intro i j hi hj hlt e
  rw [List.mem_range] at hi hj
  have := congrArg List.length e
  rw [List.length_take, List.length_take] at this
  omega
theorem downs_mem {r q : List Str} : q ∈ downs r ↔ q ≠ [] ∧ q <+: r := by
  unfold downs
  rw [List.mem_map]
  constructor
  · rintro ⟨j, hj, rfl⟩
    rw [List.mem_range] at hj
    refine ⟨fun e => ?_, List.take_prefix _ _⟩
    have := congrArg List.length e
    rw [List.length_take] at this
    simp at this
    omega
  · rintro ⟨h1, h2⟩
    have hl := h2.length_le
    have h0 : 0 < q.length := List.length_pos_iff.mpr h1
    refine ⟨r.length - q.length, List.mem_range.mpr (by omega), ?_⟩
    rw [show r.length - (r.length - q.length) = q.length from by omega]
    exact (List.prefix_iff_eq_take.mp h2).symm
theorem ups_mem {r q : List Str} : q ∈ ups r ↔ q ≠ [] ∧ q <+: r := by
  rw [← downs_mem]
  unfold ups downs
  rw [List.mem_map, List.mem_map]
  constructor
  · rintro ⟨j, hj, rfl⟩
    rw [List.mem_range] at hj
    exact ⟨r.length - 1 - j, List.mem_range.mpr (by omega), by congr 1; omega⟩
  · rintro ⟨j, hj, rfl⟩
    rw [List.mem_range] at hj
    exact ⟨r.length - 1 - j, List.mem_range.mpr (by omega), by congr 1; omega⟩
theorem stay_fold : ∀ (held st : List (List Str)), held.foldl stayStep st = (held.flatMap downs).foldl putR st
  | [], st => rfl
  | h :: held, st => by
    rw [List.foldl_cons, List.flatMap_cons, List.foldl_append, put_nodup _ _ (downs_nodup h), stay_fold held]; rfl
theorem stay_mem {held : List (List Str)} {q : List Str} : q ∈ stayR held ↔ q ≠ [] ∧ ∃ h ∈ held, q <+: h := by
  unfold stayR
  rw [stay_fold, foldR_mem, List.mem_flatMap]
  constructor
  · rintro (h | ⟨h, hh, hq⟩)
    · cases h
    · exact ⟨(downs_mem.mp hq).1, h, hh, (downs_mem.mp hq).2⟩
  · rintro ⟨h0, h, hh, hq⟩
    exact .inr ⟨h, hh, downs_mem.mpr ⟨h0, hq⟩⟩
/-- what stays: no empty row, closed under fronts, rows of letters -/
structure StOk (st : List (List Str)) : Prop where
  rw : AllRw st
  nil : [] ∉ st
  front : ∀ q ∈ st, ∀ p, p ≠ [] → p <+: q → p ∈ st
theorem stay_stok {held : List (List Str)} (h : AllRw held) : StOk (stayR held) where
  rw := by
    intro r hr
    obtain ⟨_, h', hh, hq⟩ := stay_mem.mp hr
    rw [List.prefix_iff_eq_take.mp hq]
    exact (h h' hh).take _
  nil := fun q => (stay_mem.mp q).1 rfl
  front := by
    intro q hq p h0 hp
    obtain ⟨_, h', hh, hq'⟩ := stay_mem.mp hq
    exact stay_mem.mpr ⟨h0, h', hh, hp.trans hq'⟩
/-! ### the ancestry -/
theorem downs_step {r : List Str} (h : r ≠ []) : downs r = r :: downs r.dropLast := by
  have h0 : 0 < r.length := List.length_pos_iff.mpr h
  obtain ⟨n, hn⟩ : ∃ n, r.length = n + 1 := ⟨r.length - 1, by omega⟩
  unfold downs
  rw [List.length_dropLast, hn, List.range_succ_eq_map, List.map_cons, List.map_map, Nat.sub_zero, Nat.add_sub_cancel]
  rw [show r.take (n + 1) = r from List.take_of_length_le (by omega)]
  congr 1
  refine List.map_congr_left fun j hj => ?_
  show r.take (n + 1 - (j + 1)) = _
  rw [List.dropLast_eq_take, List.take_take, hn]
  congr 1
  rw [List.mem_range] at hj
  omega
theorem anc_path : ∀ (n : Nat) {r : List Str}, Rw r → r.length ≤ n → ancF (n + 1) (pathOf r) = (downs r).map pathOf ∧ Anc (pathOf r) ((downs r).map pathOf)
  | n, [], _, _ => by
    have e : downs [] = [] := rfl
    rw [e]
    exact ⟨by unfold ancF; rw [if_pos root_strip]; rfl, .nil root_strip⟩
  | 0, _ :: _, _, h => by simp at h
  | n + 1, c :: r, hr, hl => by
    obtain ⟨h1, h2, h3⟩ := dir_path hr (List.cons_ne_nil _ _)
    obtain ⟨h4, h5⟩ := anc_path n hr.dropLast (by rw [List.length_dropLast]; omega)
    rw [downs_step (List.cons_ne_nil _ _), List.map_cons]
    have h6 : ¬ Txt.rstripChars (pathOf (c :: r)) "/" = "" := by rw [h2]; exact h3
    refine ⟨?_, .cons h6 (by have := path_len hr; omega) (by rw [h1]; exact h5)⟩
    rw [ancF, if_neg h6, h1, h4]
theorem anc_empty : Txt.rstripChars ("" : Str) "/" = "" := by decide +kernel
theorem af_path {r : List Str} (hr : Rw r) : af (pathOf r) = (downs r).map pathOf ∧ AncOk (pathOf r) := by
  have hl := hr.2
  have hd : (downs r).length = r.length := by simp [downs]
  cases r with
  | nil =>
    have e : af (pathOf []) = [] := by unfold af; rw [root_strip]; unfold ancF; rw [if_pos anc_empty]
    exact ⟨e, ⟨by rw [e, root_strip]; exact .nil anc_empty, path_len hr, by rw [e]; exact Nat.zero_le _⟩⟩
  | cons c r =>
    obtain ⟨_, h2, _⟩ := dir_path hr (List.cons_ne_nil _ _)
    obtain ⟨h4, h5⟩ := anc_path 7 hr (by omega)
    have e : af (pathOf (c :: r)) = (downs (c :: r)).map pathOf := by unfold af; rw [h2]; exact h4
    exact ⟨e, ⟨by rw [e, h2]; exact h5, path_len hr, by rw [e, List.length_map, hd]; omega⟩⟩
end
section
/-! ## The place to take away -/
def topR (st : List (List Str)) (r : List Str) : List Str := (freeR st r).headD []
/-- the shortest front of a row that is not among what stays -/
structure TopIs (st : List (List Str)) (r t : List Str) : Prop where
  ne : t ≠ []
  out : t ∉ st
  front : t <+: r
  least : ∀ q, q ≠ [] → q <+: r → q.length < t.length → q ∈ st
theorem take_of_prefix {q r : List Str} (h : q <+: r) : q = r.take q.length := List.prefix_iff_eq_take.mp h
theorem front_of_len {p q r : List Str} (hp : p <+: r) (hq : q <+: r) (h : p.length ≤ q.length) : p <+: q := List.prefix_of_prefix_length_le hp hq h
theorem find_ups (p : List Str → Bool) (r : List Str) : (∀ t, ((ups r).filter p).head? = some t → p t = true ∧ t ≠ [] ∧ t <+: r ∧ ∀ q, q ≠ [] → q <+: r → q.length < t.length → p q = false) := by
  intro t h
  rw [List.head?_filter] at h
  unfold ups at h
  rw [List.find?_map, Option.map_eq_some_iff] at h
  obtain ⟨i, hi, rfl⟩ := h
  rw [List.find?_range_eq_some] at hi
  obtain ⟨h1, h2, h3⟩ := hi
  rw [List.mem_range] at h2
  refine ⟨h1, fun e => ?_, List.take_prefix _ _, fun q h0 hq hl => ?_⟩
  · have := congrArg List.length e
    rw [List.length_take, List.length_nil] at this
    omega
  · have h0' : 0 < q.length := List.length_pos_iff.mpr h0
    rw [List.length_take] at hl
    have := h3 (q.length - 1) (by omega)
    simp only [Function.comp] at this
    rw [show 1 + (q.length - 1) = q.length from by omega, ← take_of_prefix hq] at this
    simpa using this
theorem top_is {st : List (List Str)} {r : List Str} (h0 : r ≠ []) (h : r ∉ st) : TopIs st r (topR st r) := by
  have hr : r ∈ freeR st r := List.mem_filter.mpr ⟨ups_mem.mpr ⟨h0, List.prefix_refl _⟩, decide_eq_true h⟩
  obtain ⟨t, ht⟩ : ∃ t, (freeR st r).head? = some t := by
    cases e : freeR st r with
    | nil => rw [e] at hr; cases hr
    | cons a l => exact ⟨a, rfl⟩
  have e : topR st r = t := by
    unfold topR
    rw [List.headD_eq_head?_getD, ht]; rfl
  rw [e]
  obtain ⟨h1, h2, h3, h4⟩ := find_ups _ _ _ ht
  exact ⟨h2, of_decide_eq_true h1, h3, fun q q0 hq hl => by simpa using h4 q q0 hq hl⟩
theorem TopIs.same {st : List (List Str)} {r q t u : List Str} (S : StOk st) (T : TopIs st r t) (U : TopIs st q u) (h : t <+: q) : u = t := by
  have h1 : u.length ≤ t.length := Nat.le_of_not_lt fun hl => T.out (U.least t T.ne h hl)
  have h2 : u <+: t := front_of_len U.front h h1
  have h3 : t.length ≤ u.length := Nat.le_of_not_lt fun hl => U.out (T.least u U.ne (h2.trans T.front) hl)
  exact h2.eq_of_length (Nat.le_antisymm h1 h3)
theorem ups_downs (r : List Str) : ups r = (downs r).reverse := by
  apply List.ext_getElem?
  intro i
  unfold ups downs
  by_cases h : i < r.length
  · rw [List.getElem?_reverse (by simp; exact h)]
    simp only [List.length_map, List.length_range]
    rw [List.getElem?_map, List.getElem?_map, List.getElem?_range h, List.getElem?_range (by omega)]
    simp only [Option.map_some]
    congr 2; omega
  · rw [List.getElem?_eq_none (by simp; omega), List.getElem?_eq_none (by simp; omega)]
theorem top_last (st : List (List Str)) (r : List Str) : ((downs r).filter fun q => decide (q ∉ st)).getLast?.getD [] = topR st r := by
  unfold topR freeR
  rw [ups_downs, List.filter_reverse, List.headD_eq_head?_getD, List.head?_reverse]
theorem filter_path {l st : List (List Str)} (hl : AllRw l) (hs : AllRw st) : (l.map pathOf).filter (fun y => decide (y ∉ st.map pathOf)) = (l.filter fun r => decide (r ∉ st)).map pathOf := by
  rw [List.filter_map]
  congr 1
  refine List.filter_congr fun r hr => ?_
  show decide (pathOf r ∉ st.map pathOf) = decide (r ∉ st)
  rw [decide_eq_decide, path_mem hs (hl r hr)]
theorem downs_rw {r : List Str} (h : Rw r) : AllRw (downs r) := fun q hq => by
  rw [take_of_prefix (downs_mem.mp hq).2]; exact h.take _
theorem free_path {st : List (List Str)} {r : List Str} (hs : AllRw st) (h : Rw r) : ((af (pathOf r)).filter fun y => decide (y ∉ st.map pathOf)) = ((downs r).filter fun q => decide (q ∉ st)).map pathOf := by
  rw [(af_path h).1, filter_path (downs_rw h) hs]
theorem top_path {st : List (List Str)} {r : List Str} (hs : AllRw st) (h : Rw r) (h0 : r ≠ []) (hn : r ∉ st) : topT (st.map pathOf) (pathOf r) = pathOf (topR st r) ∧ ((af (pathOf r)).filter fun y => decide (y ∉ st.map pathOf)) ≠ [] := by
  have hm : r ∈ (downs r).filter fun q => decide (q ∉ st) := List.mem_filter.mpr ⟨downs_mem.mpr ⟨h0, List.prefix_refl _⟩, decide_eq_true hn⟩
  have hne : (downs r).filter (fun q => decide (q ∉ st)) ≠ [] := fun e => by rw [e] at hm; cases hm
  constructor
  · unfold topT
    rw [free_path hs h, List.getLast?_map, List.getLast?_eq_some_getLast hne]
    rw [← top_last, List.getLast?_eq_some_getLast hne]; rfl
  · rw [free_path hs h]
    intro e
    exact hne (List.map_eq_nil_iff.mp e)
/-! ### climbing -/
theorem climb_path {st : List (List Str)} {r : List Str} (S : StOk st) (h : Rw r) (h0 : r ≠ []) (hn : r ∉ st) : ∀ j, climbN (st.map pathOf) j (pathOf r) = pathOf (r.take (max (topR st r).length (r.length - j)))
  | 0 => by
    have T := top_is h0 hn
    have := T.front.length_le
    rw [show max (topR st r).length (r.length - 0) = r.length from by omega, List.take_length]; rfl
  | j + 1 => by
    have T := top_is h0 hn
    have hl := T.front.length_le
    have hp : 0 < (topR st r).length := List.length_pos_iff.mpr T.ne
    show climb1 _ (climbN _ j _) = _
    rw [climb_path S h h0 hn j]
    generalize hm : max (topR st r).length (r.length - j) = m
    have hm1 : m ≤ r.length := by omega
    have hlen : (r.take m).length = m := by rw [List.length_take]; omega
    have hne : r.take m ≠ [] := fun e => by rw [e] at hlen; simp at hlen; omega
    unfold climb1
    rw [(dir_path (h.take m) hne).1]
    have hdl : (r.take m).dropLast = r.take (m - 1) := by
      rw [List.dropLast_eq_take, List.take_take, hlen]; congr 1; omega
    rw [hdl]
    have hin : pathOf (r.take (m - 1)) ∈ st.map pathOf ++ [("/" : Str)] ↔ m = (topR st r).length := by
      rw [List.mem_append, path_mem S.rw (h.take _), List.mem_singleton, ← path_nil]
      constructor
      · intro q
        refine Nat.le_antisymm (Nat.le_of_not_lt fun hlt => ?_) (by omega)
        rcases q with q | q
        · refine T.out (S.front _ q _ T.ne ?_)
          exact front_of_len T.front (List.take_prefix _ _) (by rw [List.length_take]; omega)
        · have := congrArg List.length (path_inj (h.take _) rw_nil q)
          rw [List.length_take, List.length_nil] at this
          omega
      · intro q
        by_cases hz : m - 1 = 0
        · right; rw [hz]; rfl
        · left
          refine T.least _ (fun e => ?_) (List.take_prefix _ _) (by rw [List.length_take]; omega)
          have := congrArg List.length e
          rw [List.length_take, List.length_nil] at this
          omega
    by_cases hk : m = (topR st r).length
    · rw [if_pos (hin.mpr hk)]
      congr 2; omega
    · rw [if_neg fun q => hk (hin.mp q)]
      congr 2; omega
theorem climb_top {st : List (List Str)} {r : List Str} (S : StOk st) (h : Rw r) (h0 : r ≠ []) (hn : r ∉ st) : climbN (st.map pathOf) 3 (pathOf r) = pathOf (topR st r) := by
  have T := top_is h0 hn
  have hp : 0 < (topR st r).length := List.length_pos_iff.mpr T.ne
  have := h.2
  rw [climb_path S h h0 hn 3, take_of_prefix T.front, show max (r.take (topR st r).length).length (r.length - 3) = (topR st r).length from ?_]
  rw [← take_of_prefix T.front]; omega
/-! ### what goes -/
theorem gone_fold (st : List (List Str)) : ∀ (rows g : List (List Str)), rows.foldl (goneStep st) (g, g.map (topR st)) = ((rows.filter fun r => decide (r ∉ st) && decide (r ≠ [])).foldl putR g, ((rows.filter fun r => decide (r ∉ st) && decide (r ≠ [])).foldl putR g).map (topR st))
  | [], g => rfl
  | r :: rows, g => by
    have hf : r ∈ freeR st r ↔ r ∉ st ∧ r ≠ [] := by
      unfold freeR
      rw [List.mem_filter, ups_mem, decide_eq_true_eq]
      exact ⟨fun q => ⟨q.2, q.1.1⟩, fun q => ⟨⟨q.2, List.prefix_refl _⟩, q.1⟩⟩
    rw [List.foldl_cons]
    by_cases h : r ∉ st ∧ r ≠ []
    · rw [List.filter_cons_of_pos (by simp only [decide_eq_true h.1, decide_eq_true h.2, Bool.and_self]), List.foldl_cons, ← gone_fold st rows]
      congr 1
      unfold goneStep putR
      by_cases hg : r ∈ g
      · rw [if_neg fun q => q.2 hg, if_pos hg]
      · rw [if_pos ⟨hf.mpr h, hg⟩, if_neg hg, List.map_append]; rfl
    · rw [List.filter_cons_of_neg (by rw [Bool.and_eq_true, decide_eq_true_eq, decide_eq_true_eq]; exact h), ← gone_fold st rows]
      congr 1
      unfold goneStep
      rw [if_neg fun q => h (hf.mp q.1)]
end
section
/-! ## Rows in order, and their common front -/
theorem ltS_irrefl (x : Str) : ltS x x = false := decide_eq_false (List.lt_irrefl _)
theorem ltS_trans {x y z : Str} (h : ltS x y = true) (h' : ltS y z = true) : ltS x z = true := decide_eq_true (List.lt_trans (of_decide_eq_true h) (of_decide_eq_true h'))
theorem ltS_tri {x y : Str} (h : ltS x y = false) (h' : ltS y x = false) : x = y := str_ext (List.le_antisymm (of_decide_eq_false h') (of_decide_eq_false h))
theorem ltL_irrefl : ∀ r : List Str, ltL r r = false
  | [] => rfl
  | x :: r => by unfold ltL; rw [if_pos rfl]; exact ltL_irrefl r
theorem ltL_trans : ∀ {r s t : List Str}, ltL r s = true → ltL s t = true → ltL r t = true
  | [], [], _, h, _ => by cases h
  | [], _ :: _, [], _, h => by cases h
  | [], _ :: _, _ :: _, _, _ => rfl
  | _ :: _, [], _, h, _ => by cases h
  | _ :: _, _ :: _, [], _, h => by cases h
  | x :: r, y :: s, z :: t, h, h' => by
    unfold ltL at h h' ⊢
    by_cases h1 : x = y
    · subst h1
      rw [if_pos rfl] at h
      by_cases h2 : x = z
      · rw [if_pos h2] at h' ⊢
        exact ltL_trans h h'
      · rw [if_neg h2] at h' ⊢
        exact h'
    · rw [if_neg h1] at h
      by_cases h2 : y = z
      · subst h2
        rw [if_neg h1]; exact h
      · rw [if_neg h2] at h'
        have h3 := ltS_trans h h'
        rw [if_neg fun e => ?_]
        · exact h3
        · rw [e, ltS_irrefl] at h3; cases h3
theorem ltL_take : ∀ {r : List Str} {i : Nat}, i < r.length → ltL (r.take i) r = true
  | [], _, h => by simp at h
  | x :: r, 0, _ => rfl
  | x :: r, i + 1, h => by
    rw [List.take_succ_cons]
    unfold ltL
    rw [if_pos rfl]
    exact ltL_take (by rw [List.length_cons] at h; omega)
theorem min_fold : ∀ (l : List (List Str)) (b : List Str), (l.foldl minStep b = b ∨ l.foldl minStep b ∈ l) ∧ ltL b (l.foldl minStep b) = false ∧ ∀ r ∈ l, ltL r (l.foldl minStep b) = false
  | [], b => ⟨.inl rfl, ltL_irrefl b, fun _ h => nomatch h⟩
  | x :: l, b => by
    rw [List.foldl_cons]
    obtain ⟨h1, h2, h3⟩ := min_fold l (minStep b x)
    generalize l.foldl minStep (minStep b x) = m at h1 h2 h3
    unfold minStep at h1 h2
    by_cases hx : ltL x b = true
    · rw [if_pos hx] at h1 h2
      refine ⟨.inr (h1.elim (fun e => by rw [e]; exact .head _) fun h => .tail _ h), ?_, fun r hr => ?_⟩
      · rw [Bool.eq_false_iff]
        intro q
        rw [ltL_trans hx q] at h2; cases h2
      · rcases List.mem_cons.mp hr with rfl | hr
        · exact h2
        · exact h3 r hr
    · rw [if_neg hx] at h1 h2
      refine ⟨h1.elim .inl fun h => .inr (.tail _ h), h2, fun r hr => ?_⟩
      rcases List.mem_cons.mp hr with rfl | hr
      · rw [Bool.eq_false_iff]
        intro q
        by_cases hb : m = b
        · rw [hb] at q; exact hx q
        · -- m < b or m = b: as ¬ b < m, from q and transitivity
          exact hx (le_lt q h2)
      · exact h3 r hr
where
  le_lt {r m b : List Str} (q : ltL r m = true) (h : ltL b m = false) : ltL r b = true := by
    rcases tri b m with e | e | e
    · rw [e]; exact q
    · rw [e] at h; cases h
    · exact ltL_trans q e
  tri : ∀ b m : List Str, b = m ∨ ltL b m = true ∨ ltL m b = true
    | [], [] => .inl rfl
    | [], _ :: _ => .inr (.inl rfl)
    | _ :: _, [] => .inr (.inr rfl)
    | x :: b, y :: m => by
      unfold ltL
      by_cases h : x = y
      · subst h
        rw [if_pos rfl, if_pos rfl]
        rcases tri b m with e | e | e
        · exact .inl (by rw [e])
        · exact .inr (.inl e)
        · exact .inr (.inr e)
      · rw [if_neg h, if_neg fun e => h e.symm]
        by_cases h1 : ltS x y = true
        · exact .inr (.inl h1)
        · by_cases h2 : ltS y x = true
          · exact .inr (.inr h2)
          · exact absurd (ltS_tri (Bool.eq_false_iff.mpr h1) (Bool.eq_false_iff.mpr h2)) h
theorem tri_row (b m : List Str) : b = m ∨ ltL b m = true ∨ ltL m b = true := min_fold.tri b m
theorem max_fold : ∀ (l : List (List Str)) (b : List Str), (l.foldl maxStep b = b ∨ l.foldl maxStep b ∈ l) ∧ ltL (l.foldl maxStep b) b = false ∧ ∀ r ∈ l, ltL (l.foldl maxStep b) r = false
  | [], b => ⟨.inl rfl, ltL_irrefl b, fun _ h => nomatch h⟩
  | x :: l, b => by
    rw [List.foldl_cons]
    obtain ⟨h1, h2, h3⟩ := max_fold l (maxStep b x)
    generalize l.foldl maxStep (maxStep b x) = m at h1 h2 h3
    unfold maxStep at h1 h2
    by_cases hx : ltL b x = true
    · rw [if_pos hx] at h1 h2
      refine ⟨.inr (h1.elim (fun e => by rw [e]; exact .head _) fun h => .tail _ h), ?_, fun r hr => ?_⟩
      · rw [Bool.eq_false_iff]
        intro q
        rw [ltL_trans q hx] at h2; cases h2
      · rcases List.mem_cons.mp hr with rfl | hr
        · exact h2
        · exact h3 r hr
    · rw [if_neg hx] at h1 h2
      refine ⟨h1.elim .inl fun h => .inr (.tail _ h), h2, fun r hr => ?_⟩
      rcases List.mem_cons.mp hr with rfl | hr
      · rw [Bool.eq_false_iff]
        intro q
        rcases tri_row m b with e | e | e
        · rw [e] at q; exact hx q
        · rw [e] at h2; cases h2
        · exact hx (ltL_trans e q)
      · exact h3 r hr
theorem lo_hi {l : List (List Str)} (h : l ≠ []) : (loR l ∈ l ∧ ∀ r ∈ l, ltL r (loR l) = false) ∧ (hiR l ∈ l ∧ ∀ r ∈ l, ltL (hiR l) r = false) := by
  cases l with
  | nil => exact absurd rfl h
  | cons b l =>
    obtain ⟨h1, h2, h3⟩ := min_fold l b
    obtain ⟨k1, k2, k3⟩ := max_fold l b
    refine ⟨⟨h1.elim (fun e => by rw [loR, e]; exact .head _) fun h => .tail _ h, fun r hr => ?_⟩, ⟨k1.elim (fun e => by rw [hiR, e]; exact .head _) fun h => .tail _ h, fun r hr => ?_⟩⟩
    · rcases List.mem_cons.mp hr with rfl | hr
      · exact h2
      · exact h3 r hr
    · rcases List.mem_cons.mp hr with rfl | hr
      · exact k2
      · exact k3 r hr
theorem ord_ok {l : List (List Str)} (h : l ≠ []) (i : Nat) (e : (loR l).take i = (hiR l).take i) (hi : i < (loR l).length) : i < (hiR l).length := by
  obtain ⟨⟨h1, h2⟩, h3, h4⟩ := lo_hi h
  refine Nat.lt_of_not_le fun hle => ?_
  rw [List.take_of_length_le hle] at e
  have h5 := ltL_take hi
  rw [e, h4 _ h1] at h5
  cases h5
theorem cpref_front : ∀ {a b r : List Str}, ltL r a = false → ltL b r = false → cpref a b <+: r
  | [], _, r, _, _ => List.nil_prefix
  | _ :: _, [], r, _, _ => List.nil_prefix
  | x :: a, y :: b, [], h, _ => by cases h
  | x :: a, y :: b, z :: r, h, h' => by
    unfold cpref
    by_cases e : x = y
    · subst e
      rw [if_pos rfl]
      unfold ltL at h h'
      by_cases e2 : z = x
      · subst e2
        rw [if_pos rfl] at h h'
        rw [List.prefix_cons_inj]
        exact cpref_front h h'
      · rw [if_neg e2] at h
        rw [if_neg fun q => e2 q.symm] at h'
        exact absurd (ltS_tri h h') e2
    · rw [if_neg e]; exact List.nil_prefix
theorem front_cpref : ∀ {a b p : List Str}, p <+: a → p <+: b → p <+: cpref a b
  | a, b, [], _, _ => List.nil_prefix
  | [], _, _ :: _, h, _ => by simp at h
  | _ :: _, [], _ :: _, _, h => by simp at h
  | x :: a, y :: b, z :: p, h, h' => by
    rw [List.cons_prefix_cons] at h h'
    unfold cpref
    rw [← h.1, ← h'.1, if_pos rfl, List.prefix_cons_inj]
    exact front_cpref h.2 h'.2
/-- the longest common front of rows -/
def cp (l : List (List Str)) : List Str := cpref (loR l) (hiR l)
theorem cp_front {l : List (List Str)} {r : List Str} (h : r ∈ l) : cp l <+: r := by
  have hn : l ≠ [] := fun e => by rw [e] at h; cases h
  obtain ⟨⟨_, h2⟩, _, h4⟩ := lo_hi hn
  exact cpref_front (h2 r h) (h4 r h)
theorem front_cp {l : List (List Str)} {p : List Str} (hn : l ≠ []) (h : ∀ r ∈ l, p <+: r) : p <+: cp l := by
  obtain ⟨⟨h1, _⟩, h3, _⟩ := lo_hi hn
  exact front_cpref (h _ h1) (h _ h3)
theorem map_parts {l : List (List Str)} (h : AllRw l) : (l.map pathOf).map partsF = l := by
  rw [List.map_map]
  conv => rhs; rw [← List.map_id l]
  exact List.map_congr_left fun r hr => parts_path (h r hr)
theorem common_path {l : List (List Str)} (h : AllRw l) : commonF (l.map pathOf) = pathOf (cp l) := by
  unfold commonF
  rw [map_parts h]; rfl
theorem cp_ok {l : List (List Str)} (h : AllRw l) (hn : l ≠ []) (hl : l.length ≤ 400) : CpOk (l.map pathOf) where
  ne := fun e => hn (List.map_eq_nil_iff.mp e)
  few := by rw [List.length_map]; exact hl
  all := by
    intro x hx
    obtain ⟨r, hr, rfl⟩ := List.mem_map.mp hx
    exact ⟨path_len (h r hr), path_starts r⟩
  ord := by rw [map_parts h]; exact fun i e hi => ord_ok hn i e hi
end
section
/-! ## The plain law, whole -/
def goR (xs : List Int) (st : List (List Str)) : List (List Str) := ((xs.map rowX).filter fun r => decide (r ∉ st) && decide (r ≠ [])).foldl putR []
def stR (xs : List Int) : List (List Str) := stayR ((heldX xs).map rowX)
theorem names_rows (xs : List Int) : xs.map nameX = (xs.map rowX).map pathOf := by
  rw [List.map_map]
  exact List.map_congr_left fun x _ => name_eq x
theorem rows_rw (xs : List Int) : AllRw (xs.map rowX) := by
  intro r hr
  obtain ⟨x, _, rfl⟩ := List.mem_map.mp hr
  exact row_rw x
theorem flat_path {l : List (List Str)} (h : AllRw l) : (l.map pathOf).flatMap af = (l.flatMap downs).map pathOf := by
  rw [List.flatMap_map, List.map_flatMap]
  unfold List.flatMap
  rw [List.map_congr_left fun r hr => (af_path (h r hr)).1]
theorem ss_eq (xs : List Int) : ssX xs = (stR xs).map pathOf := by
  unfold ssX stayT stR
  have h := rows_rw (heldX xs)
  rw [names_rows, flat_path h]
  have := put_map ((((heldX xs).map rowX)).flatMap downs) [] (fun q hq => by
    obtain ⟨r, hr, hq⟩ := List.mem_flatMap.mp hq
    exact downs_rw (h r hr) q hq) (fun _ hq => nomatch hq)
  rw [List.map_nil] at this
  rw [this, ← stay_fold]; rfl
theorem st_ok (xs : List Int) : StOk (stR xs) := stay_stok (rows_rw (heldX xs))
theorem ss_root {st : List (List Str)} (S : AllRw st) {r : List Str} (h : Rw r) : pathOf r ∈ st.map pathOf ++ [("/" : Str)] ↔ r ∈ st ∨ r = [] := by
  rw [List.mem_append, path_mem S h, List.mem_singleton, ← path_nil]
  exact or_congr Iff.rfl ⟨fun e => path_inj h rw_nil e, fun e => by rw [e]⟩
theorem go_eq (xs : List Int) : goX xs = (goR xs (stR xs)).map pathOf := by
  unfold goX goneT goR
  have h := rows_rw xs
  have S := (st_ok xs).rw
  rw [ss_eq, names_rows, List.filter_map]
  have e : ((xs.map rowX).filter ((fun y => decide (y ∉ (stR xs).map pathOf ++ [("/" : Str)])) ∘ pathOf)) = (xs.map rowX).filter fun r => decide (r ∉ stR xs) && decide (r ≠ []) := by
    refine List.filter_congr fun r hr => ?_
    show decide (pathOf r ∉ (stR xs).map pathOf ++ [("/" : Str)]) = _
    rw [Bool.eq_iff_iff, Bool.and_eq_true, decide_eq_true_eq, decide_eq_true_eq, decide_eq_true_eq, ss_root S (h r hr), not_or]
  rw [e]
  exact put_map _ [] (fun q hq => h q (List.mem_filter.mp hq).1) (fun _ hq => nomatch hq)
theorem go_mem {xs : List Int} {r : List Str} (h : r ∈ goR xs (stR xs)) : Rw r ∧ r ≠ [] ∧ r ∉ stR xs := by
  unfold goR at h
  rw [foldR_mem] at h
  rcases h with h | h
  · cases h
  · obtain ⟨h1, h2⟩ := List.mem_filter.mp h
    rw [Bool.and_eq_true, decide_eq_true_eq, decide_eq_true_eq] at h2
    exact ⟨rows_rw xs r h1, h2.2, h2.1⟩
theorem to_eq (xs : List Int) : toX xs = ((goR xs (stR xs)).map (topR (stR xs))).map pathOf := by
  unfold toX
  rw [go_eq, ss_eq, List.map_map, List.map_map]
  refine List.map_congr_left fun r hr => ?_
  obtain ⟨h1, h2, h3⟩ := go_mem hr
  rw [Function.comp_apply, Function.comp_apply, (top_path (st_ok xs).rw h1 h2 h3).1]
theorem told_eq (xs : List Int) : toldF (xs.map rowX) ((heldX xs).map rowX) = [ssX xs, goX xs, toX xs] := by
  unfold toldF
  have h := gone_fold (stR xs) (xs.map rowX) []
  rw [List.map_nil] at h
  have h2 : goneR (stayR ((heldX xs).map rowX)) (xs.map rowX) = (goR xs (stR xs), (goR xs (stR xs)).map (topR (stR xs))) := h
  rw [h2, ss_eq, go_eq, to_eq]; rfl
/-- any rows go with one place if and only if their common front need not stay -/
theorem one_place {st l : List (List Str)} {r0 : List Str} (S : StOk st) (hl : ∀ r ∈ l, r ≠ [] ∧ r ∉ st) (h0 : r0 ∈ l) : (∀ r ∈ l, topR st r = topR st r0) ↔ ¬ (cp l ∈ st ∨ cp l = []) := by
  have hn : l ≠ [] := fun e => by rw [e] at h0; cases h0
  constructor
  · intro h
    have T := top_is (hl r0 h0).1 (hl r0 h0).2
    have hf : topR st r0 <+: cp l := front_cp hn fun r hr => by rw [← h r hr]; exact (top_is (hl r hr).1 (hl r hr).2).front
    rintro (q | q)
    · exact T.out (S.front _ q _ T.ne hf)
    · rw [q, List.prefix_nil] at hf; exact T.ne hf
  · intro h
    rw [not_or] at h
    have T := top_is h.2 h.1
    have key : ∀ r ∈ l, topR st r = topR st (cp l) := fun r hr => TopIs.same S T (top_is (hl r hr).1 (hl r hr).2) (T.front.trans (cp_front hr))
    exact fun r hr => by rw [key r hr, key r0 h0]
theorem cp_rw {l : List (List Str)} (h : AllRw l) (hn : l ≠ []) : Rw (cp l) := by
  obtain ⟨r, hr⟩ := List.exists_mem_of_ne_nil l hn
  rw [take_of_prefix (cp_front hr)]
  exact (h r hr).take _
theorem not_dec (p q : Prop) [Decidable p] [Decidable q] (h : p ↔ ¬ q) : decide p = !decide q := by
  by_cases hq : q
  · rw [decide_eq_true hq, decide_eq_false fun hp => h.mp hp hq]; rfl
  · rw [decide_eq_false hq, decide_eq_true (h.mpr hq)]; rfl
theorem law_rows {st G : List (List Str)} (S : StOk st) (hG : ∀ r ∈ G, Rw r ∧ r ≠ [] ∧ r ∉ st) (hl : G.length ≤ 400) : LawOk (G.map pathOf) ((G.map (topR st)).map pathOf) (st.map pathOf) := by
  intro i j gi gj ti tj hgi hgj hti htj hij
  rw [List.getElem?_map, Option.map_eq_some_iff] at hgi hgj
  obtain ⟨ri, hri, rfl⟩ := hgi
  obtain ⟨rj, hrj, rfl⟩ := hgj
  rw [List.map_map, List.getElem?_map, hri] at hti
  rw [List.map_map, List.getElem?_map, hrj] at htj
  have hti : pathOf (topR st ri) = ti := Option.some.inj hti
  have htj : pathOf (topR st rj) = tj := Option.some.inj htj
  subst hti htj
  have mi := List.mem_of_getElem? hri
  have mj := List.mem_of_getElem? hrj
  obtain ⟨wi, ni, oi⟩ := hG ri mi
  obtain ⟨wj, nj, oj⟩ := hG rj mj
  have Ti := top_is ni oi
  have Tj := top_is nj oj
  have wti : Rw (topR st ri) := by rw [take_of_prefix Ti.front]; exact wi.take _
  have wtj : Rw (topR st rj) := by rw [take_of_prefix Tj.front]; exact wj.take _
  have htop : pathOf (topR st ri) = pathOf (topR st rj) ↔ topR st ri = topR st rj := ⟨fun e => path_inj wti wtj e, fun e => by rw [e]⟩
  have hiG : i < G.length := by
    rcases Nat.lt_or_ge i G.length with q | q
    · exact q
    · rw [List.getElem?_eq_none q] at hri; cases hri
  -- the run of neighbours
  have hseg : ((G.map pathOf).drop j).take (i + 1 - j) = ((G.drop j).take (i + 1 - j)).map pathOf := by rw [← List.map_drop, ← List.map_take]
  have hsegt : (((G.map (topR st)).map pathOf).drop j).take (i + 1 - j) = ((G.drop j).take (i + 1 - j)).map fun r => pathOf (topR st r) := by
    rw [← List.map_drop, ← List.map_take, ← List.map_drop, ← List.map_take, List.map_map]; rfl
  have hlen : ((G.drop j).take (i + 1 - j)).length = i + 1 - j := by rw [List.length_take, List.length_drop]; omega
  have hsub : ∀ r ∈ (G.drop j).take (i + 1 - j), r ∈ G := fun r hr => List.mem_of_mem_drop (List.mem_of_mem_take hr)
  have hmi : ri ∈ (G.drop j).take (i + 1 - j) := by
    refine List.mem_of_getElem? (i := i - j) ?_
    rw [List.getElem?_take_of_lt (by omega), List.getElem?_drop, show j + (i - j) = i from by omega, hri]
  generalize (G.drop j).take (i + 1 - j) = seg at hseg hsegt hlen hsub hmi
  have hseg0 : seg ≠ [] := fun e => by rw [e] at hmi; cases hmi
  have hsegrw : AllRw seg := fun r hr => (hG r (hsub r hr)).1
  have h2rw : AllRw [ri, rj] := fun r hr => by
    simp only [List.mem_cons, List.not_mem_nil, or_false] at hr
    rcases hr with rfl | rfl
    · exact wi
    · exact wj
  have h3rw : AllRw [rj, topR st ri] := fun r hr => by
    simp only [List.mem_cons, List.not_mem_nil, or_false] at hr
    rcases hr with rfl | rfl
    · exact wj
    · exact wti
  refine ⟨?_, ?_, ?_, ?_, ?_, ?_⟩
  · rw [hseg]
    exact cp_ok hsegrw hseg0 (by omega)
  · have k := cp_ok h2rw (List.cons_ne_nil _ _) (by simp)
    rw [List.map_cons, List.map_cons, List.map_nil] at k
    exact k
  · have k := cp_ok h3rw (List.cons_ne_nil _ _) (by simp)
    rw [List.map_cons, List.map_cons, List.map_nil] at k
    exact k
  · rw [hseg, hsegt, common_path hsegrw]
    refine not_dec _ _ ?_
    rw [ss_root S.rw (cp_rw hsegrw hseg0), ← one_place S (fun r hr => (hG r (hsub r hr)).2) hmi, ← hlen, List.map_eq_replicate_iff]
    constructor
    · intro q r hr
      have T := top_is (hG r (hsub r hr)).2.1 (hG r (hsub r hr)).2.2
      exact path_inj (by rw [take_of_prefix T.front]; exact (hsegrw r hr).take _) wti (q r hr)
    · intro q r hr
      show pathOf (topR st r) = _
      rw [q r hr]
  · refine not_dec _ _ ?_
    have e := common_path h2rw
    rw [List.map_cons, List.map_cons, List.map_nil] at e
    rw [e, ss_root S.rw (cp_rw h2rw (List.cons_ne_nil _ _)), htop, ← one_place (r0 := rj) S ?_ (.tail _ (.head _))]
    · constructor
      · intro q r hr
        simp only [List.mem_cons, List.not_mem_nil, or_false] at hr
        rcases hr with rfl | rfl
        · exact q
        · rfl
      · exact fun q => q ri (.head _)
    · intro r hr
      simp only [List.mem_cons, List.not_mem_nil, or_false] at hr
      rcases hr with rfl | rfl
      · exact ⟨ni, oi⟩
      · exact ⟨nj, oj⟩
  · have e := common_path h3rw
    rw [List.map_cons, List.map_cons, List.map_nil] at e
    have hc : pathOf (cp [rj, topR st ri]) = pathOf (topR st ri) ↔ topR st ri <+: rj := by
      constructor
      · intro q
        rw [← path_inj (cp_rw h3rw (List.cons_ne_nil _ _)) wti q]
        exact cp_front (.head _)
      · intro q
        have h1 : topR st ri <+: cp [rj, topR st ri] := front_cp (List.cons_ne_nil _ _) fun r hr => by
          simp only [List.mem_cons, List.not_mem_nil, or_false] at hr
          rcases hr with rfl | rfl
          · exact q
          · exact List.prefix_refl _
        have h2 : cp [rj, topR st ri] <+: topR st ri := cp_front (.tail _ (.head _))
        rw [h2.eq_of_length (Nat.le_antisymm h2.length_le h1.length_le)]
    rw [e, decide_eq_decide, hc, htop]
    constructor
    · intro q; rw [q]; exact Tj.front
    · intro q; exact (TopIs.same S Ti Tj q).symm
theorem plain_ok' (xs : List Int) (h : xs.length ≤ 8) : PlainOk xs where
  anc := fun x _ => by rw [name_eq]; exact (af_path (row_rw x)).2
  wt := fun x _ => rw_wt (row_rw x)
  ne := by
    intro y hy
    rw [go_eq] at hy
    obtain ⟨r, hr, rfl⟩ := List.mem_map.mp hy
    obtain ⟨h1, h2, h3⟩ := go_mem hr
    rw [ss_eq]
    exact (top_path (st_ok xs).rw h1 h2 h3).2
  told := told_eq xs
  climbed := by
    rw [go_eq, ss_eq, to_eq, List.map_map, List.map_map]
    refine List.map_congr_left fun r hr => ?_
    obtain ⟨h1, h2, h3⟩ := go_mem hr
    rw [Function.comp_apply, Function.comp_apply, climb_top (st_ok xs) h1 h2 h3]
  law := by
    rw [go_eq, ss_eq, to_eq]
    refine law_rows (st_ok xs) (fun r hr => go_mem hr) ?_
    have hl : ∀ (l acc : List (List Str)), (l.foldl putR acc).length ≤ acc.length + l.length := by
      intro l
      induction l with
      | nil => intro acc; simp
      | cons x l ih =>
        intro acc
        rw [List.foldl_cons]
        have h1 := ih (putR acc x)
        have h2 : (putR acc x).length ≤ acc.length + 1 := by unfold putR; split <;> simp
        rw [List.length_cons]; omega
    have h1 := hl ((xs.map rowX).filter fun r => decide (r ∉ stR xs) && decide (r ≠ [])) []
    have h2 := List.length_filter_le (fun r => decide (r ∉ stR xs) && decide (r ≠ [])) (xs.map rowX)
    rw [List.length_map] at h2
    rw [List.length_nil] at h1
    unfold goR
    omega
theorem plain_ok (l : List Int) : PlainOk (script5 l) := plain_ok' _ (by simp only [script5, List.length_append, List.length_cons, List.length_nil, List.length_take]; omega)
end
section
/-! ## The head by hand: the text's top in pieces, what stays of it, and the objects that the walk reads -/
noncomputable def hdK (P : Params) (x : Str) (n : Tok) (v : Value) : DictEntry := { hash := PyData.keyHash P x, key := .str x n, val := v }
noncomputable def fnO (st : Stmt) (qual : Str) (pm : Str) (n : Tok) (c : Addr) : Obj :=
  { cls := .type "function", data := .func (fnX (nameOf st) qual (argsOf st) (bodyOf st) (scopeOf st) [] .none .none .none (.str pm n) none (.ref c) .none) }
noncomputable def fnP (st : Stmt) (qual : Str) : Obj :=
  { cls := .none, data := .func { name := nameOf st, qualname := qual, params := argsOf st, body := .stmts (bodyOf st), scope := scopeOf st, globals := 0, closure := [], defaults := .none, kwdefaults := .none } }
noncomputable def hdO11 (P : Params) : Obj := { cls := .type "code", data := Data.fields #[.str "<module>" 182, .str "<module>" 183, .str "/claim/cut.py" 184, .int 1 0, .int 0 0, .int 0 0, .int 0 0, .int 0 0, .ref 11, .bool false, .int 181 0, .ref 12, .none, .none, .none, .none, .int 185 0, .int 1 0, .str "/claim/cut.py" 186] }
noncomputable def hdO12 (P : Params) : Obj := { cls := .type "frame", slots := #[some (.ref 13), some (.ref 3), some (.ref 3), none, some (.str "__main__" 164), none, some (.ref 0)] }
noncomputable def hdO27 (P : Params) : Obj := { cls := .type "dict", data := Data.dict #[hdK P "__name__" 165 (.str "abc" 205), hdK P "__doc__" 166 (.none), hdK P "__package__" 167 (.none), hdK P "__loader__" 168 (.builtin "__main__.__loader__#opaque"), hdK P "__spec__" 169 (.none), hdK P "__annotations__" 170 (.ref 6), hdK P "__builtins__" 171 (.ref 4), hdK P "__file__" 173 (.str "/claim/cut.py" 172), hdK P "__cached__" 174 (.none), hdK P "_wall" 193 (.ref 21), hdK P "_plain_name" 204 (.ref 28), hdK P "ABCMeta" 230 (.ref 45)] 12 }
noncomputable def hdO28 (P : Params) : Obj := { cls := .none, data := Data.fields #[.int 1 0, .int 0 0, .ref 20, .int 5 0, .int 0 0, .ref 27, .int 11 0, .int 0 0, .ref 34] }
noncomputable def hdO15 (P : Params) : Obj := { cls := .type "tuple", data := Data.seq #[.str "k" 190] }
noncomputable def hdO16 (P : Params) : Obj := fnP (stmtAt 0) "_wall"
noncomputable def hdO17 (P : Params) : Obj := { cls := .type "code", data := Data.fields #[.str "_wall" 187, .str "_wall" 188, .str "/claim/cut.py" 189, .int 1 0, .int 1 0, .int 0 0, .int 0 0, .int 3 0, .ref 15, .bool true, .int 181 0, .ref 16, .none, .ref 17, .ref 18, .ref 19, .int 191 0, .int 1 0, .str "/claim/cut.py" 192] }
noncomputable def hdO18 (P : Params) : Obj := fnO (stmtAt 0) "_wall" "__main__" 164 20
noncomputable def hdO22 (P : Params) : Obj := { cls := .type "tuple", data := Data.seq #[.str "x" 199, .str "what" 200, .str "kind" 201] }
noncomputable def hdO23 (P : Params) : Obj := fnP (stmtAt 2) "_plain_name"
noncomputable def hdO24 (P : Params) : Obj := { cls := .type "code", data := Data.fields #[.str "_plain_name" 196, .str "_plain_name" 197, .str "/claim/cut.py" 198, .int 5 0, .int 2 0, .int 0 0, .int 0 0, .int 3 0, .ref 22, .bool true, .int 181 0, .ref 23, .none, .ref 24, .ref 25, .ref 26, .int 202 0, .int 5 0, .str "/claim/cut.py" 203] }
noncomputable def hdO25 (P : Params) : Obj := fnO (stmtAt 2) "_plain_name" "os" 194 27
noncomputable def hdO29 (P : Params) : Obj := { cls := .type "tuple", data := Data.seq #[.type "type"] }
noncomputable def hdO30 (P : Params) : Obj := { cls := .type "builtin_function_or_method", data := Data.fields #[.builtin "type.__prepare__", .type "type"] }
noncomputable def hdO31 (P : Params) : Obj := { cls := .type "dict", data := Data.dict #[hdK P "__module__" 214 (.str "abc" 205), hdK P "__qualname__" 216 (.str "ABCMeta" 215), hdK P "__firstlineno__" 218 (.int 11 217), hdK P "register" 226 (.ref 42), hdK P "__static_attributes__" 227 (.ref 43)] 5 }
noncomputable def hdO32 (P : Params) : Obj := { cls := .none, data := Data.fields #[.int 13 0, .int 4 0, .ref 41] }
noncomputable def hdO33 (P : Params) : Obj := { cls := .type "code", data := Data.fields #[.str "ABCMeta" 209, .str "ABCMeta" 210, .str "/claim/cut.py" 211, .int 11 0, .int 0 0, .int 0 0, .int 0 0, .int 0 0, .ref 32, .bool false, .int 181 0, .ref 33, .none, .none, .none, .none, .int 212 0, .int 11 0, .str "/claim/cut.py" 213] }
noncomputable def hdO34 (P : Params) : Obj := { cls := .type "frame", slots := #[some (.ref 34), some (.ref 3), some (.ref 31), none, some (.str "abc" 205), none, some (.ref 0)] }
noncomputable def hdO35 (P : Params) : Obj := { cls := .type "tuple", data := Data.seq #[.str "cls" 222, .str "subclass" 223] }
noncomputable def hdO36 (P : Params) : Obj := fnP (methAt 4 0) "ABCMeta.register"
noncomputable def hdO37 (P : Params) : Obj := { cls := .type "code", data := Data.fields #[.str "register" 219, .str "ABCMeta.register" 220, .str "/claim/cut.py" 221, .int 13 0, .int 2 0, .int 0 0, .int 0 0, .int 3 0, .ref 36, .bool true, .int 181 0, .ref 37, .none, .ref 38, .ref 39, .ref 40, .int 224 0, .int 13 0, .str "/claim/cut.py" 225] }
noncomputable def hdO38 (P : Params) : Obj := fnO (methAt 4 0) "ABCMeta.register" "abc" 205 41
noncomputable def hdO39 (P : Params) : Obj := { cls := .type "dict", data := Data.dict #[hdK P "__module__" 214 (.str "abc" 205), hdK P "__firstlineno__" 218 (.int 11 217), hdK P "register" 226 (.ref 42), hdK P "__static_attributes__" 227 (.ref 43), hdK P "__doc__" 228 (.none)] 2 }
noncomputable def hdO40 (P : Params) : Obj := { cls := .type "type", data := Data.cls { name := "ABCMeta", bases := [.type "type"], mro := [.ref 45, .type "type", .type "object"], ns := 44, qualname := "ABCMeta" }, slots := #[some (.ref 29), none, some (.str "ABCMeta" 207), some (.str "ABCMeta" 215), some (.builtin "type.__new__"), some (.bool true)] }
noncomputable def hdO41 (P : Params) : Obj := { cls := .type "super", data := Data.fields #[.ref 45, .ref 45, .ref 45] }
noncomputable def hdO42 (P : Params) : Obj := { cls := .type "builtin_function_or_method", data := Data.fields #[.builtin "object.__init_subclass__", .ref 45] }
noncomputable def hdO44 (P : Params) : Obj := { cls := .type "dict", data := Data.dict #[hdK P "__name__" 165 (.str "collections.abc" 231), hdK P "__doc__" 166 (.none), hdK P "__package__" 167 (.none), hdK P "__loader__" 168 (.builtin "__main__.__loader__#opaque"), hdK P "__spec__" 169 (.none), hdK P "__annotations__" 170 (.ref 6), hdK P "__builtins__" 171 (.ref 4), hdK P "__file__" 173 (.str "/claim/cut.py" 172), hdK P "__cached__" 174 (.none), hdK P "_wall" 193 (.ref 21), hdK P "_plain_name" 204 (.ref 28), hdK P "ABCMeta" 230 (.ref 45), hdK P "_ABCLike" 273 (.ref 78)] 13 }
noncomputable def hdO45 (P : Params) : Obj := { cls := .none, data := Data.fields #[.int 1 0, .int 0 0, .ref 20, .int 5 0, .int 0 0, .ref 27, .int 11 0, .int 0 0, .ref 34, .int 16 0, .int 0 0, .ref 53] }
noncomputable def hdO46 (P : Params) : Obj := { cls := .type "type", data := Data.cls { name := "ABCMeta", bases := [.type "type"], mro := [.ref 45, .type "type", .type "object"], ns := 44, qualname := "ABCMeta", subclasses := [.ref 78] }, slots := #[some (.ref 29), none, some (.str "ABCMeta" 207), some (.str "ABCMeta" 215), some (.builtin "type.__new__"), some (.bool true)] }
noncomputable def hdO47 (P : Params) : Obj := { cls := .type "tuple", data := Data.seq #[.ref 45] }
noncomputable def hdO48 (P : Params) : Obj := { cls := .type "dict", data := Data.dict #[hdK P "__module__" 240 (.str "collections.abc" 231), hdK P "__qualname__" 242 (.str "_ABCLike" 241), hdK P "__firstlineno__" 244 (.int 16 243), hdK P "__instancecheck__" 253 (.ref 61), hdK P "__subclasscheck__" 261 (.ref 68), hdK P "register" 269 (.ref 75), hdK P "__static_attributes__" 270 (.ref 76)] 7 }
noncomputable def hdO49 (P : Params) : Obj := { cls := .none, data := Data.fields #[.int 18 0, .int 4 0, .ref 60, .int 24 0, .int 4 0, .ref 67, .int 29 0, .int 4 0, .ref 74] }
noncomputable def hdO50 (P : Params) : Obj := { cls := .type "code", data := Data.fields #[.str "_ABCLike" 235, .str "_ABCLike" 236, .str "/claim/cut.py" 237, .int 16 0, .int 0 0, .int 0 0, .int 0 0, .int 0 0, .ref 51, .bool false, .int 181 0, .ref 52, .none, .none, .none, .none, .int 238 0, .int 16 0, .str "/claim/cut.py" 239] }
noncomputable def hdO51 (P : Params) : Obj := { cls := .type "frame", slots := #[some (.ref 53), some (.ref 3), some (.ref 50), none, some (.str "collections.abc" 231), none, some (.ref 0)] }
noncomputable def hdO52 (P : Params) : Obj := { cls := .type "tuple", data := Data.seq #[.str "cls" 248, .str "\x69nstance" 249, .str "C" 250] }
noncomputable def hdO53 (P : Params) : Obj := fnP (methAt 6 0) "_ABCLike.__instancecheck__"
noncomputable def hdO54 (P : Params) : Obj := { cls := .type "code", data := Data.fields #[.str "__instancecheck__" 245, .str "_ABCLike.__instancecheck__" 246, .str "/claim/cut.py" 247, .int 18 0, .int 2 0, .int 0 0, .int 0 0, .int 3 0, .ref 55, .bool true, .int 181 0, .ref 56, .none, .ref 57, .ref 58, .ref 59, .int 251 0, .int 18 0, .str "/claim/cut.py" 252] }
noncomputable def hdO55 (P : Params) : Obj := fnO (methAt 6 0) "_ABCLike.__instancecheck__" "collections.abc" 231 60
noncomputable def hdO56 (P : Params) : Obj := { cls := .type "tuple", data := Data.seq #[.str "cls" 257, .str "C" 258] }
noncomputable def hdO57 (P : Params) : Obj := fnP (methAt 6 1) "_ABCLike.__subclasscheck__"
noncomputable def hdO58 (P : Params) : Obj := { cls := .type "code", data := Data.fields #[.str "__subclasscheck__" 254, .str "_ABCLike.__subclasscheck__" 255, .str "/claim/cut.py" 256, .int 24 0, .int 2 0, .int 0 0, .int 0 0, .int 3 0, .ref 62, .bool true, .int 181 0, .ref 63, .none, .ref 64, .ref 65, .ref 66, .int 259 0, .int 24 0, .str "/claim/cut.py" 260] }
noncomputable def hdO59 (P : Params) : Obj := fnO (methAt 6 1) "_ABCLike.__subclasscheck__" "collections.abc" 231 67
noncomputable def hdO60 (P : Params) : Obj := { cls := .type "tuple", data := Data.seq #[.str "cls" 265, .str "subclass" 266] }
noncomputable def hdO61 (P : Params) : Obj := fnP (methAt 6 2) "_ABCLike.register"
noncomputable def hdO62 (P : Params) : Obj := { cls := .type "code", data := Data.fields #[.str "register" 262, .str "_ABCLike.register" 263, .str "/claim/cut.py" 264, .int 29 0, .int 2 0, .int 0 0, .int 0 0, .int 3 0, .ref 69, .bool true, .int 181 0, .ref 70, .none, .ref 71, .ref 72, .ref 73, .int 267 0, .int 29 0, .str "/claim/cut.py" 268] }
noncomputable def hdO63 (P : Params) : Obj := fnO (methAt 6 2) "_ABCLike.register" "collections.abc" 231 74
noncomputable def hdO64 (P : Params) : Obj := { cls := .type "dict", data := Data.dict #[hdK P "__module__" 240 (.str "collections.abc" 231), hdK P "__firstlineno__" 244 (.int 16 243), hdK P "__instancecheck__" 253 (.ref 61), hdK P "__subclasscheck__" 261 (.ref 68), hdK P "register" 269 (.ref 75), hdK P "__static_attributes__" 270 (.ref 76), hdK P "__doc__" 271 (.none)] 2 }
noncomputable def hdO65 (P : Params) : Obj := { cls := .type "type", data := Data.cls { name := "_ABCLike", bases := [.ref 45], mro := [.ref 78, .ref 45, .type "type", .type "object"], ns := 77, qualname := "_ABCLike" }, slots := #[some (.ref 48), none, some (.str "_ABCLike" 233), some (.str "_ABCLike" 241), some (.builtin "type.__new__"), some (.bool true)] }
noncomputable def hdO66 (P : Params) : Obj := { cls := .type "super", data := Data.fields #[.ref 78, .ref 78, .ref 78] }
noncomputable def hdO67 (P : Params) : Obj := { cls := .type "builtin_function_or_method", data := Data.fields #[.builtin "object.__init_subclass__", .ref 78] }
noncomputable def hdO113 (P : Params) : Obj := { cls := .type "dict", data := Data.dict #[hdK P "__name__" 165 (.str "cpy313.posixpath" 306), hdK P "__doc__" 166 (.none), hdK P "__package__" 167 (.none), hdK P "__loader__" 168 (.builtin "__main__.__loader__#opaque"), hdK P "__spec__" 169 (.none), hdK P "__annotations__" 170 (.ref 6), hdK P "__builtins__" 171 (.ref 4), hdK P "__file__" 173 (.str "/claim/cut.py" 172), hdK P "__cached__" 174 (.none), hdK P "_wall" 193 (.ref 21), hdK P "_plain_name" 204 (.ref 28), hdK P "ABCMeta" 230 (.ref 45), hdK P "_ABCLike" 273 (.ref 78), hdK P "_abc_plain_meta" 280 (.ref 87), hdK P "fspath" 292 (.ref 94), hdK P "_check_arg_types" 305 (.ref 101), hdK P "_get_sep" 314 (.ref 108), hdK P "join" 325 (.ref 115), hdK P "splitroot" 334 (.ref 122), hdK P "dirname" 344 (.ref 129), hdK P "normpath" 359 (.ref 136)] 21 }
noncomputable def hdO114 (P : Params) : Obj := { cls := .none, data := Data.fields #[.int 1 0, .int 0 0, .ref 20, .int 5 0, .int 0 0, .ref 27, .int 11 0, .int 0 0, .ref 34, .int 16 0, .int 0 0, .ref 53, .int 31 0, .int 0 0, .ref 86, .int 35 0, .int 0 0, .ref 93, .int 52 0, .int 0 0, .ref 100, .int 64 0, .int 0 0, .ref 107, .int 69 0, .int 0 0, .ref 114, .int 86 0, .int 0 0, .ref 121, .int 100 0, .int 0 0, .ref 128, .int 108 0, .int 0 0, .ref 135] }
noncomputable def hdO70 (P : Params) : Obj := { cls := .type "tuple", data := Data.seq #[.str "C" 277] }
noncomputable def hdO71 (P : Params) : Obj := fnP (stmtAt 7) "_abc_plain_meta"
noncomputable def hdO72 (P : Params) : Obj := { cls := .type "code", data := Data.fields #[.str "_abc_plain_meta" 274, .str "_abc_plain_meta" 275, .str "/claim/cut.py" 276, .int 31 0, .int 1 0, .int 0 0, .int 0 0, .int 3 0, .ref 81, .bool true, .int 181 0, .ref 82, .none, .ref 83, .ref 84, .ref 85, .int 278 0, .int 31 0, .str "/claim/cut.py" 279] }
noncomputable def hdO73 (P : Params) : Obj := fnO (stmtAt 7) "_abc_plain_meta" "collections.abc" 231 86
noncomputable def hdO77 (P : Params) : Obj := { cls := .type "tuple", data := Data.seq #[.str "path" 286, .str "kind" 287, .str "hook" 288, .str "given" 289] }
noncomputable def hdO78 (P : Params) : Obj := fnP (stmtAt 9) "fspath"
noncomputable def hdO79 (P : Params) : Obj := { cls := .type "code", data := Data.fields #[.str "fspath" 283, .str "fspath" 284, .str "/claim/cut.py" 285, .int 35 0, .int 1 0, .int 0 0, .int 0 0, .int 3 0, .ref 88, .bool true, .int 181 0, .ref 89, .none, .ref 90, .ref 91, .ref 92, .int 290 0, .int 35 0, .str "/claim/cut.py" 291] }
noncomputable def hdO80 (P : Params) : Obj := fnO (stmtAt 9) "fspath" "os" 281 93
noncomputable def hdO84 (P : Params) : Obj := { cls := .type "tuple", data := Data.seq #[.str "funcname" 298, .str "args" 299, .str "hasstr" 300, .str "hasbytes" 301, .str "s" 302] }
noncomputable def hdO85 (P : Params) : Obj := fnP (stmtAt 11) "_check_arg_types"
noncomputable def hdO86 (P : Params) : Obj := { cls := .type "code", data := Data.fields #[.str "_check_arg_types" 295, .str "_check_arg_types" 296, .str "/claim/cut.py" 297, .int 52 0, .int 1 0, .int 0 0, .int 0 0, .int 7 0, .ref 95, .bool true, .int 181 0, .ref 96, .none, .ref 97, .ref 98, .ref 99, .int 303 0, .int 52 0, .str "/claim/cut.py" 304] }
noncomputable def hdO87 (P : Params) : Obj := fnO (stmtAt 11) "_check_arg_types" "cpy313.genericpath" 293 100
noncomputable def hdO91 (P : Params) : Obj := { cls := .type "tuple", data := Data.seq #[.str "path" 311] }
noncomputable def hdO92 (P : Params) : Obj := fnP (stmtAt 13) "_get_sep"
noncomputable def hdO93 (P : Params) : Obj := { cls := .type "code", data := Data.fields #[.str "_get_sep" 308, .str "_get_sep" 309, .str "/claim/cut.py" 310, .int 64 0, .int 1 0, .int 0 0, .int 0 0, .int 3 0, .ref 102, .bool true, .int 181 0, .ref 103, .none, .ref 104, .ref 105, .ref 106, .int 312 0, .int 64 0, .str "/claim/cut.py" 313] }
noncomputable def hdO94 (P : Params) : Obj := fnO (stmtAt 13) "_get_sep" "cpy313.posixpath" 306 107
noncomputable def hdO97 (P : Params) : Obj := { cls := .type "tuple", data := Data.seq #[.str "a" 318, .str "p" 319, .str "sep" 320, .str "path" 321, .str "b" 322] }
noncomputable def hdO98 (P : Params) : Obj := fnP (stmtAt 14) "join"
noncomputable def hdO99 (P : Params) : Obj := { cls := .type "code", data := Data.fields #[.str "join" 315, .str "join" 316, .str "/claim/cut.py" 317, .int 69 0, .int 1 0, .int 0 0, .int 0 0, .int 7 0, .ref 109, .bool true, .int 181 0, .ref 110, .none, .ref 111, .ref 112, .ref 113, .int 323 0, .int 69 0, .str "/claim/cut.py" 324] }
noncomputable def hdO100 (P : Params) : Obj := fnO (stmtAt 14) "join" "cpy313.posixpath" 306 114
noncomputable def hdO103 (P : Params) : Obj := { cls := .type "tuple", data := Data.seq #[.str "p" 329, .str "sep" 330, .str "empty" 331] }
noncomputable def hdO104 (P : Params) : Obj := fnP (stmtAt 15) "splitroot"
noncomputable def hdO105 (P : Params) : Obj := { cls := .type "code", data := Data.fields #[.str "splitroot" 326, .str "splitroot" 327, .str "/claim/cut.py" 328, .int 86 0, .int 1 0, .int 0 0, .int 0 0, .int 3 0, .ref 116, .bool true, .int 181 0, .ref 117, .none, .ref 118, .ref 119, .ref 120, .int 332 0, .int 86 0, .str "/claim/cut.py" 333] }
noncomputable def hdO106 (P : Params) : Obj := fnO (stmtAt 15) "splitroot" "cpy313.posixpath" 306 121
noncomputable def hdO109 (P : Params) : Obj := { cls := .type "tuple", data := Data.seq #[.str "p" 338, .str "sep" 339, .str "i" 340, .str "head" 341] }
noncomputable def hdO110 (P : Params) : Obj := fnP (stmtAt 16) "dirname"
noncomputable def hdO111 (P : Params) : Obj := { cls := .type "code", data := Data.fields #[.str "dirname" 335, .str "dirname" 336, .str "/claim/cut.py" 337, .int 100 0, .int 1 0, .int 0 0, .int 0 0, .int 3 0, .ref 123, .bool true, .int 181 0, .ref 124, .none, .ref 125, .ref 126, .ref 127, .int 342 0, .int 100 0, .str "/claim/cut.py" 343] }
noncomputable def hdO112 (P : Params) : Obj := fnO (stmtAt 16) "dirname" "cpy313.posixpath" 306 128
noncomputable def hdO115 (P : Params) : Obj := { cls := .type "tuple", data := Data.seq #[.str "path" 348, .str "sep" 349, .str "dot" 350, .str "dotdot" 351, .str "_" 352, .str "initial_slashes" 353, .str "comps" 354, .str "new_comps" 355, .str "comp" 356] }
noncomputable def hdO116 (P : Params) : Obj := fnP (stmtAt 17) "normpath"
noncomputable def hdO117 (P : Params) : Obj := { cls := .type "code", data := Data.fields #[.str "normpath" 345, .str "normpath" 346, .str "/claim/cut.py" 347, .int 108 0, .int 1 0, .int 0 0, .int 0 0, .int 3 0, .ref 130, .bool true, .int 181 0, .ref 131, .none, .ref 132, .ref 133, .ref 134, .int 357 0, .int 108 0, .str "/claim/cut.py" 358] }
noncomputable def hdO118 (P : Params) : Obj := fnO (stmtAt 17) "normpath" "cpy313.posixpath" 306 135
noncomputable def hdO153 (P : Params) : Obj := { cls := .type "dict", data := Data.dict #[hdK P "__name__" 165 (.str "itertools" 411), hdK P "__doc__" 166 (.none), hdK P "__package__" 167 (.none), hdK P "__loader__" 168 (.builtin "__main__.__loader__#opaque"), hdK P "__spec__" 169 (.none), hdK P "__annotations__" 170 (.ref 6), hdK P "__builtins__" 171 (.ref 4), hdK P "__file__" 173 (.str "/claim/cut.py" 172), hdK P "__cached__" 174 (.none), hdK P "_wall" 193 (.ref 21), hdK P "_plain_name" 204 (.ref 28), hdK P "ABCMeta" 230 (.ref 45), hdK P "_ABCLike" 273 (.ref 78), hdK P "_abc_plain_meta" 280 (.ref 87), hdK P "fspath" 292 (.ref 94), hdK P "_check_arg_types" 305 (.ref 101), hdK P "_get_sep" 314 (.ref 108), hdK P "join" 325 (.ref 115), hdK P "splitroot" 334 (.ref 122), hdK P "dirname" 344 (.ref 129), hdK P "normpath" 359 (.ref 136), hdK P "commonpath" 365 (.ref 141), hdK P "sep" 369 (.str "/" 368), hdK P "_kind" 378 (.ref 148), hdK P "_fspath" 387 (.ref 155), hdK P "split" 398 (.ref 162), hdK P "_ancestry" 408 (.ref 169), hdK P "_dedupe" 410 (.ref 170)] 28 }
noncomputable def hdO146 (P : Params) : Obj := { cls := .none, data := Data.fields #[.int 1 0, .int 0 0, .ref 20, .int 5 0, .int 0 0, .ref 27, .int 11 0, .int 0 0, .ref 34, .int 16 0, .int 0 0, .ref 53, .int 31 0, .int 0 0, .ref 86, .int 35 0, .int 0 0, .ref 93, .int 52 0, .int 0 0, .ref 100, .int 64 0, .int 0 0, .ref 107, .int 69 0, .int 0 0, .ref 114, .int 86 0, .int 0 0, .ref 121, .int 100 0, .int 0 0, .ref 128, .int 108 0, .int 0 0, .ref 135, .int 133 0, .int 0 0, .ref 140, .int 164 0, .int 0 0, .ref 147, .int 185 0, .int 0 0, .ref 154, .int 190 0, .int 0 0, .ref 161, .int 199 0, .int 0 0, .ref 168] }
noncomputable def hdO121 (P : Params) : Obj := fnP (stmtAt 18) "commonpath"
noncomputable def hdO122 (P : Params) : Obj := { cls := .type "code", data := Data.fields #[.str "commonpath" 360, .str "commonpath" 361, .str "/claim/cut.py" 362, .int 133 0, .int 1 0, .int 0 0, .int 0 0, .int 3 0, .ref 137, .bool true, .int 181 0, .ref 138, .none, .none, .none, .ref 139, .int 363 0, .int 133 0, .str "/claim/cut.py" 364] }
noncomputable def hdO123 (P : Params) : Obj := fnO (stmtAt 18) "commonpath" "cpy313.posixpath" 306 140
noncomputable def hdO128 (P : Params) : Obj := { cls := .type "tuple", data := Data.seq #[.str "name" 373, .str "x" 374, .str "t" 375] }
noncomputable def hdO129 (P : Params) : Obj := fnP (stmtAt 21) "_kind"
noncomputable def hdO130 (P : Params) : Obj := { cls := .type "code", data := Data.fields #[.str "_kind" 370, .str "_kind" 371, .str "/claim/cut.py" 372, .int 164 0, .int 2 0, .int 0 0, .int 0 0, .int 3 0, .ref 142, .bool true, .int 181 0, .ref 143, .none, .ref 144, .ref 145, .ref 146, .int 376 0, .int 164 0, .str "/claim/cut.py" 377] }
noncomputable def hdO131 (P : Params) : Obj := fnO (stmtAt 21) "_kind" "posixpath" 366 147
noncomputable def hdO134 (P : Params) : Obj := { cls := .type "tuple", data := Data.seq #[.str "name" 382, .str "x" 383, .str "k" 384] }
noncomputable def hdO135 (P : Params) : Obj := fnP (stmtAt 22) "_fspath"
noncomputable def hdO136 (P : Params) : Obj := { cls := .type "code", data := Data.fields #[.str "_fspath" 379, .str "_fspath" 380, .str "/claim/cut.py" 381, .int 185 0, .int 2 0, .int 0 0, .int 0 0, .int 3 0, .ref 149, .bool true, .int 181 0, .ref 150, .none, .ref 151, .ref 152, .ref 153, .int 385 0, .int 185 0, .str "/claim/cut.py" 386] }
noncomputable def hdO137 (P : Params) : Obj := fnO (stmtAt 22) "_fspath" "posixpath" 366 154
noncomputable def hdO140 (P : Params) : Obj := { cls := .type "tuple", data := Data.seq #[.str "p" 391, .str "sep" 392, .str "i" 393, .str "head" 394, .str "tail" 395] }
noncomputable def hdO141 (P : Params) : Obj := fnP (stmtAt 23) "split"
noncomputable def hdO142 (P : Params) : Obj := { cls := .type "code", data := Data.fields #[.str "split" 388, .str "split" 389, .str "/claim/cut.py" 390, .int 190 0, .int 1 0, .int 0 0, .int 0 0, .int 3 0, .ref 156, .bool true, .int 181 0, .ref 157, .none, .ref 158, .ref 159, .ref 160, .int 396 0, .int 190 0, .str "/claim/cut.py" 397] }
noncomputable def hdO143 (P : Params) : Obj := fnO (stmtAt 23) "split" "posixpath" 366 161
noncomputable def hdO147 (P : Params) : Obj := { cls := .type "tuple", data := Data.seq #[.str "path" 404, .str "tail" 405] }
noncomputable def hdO148 (P : Params) : Obj := fnP (stmtAt 25) "_ancestry"
noncomputable def hdO149 (P : Params) : Obj := { cls := .type "code", data := Data.fields #[.str "_ancestry" 401, .str "_ancestry" 402, .str "/claim/cut.py" 403, .int 199 0, .int 1 0, .int 0 0, .int 0 0, .int 35 0, .ref 163, .bool true, .int 181 0, .ref 164, .none, .ref 165, .ref 166, .ref 167, .int 406 0, .int 199 0, .str "/claim/cut.py" 407] }
noncomputable def hdO150 (P : Params) : Obj := fnO (stmtAt 25) "_ancestry" "cpy313.zipfile._path" 399 168
noncomputable def hdO152 (P : Params) : Obj := { cls := .type "builtin_function_or_method", data := Data.fields #[.builtin "dict.fromkeys", .type "dict"] }
noncomputable def hdO154 (P : Params) : Obj := { cls := .type "dict", data := Data.dict #[hdK P "__name__" 165 (.str "itertools" 411), hdK P "__doc__" 166 (.none), hdK P "__package__" 167 (.none), hdK P "__loader__" 168 (.builtin "__main__.__loader__#opaque"), hdK P "__spec__" 169 (.none), hdK P "__annotations__" 170 (.ref 6), hdK P "__builtins__" 171 (.ref 4), hdK P "__file__" 173 (.str "/claim/cut.py" 172), hdK P "__cached__" 174 (.none), hdK P "_wall" 193 (.ref 21), hdK P "_plain_name" 204 (.ref 28), hdK P "ABCMeta" 230 (.ref 45), hdK P "_ABCLike" 273 (.ref 78), hdK P "_abc_plain_meta" 280 (.ref 87), hdK P "fspath" 292 (.ref 94), hdK P "_check_arg_types" 305 (.ref 101), hdK P "_get_sep" 314 (.ref 108), hdK P "join" 325 (.ref 115), hdK P "splitroot" 334 (.ref 122), hdK P "dirname" 344 (.ref 129), hdK P "normpath" 359 (.ref 136), hdK P "commonpath" 365 (.ref 141), hdK P "sep" 369 (.str "/" 368), hdK P "_kind" 378 (.ref 148), hdK P "_fspath" 387 (.ref 155), hdK P "split" 398 (.ref 162), hdK P "_ancestry" 408 (.ref 169), hdK P "_dedupe" 410 (.ref 170), hdK P "filterfalse" 462 (.ref 203)] 29 }
noncomputable def hdO155 (P : Params) : Obj := { cls := .none, data := Data.fields #[.int 1 0, .int 0 0, .ref 20, .int 5 0, .int 0 0, .ref 27, .int 11 0, .int 0 0, .ref 34, .int 16 0, .int 0 0, .ref 53, .int 31 0, .int 0 0, .ref 86, .int 35 0, .int 0 0, .ref 93, .int 52 0, .int 0 0, .ref 100, .int 64 0, .int 0 0, .ref 107, .int 69 0, .int 0 0, .ref 114, .int 86 0, .int 0 0, .ref 121, .int 100 0, .int 0 0, .ref 128, .int 108 0, .int 0 0, .ref 135, .int 133 0, .int 0 0, .ref 140, .int 164 0, .int 0 0, .ref 147, .int 185 0, .int 0 0, .ref 154, .int 190 0, .int 0 0, .ref 161, .int 199 0, .int 0 0, .ref 168, .int 206 0, .int 0 0, .ref 176] }
noncomputable def hdO156 (P : Params) : Obj := { cls := .type "dict", data := Data.dict #[hdK P "__module__" 420 (.str "itertools" 411), hdK P "__qualname__" 422 (.str "filterfalse" 421), hdK P "__firstlineno__" 424 (.int 206 423), hdK P "__slots__" 427 (.ref 178), hdK P "__init__" 436 (.ref 185), hdK P "__iter__" 443 (.ref 192), hdK P "__next__" 452 (.ref 199), hdK P "__static_attributes__" 455 (.ref 200)] 8 }
noncomputable def hdO157 (P : Params) : Obj := { cls := .none, data := Data.fields #[.int 209 0, .int 4 0, .ref 184, .int 213 0, .int 4 0, .ref 191, .int 216 0, .int 4 0, .ref 198] }
noncomputable def hdO158 (P : Params) : Obj := { cls := .type "code", data := Data.fields #[.str "filterfalse" 415, .str "filterfalse" 416, .str "/claim/cut.py" 417, .int 206 0, .int 0 0, .int 0 0, .int 0 0, .int 0 0, .ref 174, .bool false, .int 181 0, .ref 175, .none, .none, .none, .none, .int 418 0, .int 206 0, .str "/claim/cut.py" 419] }
noncomputable def hdO159 (P : Params) : Obj := { cls := .type "frame", slots := #[some (.ref 176), some (.ref 3), some (.ref 173), none, some (.str "itertools" 411), none, some (.ref 0)] }
noncomputable def hdO160 (P : Params) : Obj := { cls := .type "tuple", data := Data.seq #[.str "_it" 425, .str "_func" 426] }
noncomputable def hdO161 (P : Params) : Obj := { cls := .type "tuple", data := Data.seq #[.str "self" 431, .str "function" 432, .str "iterable" 433] }
noncomputable def hdO162 (P : Params) : Obj := fnP (methAt 28 1) "filterfalse.__init__"
noncomputable def hdO163 (P : Params) : Obj := { cls := .type "code", data := Data.fields #[.str "__init__" 428, .str "filterfalse.__init__" 429, .str "/claim/cut.py" 430, .int 209 0, .int 3 0, .int 3 0, .int 0 0, .int 3 0, .ref 179, .bool true, .int 181 0, .ref 180, .none, .ref 181, .ref 182, .ref 183, .int 434 0, .int 209 0, .str "/claim/cut.py" 435] }
noncomputable def hdO164 (P : Params) : Obj := fnO (methAt 28 1) "filterfalse.__init__" "itertools" 411 184
noncomputable def hdO165 (P : Params) : Obj := { cls := .type "tuple", data := Data.seq #[.str "self" 440] }
noncomputable def hdO166 (P : Params) : Obj := fnP (methAt 28 2) "filterfalse.__iter__"
noncomputable def hdO167 (P : Params) : Obj := { cls := .type "code", data := Data.fields #[.str "__iter__" 437, .str "filterfalse.__iter__" 438, .str "/claim/cut.py" 439, .int 213 0, .int 1 0, .int 0 0, .int 0 0, .int 3 0, .ref 186, .bool true, .int 181 0, .ref 187, .none, .ref 188, .ref 189, .ref 190, .int 441 0, .int 213 0, .str "/claim/cut.py" 442] }
noncomputable def hdO168 (P : Params) : Obj := fnO (methAt 28 2) "filterfalse.__iter__" "itertools" 411 191
noncomputable def hdO169 (P : Params) : Obj := { cls := .type "tuple", data := Data.seq #[.str "self" 447, .str "func" 448, .str "item" 449] }
noncomputable def hdO170 (P : Params) : Obj := fnP (methAt 28 3) "filterfalse.__next__"
noncomputable def hdO171 (P : Params) : Obj := { cls := .type "code", data := Data.fields #[.str "__next__" 444, .str "filterfalse.__next__" 445, .str "/claim/cut.py" 446, .int 216 0, .int 1 0, .int 0 0, .int 0 0, .int 3 0, .ref 193, .bool true, .int 181 0, .ref 194, .none, .ref 195, .ref 196, .ref 197, .int 450 0, .int 216 0, .str "/claim/cut.py" 451] }
noncomputable def hdO172 (P : Params) : Obj := fnO (methAt 28 3) "filterfalse.__next__" "itertools" 411 198
noncomputable def hdO173 (P : Params) : Obj := { cls := .type "tuple", data := Data.seq #[.str "_func" 453, .str "_it" 454] }
noncomputable def hdO174 (P : Params) : Obj := { cls := .type "list", data := Data.seq #[.str "_it" 425, .str "_func" 426] 1 }
noncomputable def hdO175 (P : Params) : Obj := { cls := .type "dict", data := Data.dict #[hdK P "__module__" 420 (.str "itertools" 411), hdK P "__firstlineno__" 424 (.int 206 423), hdK P "__slots__" 427 (.ref 178), hdK P "__init__" 436 (.ref 185), hdK P "__iter__" 443 (.ref 192), hdK P "__next__" 452 (.ref 199), hdK P "__static_attributes__" 455 (.ref 200), hdK P "_func" 457 (.ref 204), hdK P "_it" 459 (.ref 205), hdK P "__doc__" 460 (.none)] 4 }
noncomputable def hdO176 (P : Params) : Obj := { cls := .type "type", data := Data.cls { name := "filterfalse", bases := [.type "object"], mro := [.ref 203, .type "object"], ns := 202, qualname := "filterfalse", hasDict := false, slotNames := ["_func", "_it"] }, slots := #[none, none, some (.str "filterfalse" 413), some (.str "filterfalse" 421), some (.builtin "object.__new__"), some (.bool false)] }
noncomputable def hdO177 (P : Params) : Obj := { cls := .type "member_descriptor", data := Data.fields #[.str "_func" 456, .ref 203, .builtin "proto.slot", .builtin "proto.slot#set", .int 1 0] }
noncomputable def hdO178 (P : Params) : Obj := { cls := .type "member_descriptor", data := Data.fields #[.str "_it" 458, .ref 203, .builtin "proto.slot", .builtin "proto.slot#set", .int 0 0] }
noncomputable def hdO179 (P : Params) : Obj := { cls := .type "super", data := Data.fields #[.ref 203, .ref 203, .ref 203] }
noncomputable def hdO180 (P : Params) : Obj := { cls := .type "builtin_function_or_method", data := Data.fields #[.builtin "object.__init_subclass__", .ref 203] }
noncomputable def hdO206 (P : Params) : Obj := { cls := .type "dict", data := Data.dict #[hdK P "__name__" 165 (.str "law_il0207_01" 473), hdK P "__doc__" 166 (.none), hdK P "__package__" 167 (.none), hdK P "__loader__" 168 (.builtin "__main__.__loader__#opaque"), hdK P "__spec__" 169 (.none), hdK P "__annotations__" 170 (.ref 6), hdK P "__builtins__" 171 (.ref 4), hdK P "__file__" 173 (.str "/claim/cut.py" 172), hdK P "__cached__" 174 (.none), hdK P "_wall" 193 (.ref 21), hdK P "_plain_name" 204 (.ref 28), hdK P "ABCMeta" 230 (.ref 45), hdK P "_ABCLike" 273 (.ref 78), hdK P "_abc_plain_meta" 280 (.ref 87), hdK P "fspath" 292 (.ref 94), hdK P "_check_arg_types" 305 (.ref 101), hdK P "_get_sep" 314 (.ref 108), hdK P "join" 325 (.ref 115), hdK P "splitroot" 334 (.ref 122), hdK P "dirname" 344 (.ref 129), hdK P "normpath" 359 (.ref 136), hdK P "commonpath" 365 (.ref 141), hdK P "sep" 369 (.str "/" 368), hdK P "_kind" 378 (.ref 148), hdK P "_fspath" 387 (.ref 155), hdK P "split" 398 (.ref 162), hdK P "_ancestry" 408 (.ref 169), hdK P "_dedupe" 410 (.ref 170), hdK P "filterfalse" 462 (.ref 203), hdK P "_difference" 472 (.ref 214), hdK P "_law_row" 483 (.ref 221), hdK P "_law_told" 489 (.ref 226), hdK P "_law_climbed" 498 (.ref 233), hdK P "law" 504 (.ref 238)] 34 }
noncomputable def hdO207 (P : Params) : Obj := { cls := .none, data := Data.fields #[.int 1 0, .int 0 0, .ref 20, .int 5 0, .int 0 0, .ref 27, .int 11 0, .int 0 0, .ref 34, .int 16 0, .int 0 0, .ref 53, .int 31 0, .int 0 0, .ref 86, .int 35 0, .int 0 0, .ref 93, .int 52 0, .int 0 0, .ref 100, .int 64 0, .int 0 0, .ref 107, .int 69 0, .int 0 0, .ref 114, .int 86 0, .int 0 0, .ref 121, .int 100 0, .int 0 0, .ref 128, .int 108 0, .int 0 0, .ref 135, .int 133 0, .int 0 0, .ref 140, .int 164 0, .int 0 0, .ref 147, .int 185 0, .int 0 0, .ref 154, .int 190 0, .int 0 0, .ref 161, .int 199 0, .int 0 0, .ref 168, .int 206 0, .int 0 0, .ref 176, .int 226 0, .int 0 0, .ref 213, .int 229 0, .int 0 0, .ref 220, .int 237 0, .int 0 0, .ref 225, .int 247 0, .int 0 0, .ref 232, .int 252 0, .int 0 0, .ref 237] }
noncomputable def hdO184 (P : Params) : Obj := { cls := .type "tuple", data := Data.seq #[.str "minuend" 468, .str "subtrahend" 469] }
noncomputable def hdO185 (P : Params) : Obj := fnP (stmtAt 30) "_difference"
noncomputable def hdO186 (P : Params) : Obj := { cls := .type "code", data := Data.fields #[.str "_difference" 465, .str "_difference" 466, .str "/claim/cut.py" 467, .int 226 0, .int 2 0, .int 0 0, .int 0 0, .int 3 0, .ref 208, .bool true, .int 181 0, .ref 209, .none, .ref 210, .ref 211, .ref 212, .int 470 0, .int 226 0, .str "/claim/cut.py" 471] }
noncomputable def hdO187 (P : Params) : Obj := fnO (stmtAt 30) "_difference" "cpy313.zipfile._path" 463 213
noncomputable def hdO191 (P : Params) : Obj := { cls := .type "tuple", data := Data.seq #[.str "text" 478, .str "row" 479, .str "piece" 480] }
noncomputable def hdO192 (P : Params) : Obj := fnP (stmtAt 32) "_law_row"
noncomputable def hdO193 (P : Params) : Obj := { cls := .type "code", data := Data.fields #[.str "_law_row" 475, .str "_law_row" 476, .str "/claim/cut.py" 477, .int 229 0, .int 1 0, .int 0 0, .int 0 0, .int 3 0, .ref 215, .bool true, .int 181 0, .ref 216, .none, .ref 217, .ref 218, .ref 219, .int 481 0, .int 229 0, .str "/claim/cut.py" 482] }
noncomputable def hdO194 (P : Params) : Obj := fnO (stmtAt 32) "_law_row" "law_il0207_01" 473 220
noncomputable def hdO197 (P : Params) : Obj := fnP (stmtAt 33) "_law_told"
noncomputable def hdO198 (P : Params) : Obj := { cls := .type "code", data := Data.fields #[.str "_law_told" 484, .str "_law_told" 485, .str "/claim/cut.py" 486, .int 237 0, .int 2 0, .int 0 0, .int 0 0, .int 3 0, .ref 222, .bool true, .int 181 0, .ref 223, .none, .none, .none, .ref 224, .int 487 0, .int 237 0, .str "/claim/cut.py" 488] }
noncomputable def hdO199 (P : Params) : Obj := fnO (stmtAt 33) "_law_told" "law_il0207_01" 473 225
noncomputable def hdO202 (P : Params) : Obj := { cls := .type "tuple", data := Data.seq #[.str "place" 493, .str "stay" 494, .str "k" 495] }
noncomputable def hdO203 (P : Params) : Obj := fnP (stmtAt 34) "_law_climbed"
noncomputable def hdO204 (P : Params) : Obj := { cls := .type "code", data := Data.fields #[.str "_law_climbed" 490, .str "_law_climbed" 491, .str "/claim/cut.py" 492, .int 247 0, .int 2 0, .int 0 0, .int 0 0, .int 3 0, .ref 227, .bool true, .int 181 0, .ref 228, .none, .ref 229, .ref 230, .ref 231, .int 496 0, .int 247 0, .str "/claim/cut.py" 497] }
noncomputable def hdO205 (P : Params) : Obj := fnO (stmtAt 34) "_law_climbed" "law_il0207_01" 473 232
noncomputable def hdO208 (P : Params) : Obj := fnP (stmtAt 35) "law"
noncomputable def hdO209 (P : Params) : Obj := { cls := .type "code", data := Data.fields #[.str "law" 499, .str "law" 500, .str "/claim/cut.py" 501, .int 252 0, .int 1 0, .int 0 0, .int 0 0, .int 3 0, .ref 234, .bool true, .int 181 0, .ref 235, .none, .none, .none, .ref 236, .int 502 0, .int 252 0, .str "/claim/cut.py" 503] }
noncomputable def hdO210 (P : Params) : Obj := fnO (stmtAt 35) "law" "law_il0207_01" 473 237
noncomputable def hdH_pre (P : Params) : Heap := ⟨Array.mk [boot_o_0 P, boot_o_1 P, boot_o_2 P, boot_o_3 P, boot_o_4 P, boot_o_5 P, boot_o_6 P, boot_o_7 P, boot_o_8 P, boot_o_9 P, boot_o_10 P, boot_o_7 P, boot_o_8 P, hdO11 P, hdO12 P], {}⟩
noncomputable def hdH_p4 (P : Params) : Heap := ⟨Array.mk [boot_o_0 P, boot_o_1 P, boot_o_2 P, hdO27 P, boot_o_4 P, boot_o_5 P, boot_o_6 P, boot_o_7 P, boot_o_8 P, boot_o_9 P, boot_o_10 P, boot_o_7 P, hdO28 P, hdO11 P, hdO12 P, boot_o_7 P, boot_o_8 P, hdO15 P, boot_o_7 P, hdO16 P, hdO17 P, hdO18 P, boot_o_7 P, boot_o_8 P, hdO22 P, boot_o_7 P, hdO23 P, hdO24 P, hdO25 P, hdO29 P, hdO30 P, hdO31 P, boot_o_7 P, hdO32 P, hdO33 P, hdO34 P, boot_o_7 P, boot_o_8 P, hdO35 P, boot_o_7 P, hdO36 P, hdO37 P, hdO38 P, boot_o_7 P, hdO39 P, hdO40 P, hdO41 P, hdO42 P], {}⟩
noncomputable def hdH_p6 (P : Params) : Heap := ⟨Array.mk [boot_o_0 P, boot_o_1 P, boot_o_2 P, hdO44 P, boot_o_4 P, boot_o_5 P, boot_o_6 P, boot_o_7 P, boot_o_8 P, boot_o_9 P, boot_o_10 P, boot_o_7 P, hdO45 P, hdO11 P, hdO12 P, boot_o_7 P, boot_o_8 P, hdO15 P, boot_o_7 P, hdO16 P, hdO17 P, hdO18 P, boot_o_7 P, boot_o_8 P, hdO22 P, boot_o_7 P, hdO23 P, hdO24 P, hdO25 P, hdO29 P, hdO30 P, hdO31 P, boot_o_7 P, hdO32 P, hdO33 P, hdO34 P, boot_o_7 P, boot_o_8 P, hdO35 P, boot_o_7 P, hdO36 P, hdO37 P, hdO38 P, boot_o_7 P, hdO39 P, hdO46 P, hdO41 P, hdO42 P, hdO47 P, hdO30 P, hdO48 P, boot_o_7 P, hdO49 P, hdO50 P, hdO51 P, boot_o_7 P, boot_o_8 P, hdO52 P, boot_o_7 P, hdO53 P, hdO54 P, hdO55 P, boot_o_7 P, boot_o_8 P, hdO56 P, boot_o_7 P, hdO57 P, hdO58 P, hdO59 P, boot_o_7 P, boot_o_8 P, hdO60 P, boot_o_7 P, hdO61 P, hdO62 P, hdO63 P, boot_o_7 P, hdO64 P, hdO65 P, hdO66 P, hdO67 P], {}⟩
noncomputable def hdH_p17 (P : Params) : Heap := ⟨Array.mk [boot_o_0 P, boot_o_1 P, boot_o_2 P, hdO113 P, boot_o_4 P, boot_o_5 P, boot_o_6 P, boot_o_7 P, boot_o_8 P, boot_o_9 P, boot_o_10 P, boot_o_7 P, hdO114 P, hdO11 P, hdO12 P, boot_o_7 P, boot_o_8 P, hdO15 P, boot_o_7 P, hdO16 P, hdO17 P, hdO18 P, boot_o_7 P, boot_o_8 P, hdO22 P, boot_o_7 P, hdO23 P, hdO24 P, hdO25 P, hdO29 P, hdO30 P, hdO31 P, boot_o_7 P, hdO32 P, hdO33 P, hdO34 P, boot_o_7 P, boot_o_8 P, hdO35 P, boot_o_7 P, hdO36 P, hdO37 P, hdO38 P, boot_o_7 P, hdO39 P, hdO46 P, hdO41 P, hdO42 P, hdO47 P, hdO30 P, hdO48 P, boot_o_7 P, hdO49 P, hdO50 P, hdO51 P, boot_o_7 P, boot_o_8 P, hdO52 P, boot_o_7 P, hdO53 P, hdO54 P, hdO55 P, boot_o_7 P, boot_o_8 P, hdO56 P, boot_o_7 P, hdO57 P, hdO58 P, hdO59 P, boot_o_7 P, boot_o_8 P, hdO60 P, boot_o_7 P, hdO61 P, hdO62 P, hdO63 P, boot_o_7 P, hdO64 P, hdO65 P, hdO66 P, hdO67 P, boot_o_7 P, boot_o_8 P, hdO70 P, boot_o_7 P, hdO71 P, hdO72 P, hdO73 P, boot_o_7 P, boot_o_8 P, hdO77 P, boot_o_7 P, hdO78 P, hdO79 P, hdO80 P, boot_o_7 P, boot_o_8 P, hdO84 P, boot_o_7 P, hdO85 P, hdO86 P, hdO87 P, boot_o_7 P, boot_o_8 P, hdO91 P, boot_o_7 P, hdO92 P, hdO93 P, hdO94 P, boot_o_7 P, boot_o_8 P, hdO97 P, boot_o_7 P, hdO98 P, hdO99 P, hdO100 P, boot_o_7 P, boot_o_8 P, hdO103 P, boot_o_7 P, hdO104 P, hdO105 P, hdO106 P, boot_o_7 P, boot_o_8 P, hdO109 P, boot_o_7 P, hdO110 P, hdO111 P, hdO112 P, boot_o_7 P, boot_o_8 P, hdO115 P, boot_o_7 P, hdO116 P, hdO117 P, hdO118 P], {}⟩
noncomputable def hdH_p27 (P : Params) : Heap := ⟨Array.mk [boot_o_0 P, boot_o_1 P, boot_o_2 P, hdO153 P, boot_o_4 P, boot_o_5 P, boot_o_6 P, boot_o_7 P, boot_o_8 P, boot_o_9 P, boot_o_10 P, boot_o_7 P, hdO146 P, hdO11 P, hdO12 P, boot_o_7 P, boot_o_8 P, hdO15 P, boot_o_7 P, hdO16 P, hdO17 P, hdO18 P, boot_o_7 P, boot_o_8 P, hdO22 P, boot_o_7 P, hdO23 P, hdO24 P, hdO25 P, hdO29 P, hdO30 P, hdO31 P, boot_o_7 P, hdO32 P, hdO33 P, hdO34 P, boot_o_7 P, boot_o_8 P, hdO35 P, boot_o_7 P, hdO36 P, hdO37 P, hdO38 P, boot_o_7 P, hdO39 P, hdO46 P, hdO41 P, hdO42 P, hdO47 P, hdO30 P, hdO48 P, boot_o_7 P, hdO49 P, hdO50 P, hdO51 P, boot_o_7 P, boot_o_8 P, hdO52 P, boot_o_7 P, hdO53 P, hdO54 P, hdO55 P, boot_o_7 P, boot_o_8 P, hdO56 P, boot_o_7 P, hdO57 P, hdO58 P, hdO59 P, boot_o_7 P, boot_o_8 P, hdO60 P, boot_o_7 P, hdO61 P, hdO62 P, hdO63 P, boot_o_7 P, hdO64 P, hdO65 P, hdO66 P, hdO67 P, boot_o_7 P, boot_o_8 P, hdO70 P, boot_o_7 P, hdO71 P, hdO72 P, hdO73 P, boot_o_7 P, boot_o_8 P, hdO77 P, boot_o_7 P, hdO78 P, hdO79 P, hdO80 P, boot_o_7 P, boot_o_8 P, hdO84 P, boot_o_7 P, hdO85 P, hdO86 P, hdO87 P, boot_o_7 P, boot_o_8 P, hdO91 P, boot_o_7 P, hdO92 P, hdO93 P, hdO94 P, boot_o_7 P, boot_o_8 P, hdO97 P, boot_o_7 P, hdO98 P, hdO99 P, hdO100 P, boot_o_7 P, boot_o_8 P, hdO103 P, boot_o_7 P, hdO104 P, hdO105 P, hdO106 P, boot_o_7 P, boot_o_8 P, hdO109 P, boot_o_7 P, hdO110 P, hdO111 P, hdO112 P, boot_o_7 P, boot_o_8 P, hdO115 P, boot_o_7 P, hdO116 P, hdO117 P, hdO118 P, boot_o_7 P, boot_o_8 P, hdO121 P, hdO122 P, hdO123 P, boot_o_7 P, boot_o_8 P, hdO128 P, boot_o_7 P, hdO129 P, hdO130 P, hdO131 P, boot_o_7 P, boot_o_8 P, hdO134 P, boot_o_7 P, hdO135 P, hdO136 P, hdO137 P, boot_o_7 P, boot_o_8 P, hdO140 P, boot_o_7 P, hdO141 P, hdO142 P, hdO143 P, boot_o_7 P, boot_o_8 P, hdO147 P, boot_o_7 P, hdO148 P, hdO149 P, hdO150 P, hdO152 P], {}⟩
noncomputable def hdH_p28 (P : Params) : Heap := ⟨Array.mk [boot_o_0 P, boot_o_1 P, boot_o_2 P, hdO154 P, boot_o_4 P, boot_o_5 P, boot_o_6 P, boot_o_7 P, boot_o_8 P, boot_o_9 P, boot_o_10 P, boot_o_7 P, hdO155 P, hdO11 P, hdO12 P, boot_o_7 P, boot_o_8 P, hdO15 P, boot_o_7 P, hdO16 P, hdO17 P, hdO18 P, boot_o_7 P, boot_o_8 P, hdO22 P, boot_o_7 P, hdO23 P, hdO24 P, hdO25 P, hdO29 P, hdO30 P, hdO31 P, boot_o_7 P, hdO32 P, hdO33 P, hdO34 P, boot_o_7 P, boot_o_8 P, hdO35 P, boot_o_7 P, hdO36 P, hdO37 P, hdO38 P, boot_o_7 P, hdO39 P, hdO46 P, hdO41 P, hdO42 P, hdO47 P, hdO30 P, hdO48 P, boot_o_7 P, hdO49 P, hdO50 P, hdO51 P, boot_o_7 P, boot_o_8 P, hdO52 P, boot_o_7 P, hdO53 P, hdO54 P, hdO55 P, boot_o_7 P, boot_o_8 P, hdO56 P, boot_o_7 P, hdO57 P, hdO58 P, hdO59 P, boot_o_7 P, boot_o_8 P, hdO60 P, boot_o_7 P, hdO61 P, hdO62 P, hdO63 P, boot_o_7 P, hdO64 P, hdO65 P, hdO66 P, hdO67 P, boot_o_7 P, boot_o_8 P, hdO70 P, boot_o_7 P, hdO71 P, hdO72 P, hdO73 P, boot_o_7 P, boot_o_8 P, hdO77 P, boot_o_7 P, hdO78 P, hdO79 P, hdO80 P, boot_o_7 P, boot_o_8 P, hdO84 P, boot_o_7 P, hdO85 P, hdO86 P, hdO87 P, boot_o_7 P, boot_o_8 P, hdO91 P, boot_o_7 P, hdO92 P, hdO93 P, hdO94 P, boot_o_7 P, boot_o_8 P, hdO97 P, boot_o_7 P, hdO98 P, hdO99 P, hdO100 P, boot_o_7 P, boot_o_8 P, hdO103 P, boot_o_7 P, hdO104 P, hdO105 P, hdO106 P, boot_o_7 P, boot_o_8 P, hdO109 P, boot_o_7 P, hdO110 P, hdO111 P, hdO112 P, boot_o_7 P, boot_o_8 P, hdO115 P, boot_o_7 P, hdO116 P, hdO117 P, hdO118 P, boot_o_7 P, boot_o_8 P, hdO121 P, hdO122 P, hdO123 P, boot_o_7 P, boot_o_8 P, hdO128 P, boot_o_7 P, hdO129 P, hdO130 P, hdO131 P, boot_o_7 P, boot_o_8 P, hdO134 P, boot_o_7 P, hdO135 P, hdO136 P, hdO137 P, boot_o_7 P, boot_o_8 P, hdO140 P, boot_o_7 P, hdO141 P, hdO142 P, hdO143 P, boot_o_7 P, boot_o_8 P, hdO147 P, boot_o_7 P, hdO148 P, hdO149 P, hdO150 P, hdO152 P, boot_o_7 P, hdO30 P, hdO156 P, boot_o_7 P, hdO157 P, hdO158 P, hdO159 P, hdO160 P, boot_o_7 P, boot_o_8 P, hdO161 P, boot_o_7 P, hdO162 P, hdO163 P, hdO164 P, boot_o_7 P, boot_o_8 P, hdO165 P, boot_o_7 P, hdO166 P, hdO167 P, hdO168 P, boot_o_7 P, boot_o_8 P, hdO169 P, boot_o_7 P, hdO170 P, hdO171 P, hdO172 P, hdO173 P, hdO174 P, hdO175 P, hdO176 P, hdO177 P, hdO178 P, hdO179 P, hdO180 P], {}⟩
noncomputable def hdH_p35 (P : Params) : Heap := ⟨Array.mk [boot_o_0 P, boot_o_1 P, boot_o_2 P, hdO206 P, boot_o_4 P, boot_o_5 P, boot_o_6 P, boot_o_7 P, boot_o_8 P, boot_o_9 P, boot_o_10 P, boot_o_7 P, hdO207 P, hdO11 P, hdO12 P, boot_o_7 P, boot_o_8 P, hdO15 P, boot_o_7 P, hdO16 P, hdO17 P, hdO18 P, boot_o_7 P, boot_o_8 P, hdO22 P, boot_o_7 P, hdO23 P, hdO24 P, hdO25 P, hdO29 P, hdO30 P, hdO31 P, boot_o_7 P, hdO32 P, hdO33 P, hdO34 P, boot_o_7 P, boot_o_8 P, hdO35 P, boot_o_7 P, hdO36 P, hdO37 P, hdO38 P, boot_o_7 P, hdO39 P, hdO46 P, hdO41 P, hdO42 P, hdO47 P, hdO30 P, hdO48 P, boot_o_7 P, hdO49 P, hdO50 P, hdO51 P, boot_o_7 P, boot_o_8 P, hdO52 P, boot_o_7 P, hdO53 P, hdO54 P, hdO55 P, boot_o_7 P, boot_o_8 P, hdO56 P, boot_o_7 P, hdO57 P, hdO58 P, hdO59 P, boot_o_7 P, boot_o_8 P, hdO60 P, boot_o_7 P, hdO61 P, hdO62 P, hdO63 P, boot_o_7 P, hdO64 P, hdO65 P, hdO66 P, hdO67 P, boot_o_7 P, boot_o_8 P, hdO70 P, boot_o_7 P, hdO71 P, hdO72 P, hdO73 P, boot_o_7 P, boot_o_8 P, hdO77 P, boot_o_7 P, hdO78 P, hdO79 P, hdO80 P, boot_o_7 P, boot_o_8 P, hdO84 P, boot_o_7 P, hdO85 P, hdO86 P, hdO87 P, boot_o_7 P, boot_o_8 P, hdO91 P, boot_o_7 P, hdO92 P, hdO93 P, hdO94 P, boot_o_7 P, boot_o_8 P, hdO97 P, boot_o_7 P, hdO98 P, hdO99 P, hdO100 P, boot_o_7 P, boot_o_8 P, hdO103 P, boot_o_7 P, hdO104 P, hdO105 P, hdO106 P, boot_o_7 P, boot_o_8 P, hdO109 P, boot_o_7 P, hdO110 P, hdO111 P, hdO112 P, boot_o_7 P, boot_o_8 P, hdO115 P, boot_o_7 P, hdO116 P, hdO117 P, hdO118 P, boot_o_7 P, boot_o_8 P, hdO121 P, hdO122 P, hdO123 P, boot_o_7 P, boot_o_8 P, hdO128 P, boot_o_7 P, hdO129 P, hdO130 P, hdO131 P, boot_o_7 P, boot_o_8 P, hdO134 P, boot_o_7 P, hdO135 P, hdO136 P, hdO137 P, boot_o_7 P, boot_o_8 P, hdO140 P, boot_o_7 P, hdO141 P, hdO142 P, hdO143 P, boot_o_7 P, boot_o_8 P, hdO147 P, boot_o_7 P, hdO148 P, hdO149 P, hdO150 P, hdO152 P, boot_o_7 P, hdO30 P, hdO156 P, boot_o_7 P, hdO157 P, hdO158 P, hdO159 P, hdO160 P, boot_o_7 P, boot_o_8 P, hdO161 P, boot_o_7 P, hdO162 P, hdO163 P, hdO164 P, boot_o_7 P, boot_o_8 P, hdO165 P, boot_o_7 P, hdO166 P, hdO167 P, hdO168 P, boot_o_7 P, boot_o_8 P, hdO169 P, boot_o_7 P, hdO170 P, hdO171 P, hdO172 P, hdO173 P, hdO174 P, hdO175 P, hdO176 P, hdO177 P, hdO178 P, hdO179 P, hdO180 P, boot_o_7 P, boot_o_8 P, hdO184 P, boot_o_7 P, hdO185 P, hdO186 P, hdO187 P, boot_o_7 P, boot_o_8 P, hdO191 P, boot_o_7 P, hdO192 P, hdO193 P, hdO194 P, boot_o_7 P, boot_o_8 P, hdO197 P, hdO198 P, hdO199 P, boot_o_7 P, boot_o_8 P, hdO202 P, boot_o_7 P, hdO203 P, hdO204 P, hdO205 P, boot_o_7 P, boot_o_8 P, hdO208 P, hdO209 P, hdO210 P], {}⟩
noncomputable def headK (P : Params) : Frag := [(3, hdO206 P), (93, hdO79 P), (94, hdO80 P), (107, hdO93 P), (108, hdO94 P), (114, hdO99 P), (115, hdO100 P), (121, hdO105 P), (122, hdO106 P), (128, hdO111 P), (129, hdO112 P), (135, hdO117 P), (136, hdO118 P), (140, hdO122 P), (141, hdO123 P), (147, hdO130 P), (148, hdO131 P), (154, hdO136 P), (155, hdO137 P), (161, hdO142 P), (162, hdO143 P), (168, hdO149 P), (169, hdO150 P), (170, hdO152 P), (184, hdO163 P), (185, hdO164 P), (191, hdO167 P), (192, hdO168 P), (198, hdO171 P), (199, hdO172 P), (202, hdO175 P), (203, hdO176 P), (204, hdO177 P), (205, hdO178 P), (213, hdO186 P), (214, hdO187 P), (220, hdO193 P), (221, hdO194 P), (225, hdO198 P), (226, hdO199 P), (232, hdO204 P), (233, hdO205 P), (237, hdO209 P), (238, hdO210 P)]
noncomputable abbrev headAs : List Addr := [3, 93, 94, 107, 108, 114, 115, 121, 122, 128, 129, 135, 136, 140, 141, 147, 148, 154, 155, 161, 162, 168, 169, 170, 184, 185, 191, 192, 198, 199, 202, 203, 204, 205, 213, 214, 220, 221, 225, 226, 232, 233, 237, 238]
noncomputable def headView : Program := { pw with main := { pw.main with body := [stmtAt 0, stmtAt 2, stmtAt 4, stmtAt 6, stmtAt 7, stmtAt 9, stmtAt 11, stmtAt 13, stmtAt 14, stmtAt 15, stmtAt 16, stmtAt 17, stmtAt 18, stmtAt 20, stmtAt 21, stmtAt 22, stmtAt 23, stmtAt 25, stmtAt 26, stmtAt 28, stmtAt 30, stmtAt 32, stmtAt 33, stmtAt 34, stmtAt 35] } }
noncomputable abbrev headH : Hook := kHook headK headAs (fun _ => by kernel_rfl)
noncomputable abbrev headR : OpenRow := PySem.Challenge.rw_il0207_01.row
noncomputable abbrev headX (s : Shared) : Bool := xlAt headView [] s && recOk (RowW.records headR.toRowW) s
noncomputable def hdBody : List Stmt := behindTheImports pw
noncomputable def hdEnv : Env := { scope := pw.main.scope, locals := mainNs, globals := mainNs, cells := [], code := .ref 13, frame := some 14 }
noncomputable def hdCode : Code := .body hdBody hdEnv
abbrev hdPos : Pos := { line := 0, col := 0, endLine := 0, endCol := 0 }
abbrev hdAt (H : Params → Heap) (k : Nat) (w : World) (os : OsState) : Shared := ⟨H w.params, Array.mk [], {}, k, os⟩
noncomputable def hdL0 : List Stmt := [stmtAt 0, stmtAt 1, stmtAt 2, stmtAt 3, stmtAt 4]
noncomputable def hdL1 : List Stmt := [stmtAt 5, stmtAt 6]
noncomputable def hdL2 : List Stmt := [stmtAt 7, stmtAt 8, stmtAt 9, stmtAt 10, stmtAt 11, stmtAt 12, stmtAt 13, stmtAt 14, stmtAt 15, stmtAt 16, stmtAt 17]
noncomputable def hdL3 : List Stmt := [stmtAt 18, stmtAt 19, stmtAt 20, stmtAt 21, stmtAt 22, stmtAt 23, stmtAt 24, stmtAt 25, stmtAt 26, stmtAt 27]
noncomputable def hdL4 : List Stmt := [stmtAt 28]
noncomputable def hdL5 : List Stmt := [stmtAt 29, stmtAt 30, stmtAt 31, stmtAt 32, stmtAt 33, stmtAt 34, stmtAt 35]
theorem hdBody_eq : hdBody = hdL0 ++ (hdL1 ++ (hdL2 ++ (hdL3 ++ (hdL4 ++ (hdL5 ++ []))))) := by kernel_rfl
theorem hd_pre (w : World) (os : OsState) : topGo treeTable pw w 11 (some (.ref 6)) 12 ⟨boot_heap w.params, Array.mk [], boot_drawn, boot_toks, os⟩ (topStub pw) = some ((hdAt hdH_pre 187 w os), ⟨denote treeTable hdCode, hdCode, hdPos, [topFrame hdPos]⟩) := by kernel_rfl
theorem hd_block (w : World) (os : OsState) : segRun treeTable pw w 11 (some (.ref 6)) 1 1 (hdAt hdH_pre 187 w os) (blockOf hdBody hdEnv hdCode hdPos [topFrame hdPos]) = some (.next, (hdAt hdH_pre 187 w os), hdCode, hdPos) := by kernel_rfl
theorem hd_g0 (w : World) (os : OsState) : segRun treeTable pw w 11 (some (.ref 6)) 1 288 (hdAt hdH_pre 187 w os) (piecesOf hdL0 hdEnv hdCode hdPos [topFrame hdPos]) = some (.next, (hdAt hdH_p4 231 w os), hdCode, ({ line := 11, col := 0, endLine := 14, endCol := 16 } : Pos)) := by kernel_rfl
theorem hd_g1 (w : World) (os : OsState) : segRun treeTable pw w 11 (some (.ref 6)) 1 319 (hdAt hdH_p4 231 w os) (piecesOf hdL1 hdEnv hdCode ({ line := 11, col := 0, endLine := 14, endCol := 16 } : Pos) [topFrame hdPos]) = some (.next, (hdAt hdH_p6 274 w os), hdCode, ({ line := 16, col := 0, endLine := 30, endCol := 16 } : Pos)) := by kernel_rfl
theorem hd_g2 (w : World) (os : OsState) : segRun treeTable pw w 11 (some (.ref 6)) 1 284 (hdAt hdH_p6 274 w os) (piecesOf hdL2 hdEnv hdCode ({ line := 16, col := 0, endLine := 30, endCol := 16 } : Pos) [topFrame hdPos]) = some (.next, (hdAt hdH_p17 360 w os), hdCode, ({ line := 108, col := 0, endLine := 132, endCol := 22 } : Pos)) := by kernel_rfl
theorem hd_g3 (w : World) (os : OsState) : segRun treeTable pw w 11 (some (.ref 6)) 1 208 (hdAt hdH_p17 360 w os) (piecesOf hdL3 hdEnv hdCode ({ line := 108, col := 0, endLine := 132, endCol := 22 } : Pos) [topFrame hdPos]) = some (.next, (hdAt hdH_p27 413 w os), hdCode, ({ line := 205, col := 0, endLine := 205, endCol := 8 } : Pos)) := by kernel_rfl
theorem hd_g4 (w : World) (os : OsState) : segRun treeTable pw w 11 (some (.ref 6)) 1 318 (hdAt hdH_p27 413 w os) (piecesOf hdL4 hdEnv hdCode ({ line := 205, col := 0, endLine := 205, endCol := 8 } : Pos) [topFrame hdPos]) = some (.next, (hdAt hdH_p28 463 w os), hdCode, ({ line := 206, col := 0, endLine := 224, endCol := 27 } : Pos)) := by kernel_rfl
theorem hd_g5 (w : World) (os : OsState) : segRun treeTable pw w 11 (some (.ref 6)) 1 163 (hdAt hdH_p28 463 w os) (piecesOf hdL5 hdEnv hdCode ({ line := 206, col := 0, endLine := 224, endCol := 27 } : Pos) [topFrame hdPos]) = some (.next, (hdAt hdH_p35 505 w os), hdCode, ({ line := 252, col := 0, endLine := 275, endCol := 15 } : Pos)) := by kernel_rfl
theorem hd_fin (w : World) (os : OsState) : topRun treeTable pw w 11 (some (.ref 6)) 2 (hdAt hdH_p35 505 w os) ⟨doneF .next, hdCode, ({ line := 252, col := 0, endLine := 275, endCol := 15 } : Pos), [topFrame hdPos]⟩ = some (hdAt hdH_p35 505 w os) := by kernel_rfl
theorem hd_run (w : World) (os : OsState) : topRun treeTable pw w 11 (some (.ref 6)) (12 + (1 + (288 + (319 + (284 + (208 + (318 + (163 + 2)))))))) ⟨boot_heap w.params, Array.mk [], boot_drawn, boot_toks, os⟩ (topStub pw) = some (hdAt hdH_p35 505 w os) := by
  refine go_top (hd_pre w os) (piece_block (hd_block w os) ?_)
  rw [congrArg restOf hdBody_eq]
  exact piece_app (hd_g0 w os) (piece_app (hd_g1 w os) (piece_app (hd_g2 w os) (piece_app (hd_g3 w os) (piece_app (hd_g4 w os) (piece_app (hd_g5 w os) (piece_nil (hd_fin w os)))))))
theorem hd_size (w : World) : ((boot_heap w.params).isNs mainGlobals && (Array.mk [] : Array GenState).size == 0, (boot_heap w.params).objs.size, (boot_heap w.params).nsMap mainGlobals "__annotations__") = (true, 11, some (.ref 6)) := by kernel_rfl
theorem hd_fence (s : Shared) : fenceModules? pw s = some s := by kernel_rfl
theorem hd_opening : opening pw = plainProg pw.main.scope.names := by kernel_rfl
theorem hd_kept (w : World) (os : OsState) : (staticsOk (importedModules pw.main.body) (boot_heap w.params) (hdH_p35 w.params) && namesBound pw (hdH_p35 w.params) && gensDone (hdAt hdH_p35 505 w os) && laidKept (boot_heap w.params) (hdH_p35 w.params)) = true := by kernel_rfl
theorem hd_seen (w : World) (os : OsState) : openSeen headView ["_dedupe", "filterfalse"] (importedModules pw.main.body) headX true (hdAt hdH_p35 505 w os) = openGood headView ["_dedupe", "filterfalse"] := by kernel_rfl
theorem hd_obs (w : World) (os : OsState) : Hook.obs headH (hdAt hdH_p35 505 w os) = Hook.val headH w := by kernel_rfl
theorem headLeft : LeftO headR.prog headView ["_dedupe", "filterfalse"] headX (Hook.obs headH) (Hook.val headH) 3274 :=
  LeftO.of_pieces (p := pw) (H₀ := boot_heap) (H₁ := hdH_p35) (boot_open hd_opening rfl hd_fence) hd_size hd_run rfl fun w => funext fun os => by
    rw [hd_kept w os, hd_seen w os, hd_obs w os]
theorem headSaid : PySem.Challenge.rw_il0207_01.wellSaid = true := by
  unfold OpenLaw.wellSaid OpenRow.wellSaid OpenRow.partSaid looksOpen
  repeat' with_reducible refine look_both ?_ ?_
  all_goals decide +kernel
end
end Mine
set_option maxRecDepth 100000 in
set_option maxHeartbeats 8000000 in
theorem PySem.Challenge.cw_il0207_01_holds : PySem.Challenge.rw_il0207_01.Holds := by
  refine holds_law Mine.headSaid fun said => ?_
  refine holds_open (q := Mine.headView) (loose := ["_dedupe", "filterfalse"]) (Xt := Mine.headX) (XP := XL Mine.headView []) (Yf := Hook.obs Mine.headH) (Ya := Hook.val Mine.headH) (YP := Hook.says Mine.headH) (N := 3274) Mine.headLeft (Hook.of Mine.headH) (Hook.keeps Mine.headH) (fun s e => xl_of s (Bool.and_eq_true_iff.mp e).1) XL.keeps (by rfl) (by rfl) (by rfl) (fun s e => recFacts_of (Bool.and_eq_true_iff.mp e).2) (by rfl) (by first | assumption | decide +kernel) (by decide +kernel) ⟨rfl, rfl, rfl, rfl, rfl, by decide +kernel⟩ ?hw ?hc
  (case hw => w_witness2)
  k_fill
  intro w s₀ s₁ mg mb G Y fa o pm cd doc dV kV ho hd hcd hD hmg hg args vals as hpre hlay hrd hwl hlo
  have KX := kIn_of Y
  refine Ground.open G ?_
  intro T B D TE TW
  wrow_args hpre hlay hrd hwl hlo
  rename_i hI _ hlen _
  x_fa T KX hmg
  clear hmg hd hD ho hcd
  refine Mine.law_run ⟨KX, _, _, _, _, topRead_of T⟩ ?_ ?_ (by assumption) hI ?_ (Mine.plain_ok _) ?_
  · exact {
    fspath := ⟨_, _, _, _, rfl, rfl⟩
    getSep := ⟨_, _, _, _, rfl, rfl⟩
    join := ⟨_, _, _, _, rfl, rfl⟩
    splitroot := ⟨_, _, _, _, rfl, rfl⟩
    dirname := ⟨_, _, _, _, rfl, rfl⟩
    normpath := ⟨_, _, _, _, rfl, rfl⟩
    commonpath := ⟨_, _, _, _, rfl, rfl⟩
    kind_ := ⟨_, _, _, _, rfl, rfl⟩
    fspath_ := ⟨_, _, _, _, rfl, rfl⟩
    split := ⟨_, _, _, _, rfl, rfl⟩
    ancestry := ⟨_, _, _, _, rfl, rfl⟩
    difference := ⟨_, _, _, _, rfl, rfl⟩
    lawRow := ⟨_, _, _, _, rfl, rfl⟩
    lawTold := ⟨_, _, _, _, rfl, rfl⟩
    lawClimbed := ⟨_, _, _, _, rfl, rfl⟩
    law := ⟨_, _, _, _, rfl, rfl⟩
    ffInit := ⟨_, _, _, _, rfl, rfl⟩
    ffIter := ⟨_, _, _, _, rfl, rfl⟩
    ffNext := ⟨_, _, _, _, rfl, rfl⟩
    g_fspath := rfl
    g_getSep := rfl
    g_join := rfl
    g_splitroot := rfl
    g_dirname := rfl
    g_normpath := rfl
    g_commonpath := rfl
    g_sep := ⟨_, rfl⟩
    g_kind := rfl
    g_fspath_ := rfl
    g_split := rfl
    g_ancestry := rfl
    g_dedupe := rfl
    g_filterfalse := rfl
    g_difference := rfl
    g_lawRow := rfl
    g_lawTold := rfl
    g_lawClimbed := rfl
    g_law := rfl
    b_type := rfl
    b_str := rfl
    b_bytes := rfl
    b_issubclass := rfl
    b_isinstance := rfl
    b_len := rfl
    b_tuple := rfl
    b_map := rfl
    b_min := rfl
    b_max := rfl
    b_enumerate := rfl
    b_set := rfl
    b_iter := rfl
    b_next := rfl
    b_bool := rfl
    b_range := rfl
    b_abs := rfl
    b_list := rfl
    b_TypeError := rfl
    b_ValueError := rfl
    b_AttributeError := rfl
    b_BytesWarning := rfl
    dedupe := ⟨_, _, rfl⟩
    }
  · exact {
    makes := rfl
    init := rfl
    iter := rfl
    next := rfl
    setattr := rfl
    over := rfl
    tIt := rfl
    tFunc := rfl
    m5 := rfl
    m4 := rfl
    s5 := rfl
    s4 := rfl
    plain := fun _ => rfl
    cls := rfl
    fIt := rfl
    fFunc := rfl
    g5 := rfl
    g4 := rfl
    k5 := rfl
    k4 := rfl
    noLen := rfl
    noHint := rfl
    keep := rfl
    }
  · omega
  intro h' gs' tk hk hb
  refine PySem.W.X.x_endG (Mine.mem_keep hk) (fun _ => rfl) ?_ (hb (.of_eq hg))
  first | rfl | wrow_post
