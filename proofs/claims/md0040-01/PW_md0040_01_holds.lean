import PyProof.Rows.All
import Wide.All
import OpenK.AllK
import Wide.FinOn
import PySem.Challenge.RW_md0040_01
open PySem PySem.W PyProof.Rows
set_option Elab.async false
set_option maxRecDepth 100000
section
namespace Mine
abbrev pw : Program := PySem.Challenge.pw_md0040_01
def bodyOf : Stmt → List Stmt
  | .FunctionDef _ _ b _ _ _ _ _ _ _ => b
  | _ => []
def scopeOf : Stmt → Scope
  | .FunctionDef _ _ _ _ _ _ s _ _ _ => s
  | _ => default
def paramsOf : Stmt → Arguments
  | .FunctionDef _ a _ _ _ _ _ _ _ _ => a
  | _ => default
def topStmt (k : Nat) : Stmt := pw.main.body.getD k default
def applyDef : Stmt := topStmt 1
def getDef : Stmt := topStmt 2
def darkDef : Stmt := topStmt 5
def lawDef : Stmt := topStmt 6
def fnDef (k : Nat) : Stmt := (bodyOf getDef).getD k default
end Mine
end
section
namespace Mine
abbrev sh (s : Shared) (h : Heap) (tk : Tok) : Shared := { s with heap := h, toks := tk }
def Sub (h h' : Heap) : Prop := ∀ b o, h.get? b = some o → h'.get? b = some o
theorem Sub.refl (h : Heap) : Sub h h := fun _ _ e => e
theorem Sub.trans {h h' h'' : Heap} (a : Sub h h') (b : Sub h' h'') : Sub h h'' := fun x o e => b x o (a x o e)
theorem Sub.push (h : Heap) (o : Obj) : Sub h (h.push o) := fun _ _ e => Heap.get?_push_of_some _ e
theorem Sub.ns {h h' : Heap} {a : Addr} {m} (x : Sub h h') (n : h.Ns a m) : h'.Ns a m := n.keeps x
theorem Sub.list {h h' : Heap} {a : Addr} {l} (x : Sub h h') (n : h.IsList a l) : h'.IsList a l := n.at fun _ e => x _ _ e
theorem Sub.cell {h h' : Heap} {a : Addr} {v} (x : Sub h h') (n : h.IsCell a v) : h'.IsCell a v := let ⟨o, e, r⟩ := n; ⟨o, x _ _ e, r⟩
theorem Sub.nolimit {h h' : Heap} (x : Sub h h') (n : h.NoLimit) : h'.NoLimit := n.keeps x
theorem Sub.codeRec {h h' : Heap} {v q} (x : Sub h h') (n : h.CodeRec v q) : h'.CodeRec v q := let ⟨c, o, vs, t, e, e1, r⟩ := n; ⟨c, o, vs, t, e, x _ _ e1, r⟩

section
variable {prog : Program} {w : World} {A : Around} {E : Value → Shared → Prop} {s : Shared} {h : Heap} {tk : Tok} {env : Env} {Q : Value → Shared → Prop}
theorem r_name {x : Str} {pos : Pos} {m : Str → Option Value} {v : Value} (hn : h.Ns env.locals m) (hv : m x = some v) (hq : Q v (sh s h tk))
    (hk : env.scope.kind = .function := by rfl) (hl : env.kindOf x = some .local := by rfl) (hd : (x == ("__debug__" : Str)) = false := by decide) :
    wpAny (model prog w) A (eval (.Name x pos) env) Q E (sh s h tk) := wpAny_Name (wpAny_loadName_local hk hl hn hv hq) hd
theorem r_int {i : Int} {k pos} (hq : ∀ t tk, Q (.int i t) (sh s h tk)) : wpAny (model prog w) A (eval (.Constant (.int i) k pos) env) Q E (sh s h tk) := wpAny_Constant_int (hq _ _)
theorem r_str {x : Str} {k pos} (hq : ∀ t tk, Q (.str x t) (sh s h tk)) : wpAny (model prog w) A (eval (.Constant (.str x) k pos) env) Q E (sh s h tk) := wpAny_Constant_str (hq _ _)
variable {a b : Int} {t u : Tok}
theorem r_add (hq : ∀ t tk, Q (.int (a + b) t) (sh s h tk)) : wpAny (model prog w) A (binaryOp .Add (.int a t) (.int b u)) Q E (sh s h tk) := PyProof.Rows.add_int (hq _ _)
theorem r_sub (hq : ∀ t tk, Q (.int (a - b) t) (sh s h tk)) : wpAny (model prog w) A (binaryOp .Sub (.int a t) (.int b u)) Q E (sh s h tk) := PyProof.Rows.sub_int (hq _ _)
theorem r_and1 (hq : ∀ t tk, Q (.int (a % 2) t) (sh s h tk)) : wpAny (model prog w) A (binaryOp .BitAnd (.int a t) (.int 1 u)) Q E (sh s h tk) := by
  refine PyProof.Rows.and_int ?_
  rw [bitAnd_m1]; exact hq _ _
theorem r_mod (hb : 0 < b) (hq : ∀ t tk, Q (.int (a % b) t) (sh s h tk)) : wpAny (model prog w) A (binaryOp .Mod (.int a t) (.int b u)) Q E (sh s h tk) := by
  refine PyProof.Rows.mod_int (by omega) ?_
  rw [Int.fmod_eq_emod_of_nonneg _ (by omega)]; exact hq _ _
theorem r_div (hb : 0 < b) (hl : b.natAbs.log2 < 9000) (hq : ∀ t tk, Q (.int (a / b) t) (sh s h tk)) : wpAny (model prog w) A (binaryOp .FloorDiv (.int a t) (.int b u)) Q E (sh s h tk) := by
  refine PyProof.Rows.floordiv_int (by omega) ?_ (Or.inl (PyProof.noPylong_of_log2 hl))
  rw [Int.fdiv_eq_ediv_of_nonneg _ (by omega)]; exact hq _ _
theorem mulOk {a b : Int} (ha : Builtin.Int.intBits a ≤ 2 ^ 20) (hb : Builtin.Int.intBits b ≤ 2 ^ 20) : IntMulOk a b := by
  unfold IntMulOk Builtin.Int.intTooBig
  simp only [Bool.and_eq_true, decide_eq_true_eq, not_and]
  intro _; have : bitsLine = 2 ^ 27 := rfl; omega
theorem r_mul (ha : Builtin.Int.intBits a ≤ 2 ^ 20) (hb : Builtin.Int.intBits b ≤ 2 ^ 20) (hq : ∀ t tk, Q (.int (a * b) t) (sh s h tk)) : wpAny (model prog w) A (binaryOp .Mult (.int a t) (.int b u)) Q E (sh s h tk) :=
  PyProof.Rows.mul_int (hq _ _) (mulOk ha hb)
theorem r_eq (hq : Q (.bool (a == b)) (sh s h tk)) : wpAny (model prog w) A (compareOp .Eq (.int a t) (.int b u)) Q E (sh s h tk) := PyProof.Rows.eq_int hq
theorem r_store {x : Str} {v : Value} {m : Str → Option Value} {Q : Unit → Shared → Prop} (hn : h.Ns env.locals m)
    (hq : ∀ h' tk, h'.Ns env.locals (fun y => if y = x then some v else m y) → Heap.SameBut env.locals h h' → Q () (sh s h' tk))
    (hk : env.scope.kind = .function := by rfl) (hl : env.kindOf x = some .local := by rfl) : wpAny (model prog w) A (storeName env x v) Q E (sh s h tk) :=
  wpAny_storeName_local hl hn (fun h' n sb => hq h' _ n sb) (by rw [hk]; rfl)
end
end Mine
end
section
namespace Mine
/-- what the eight masks reckon -/
def maskB : Nat → Int → Int → Bool
  | 0, i, j => (i + j) % 2 == 0
  | 1, i, _ => i % 2 == 0
  | 2, _, j => j % 3 == 0
  | 3, i, j => (i + j) % 3 == 0
  | 4, i, j => (i / 2 + j / 3) % 2 == 0
  | 5, i, j => (i * j) % 2 + (i * j) % 3 == 0
  | 6, i, j => ((i * j) % 2 + (i * j) % 3) % 2 == 0
  | _, i, j => ((i + j) % 2 + (i * j) % 3) % 2 == 0
/-- at f stands a function made of the k-th nested def -/
def MaskFn (h : Heap) (f : Addr) (k : Nat) : Prop := ∃ name qual doc pm ct c o, h.get? f = some o ∧
  o.data = .func (fnX name qual (paramsOf (fnDef k)) (bodyOf (fnDef k)) (scopeOf (fnDef k)) [] .none .none doc pm none (.ref c) ct) ∧ h.CodeRec (.ref c) qual
theorem MaskFn.sub {h h' : Heap} {f k} (x : MaskFn h f k) (st : Sub h h') : MaskFn h' f k :=
  let ⟨n, q, d, p, ct, c, o, e, r, cr⟩ := x; ⟨n, q, d, p, ct, c, o, st _ _ e, r, st.codeRec cr⟩
local macro_rules | `(tactic| ktr_rel) => `(tactic| first
  | (with_reducible refine wpAny_execs_cons ?_)
  | (with_reducible refine wpAny_Return_some ?_)
  | ((with_reducible show wpAny _ _ (exec (Stmt.Assign _ _ _) _) _ _ _); refine wpAny_Assign_Name ?_)
  | ((with_reducible show wpAny _ _ (eval (Expr.Compare _ _ _ _) _) _ _ _); refine wpAny_Compare1 ?_)
  | (with_reducible refine wpAny_BinOp ?_)
  | ((with_reducible show wpAny _ _ (eval (Expr.Name _ _) _) _ _ _); refine r_name (by assumption) rfl ?_)
  | (with_reducible refine r_int fun _ _ => ?_)
  | ((with_reducible show wpAny _ _ (binaryOp Operator.Add _ _) _ _ _); refine r_add fun _ _ => ?_)
  | ((with_reducible show wpAny _ _ (binaryOp Operator.BitAnd _ _) _ _ _); refine r_and1 fun _ _ => ?_)
  | ((with_reducible show wpAny _ _ (binaryOp Operator.Mod _ _) _ _ _); refine r_mod (by decide) fun _ _ => ?_)
  | ((with_reducible show wpAny _ _ (binaryOp Operator.FloorDiv _ _) _ _ _); refine r_div (by decide) (by decide +kernel) fun _ _ => ?_)
  | ((with_reducible show wpAny _ _ (binaryOp Operator.Mult _ _) _ _ _); refine r_mul (by assumption) (by assumption) fun _ _ => ?_)
  | ((with_reducible show wpAny _ _ (compareOp CmpOp.Eq _ _) _ _ _); refine r_eq ?_))
/-- a store into a new frame leaves what stood before -/
theorem sb_sub {h h₀ h₁ : Heap} {L : Addr} (sb : Heap.SameBut L h₀ h₁) (hL : h.objs.size = L) (k : Sub h h₀) : Sub h h₁ := fun b o e =>
  (sb.2 b (Nat.ne_of_lt (hL ▸ Heap.lt_size e))).trans (k b o e)
theorem bnd2 {a b : Str} {x y : Value} {P : Str × Value → Prop} (ha : P (a, x)) (hb : P (b, y)) : ∀ z ∈ [(a, x), (b, y)], P z := fun z hz => by
  rcases List.mem_cons.mp hz with rfl | hz
  · exact ha
  · rcases List.mem_cons.mp hz with rfl | hz
    · exact hb
    · cases hz

theorem mask_code {prog : Program} {w : World} {A : Around} {R : Result → Shared → Prop} {s : Shared} {h : Heap} {tk : Tok} {f : Addr} {k : Nat} {i j : Int} {ti tj : Tok}
    (hf : MaskFn h f k) (hk : k < 8) (hroom : A.depth < recursionLimit) (hlim : h.NoLimit)
    (hi : Builtin.Int.intBits i ≤ 2 ^ 20) (hj : Builtin.Int.intBits j ≤ 2 ^ 20)
    (hR : ∀ h' tk', Sub h h' → R (.ok (.ret (.bool (maskB k i j)))) (sh s h' tk')) :
    codeAny (model prog w) A (.call (.ref f) ⟨[.int i ti, .int j tj], []⟩) R (sh s h tk) := by
  obtain ⟨name, qual, doc, pm, ct, c, o, ho, hd, hcd⟩ := hf
  have hcell : ∀ k < 8, ∀ x ∈ (scopeOf (fnDef k)).names, x.2 ≠ .cell := by decide
  have hloc : ∀ k < 8, (scopeOf (fnDef k)).names.lookup (Str.ofString "i") = some .local ∧ (scopeOf (fnDef k)).names.lookup (Str.ofString "j") = some .local := by decide
  have hsc : ∀ k < 8, (scopeOf (fnDef k)).isCoroutine = false ∧ (scopeOf (fnDef k)).isGenerator = false ∧ (scopeOf (fnDef k)).kind = .function := by decide
  have hb : bindArgs (fnX name qual (paramsOf (fnDef k)) (bodyOf (fnDef k)) (scopeOf (fnDef k)) [] .none .none doc pm none (.ref c) ct) ⟨[.int i ti, .int j tj], []⟩ = pure [(Str.ofString "i", .int i ti), (Str.ofString "j", .int j tj)] := by
    match k, hk with
    | 0, _ => rfl
    | 1, _ => rfl
    | 2, _ => rfl
    | 3, _ => rfl
    | 4, _ => rfl
    | 5, _ => rfl
    | 6, _ => rfl
    | 7, _ => rfl
    | k + 8, hk => omega
  refine codeAny_call_def (binds := [(Str.ofString "i", .int i ti), (Str.ofString "j", .int j tj)]) hroom ho hd hlim hcd rfl (BindsTo.of_eq hb) (hcell k hk) (bnd2 (hloc k hk).1 (hloc k hk).2) ?_ (hsc k hk).1 (hsc k hk).2.1 (hsc k hk).2.2
  intro h₀ hns hkp
  refine wpAny_mono (E := fun _ _ => False) (Q := fun f s' => R (.ok (.ret (match f with | .ret v => v | _ => .none))) s') ?_ (fun _ _ x => x) (fun _ _ x => x.elim)
  have hR' : ∀ h' tk' b, Sub h h' → b = maskB k i j → R (.ok (.ret (.bool b))) (sh s h' tk') := fun h' tk' b st e => e ▸ hR h' tk' st
  clear hR hb
  generalize hL : h.objs.size = L at hns ⊢
  match k, hk with
  | 0, _ => (refine wpAny_execs_cons ?_); (repeat ktr_rel); exact hR' _ _ _ hkp rfl
  | 1, _ => (refine wpAny_execs_cons ?_); (repeat ktr_rel); exact hR' _ _ _ hkp rfl
  | 2, _ => (refine wpAny_execs_cons ?_); (repeat ktr_rel); exact hR' _ _ _ hkp rfl
  | 3, _ => (refine wpAny_execs_cons ?_); (repeat ktr_rel); exact hR' _ _ _ hkp rfl
  | 4, _ => (refine wpAny_execs_cons ?_); (repeat ktr_rel); exact hR' _ _ _ hkp rfl
  | 5, _ =>
    (refine wpAny_execs_cons ?_); (repeat ktr_rel); (refine r_store hns fun h₁ _ hn₁ sb => ?_); (repeat ktr_rel)
    exact hR' _ _ _ (sb_sub sb hL hkp) rfl
  | 6, _ =>
    (refine wpAny_execs_cons ?_); (repeat ktr_rel); (refine r_store hns fun h₁ _ hn₁ sb => ?_); (repeat ktr_rel)
    exact hR' _ _ _ (sb_sub sb hL hkp) rfl
  | 7, _ => (refine wpAny_execs_cons ?_); (repeat ktr_rel); exact hR' _ _ _ hkp rfl
  | k + 8, hk => omega
end Mine
end
section
namespace Mine
section
variable {prog : Program} {w : World} {A : Around} {E : Value → Shared → Prop} {s : Shared} {h : Heap} {tk : Tok} {env : Env} {Q : Value → Shared → Prop}
theorem r_global {x : Str} {pos : Pos} {mg : Str → Option Value} {v : Value} (hn : h.Ns env.globals mg) (hv : mg x = some v) (hq : Q v (sh s h tk))
    (hk : env.scope.kind = .function := by rfl) (hl : env.kindOf x = some .globalImplicit := by rfl) (hd : (x == ("__debug__" : Str)) = false := by decide) :
    wpAny (model prog w) A (eval (.Name x pos) env) Q E (sh s h tk) := Calls.Name_function_global hk hl (Calls.loadGlobal_global hn hv hq) hd
theorem r_builtin {x : Str} {pos : Pos} {mg mb : Str → Option Value} {v : Value} (hn : h.Ns env.globals mg) (hv : mg x = none) (hb : h.Ns env.builtins mb) (hw : mb x = some v) (hq : Q v (sh s h tk))
    (hk : env.scope.kind = .function := by rfl) (hl : env.kindOf x = some .globalImplicit := by rfl) (hd : (x == ("__debug__" : Str)) = false := by decide) :
    wpAny (model prog w) A (eval (.Name x pos) env) Q E (sh s h tk) := Calls.Name_function_global hk hl (Calls.loadGlobal_builtin hn hv hb hw hq) hd
theorem r_item {value slice : Expr} {l : Addr} {items : Array Value} {k : Int} {u : Tok} {v : Value} (hl : h.IsList l items) (h0 : 0 ≤ k) (hhi : k < 2 ^ 63) (hx : items[k.toNat]? = some v) (hq : Q v (sh s h tk))
    (hs : subscripted slice false (.ref l) (.int k u) = operate [.ref l, .int k u] (getItem (.ref l) (.int k u)) := by with_unfolding_all rfl) :
    wpAny (model prog w) A (subscriptTail value slice (.ref l) (.int k u)) Q E (sh s h tk) :=
  tail_any (s := sh s h tk) (T := "list") (by exact hl.typeIs (s := sh s h tk)) slot_list_getitem.lookup (wpAny_getItem_list (s := sh s h tk) hl h0 hhi hx hq) hs
theorem r_itemNeg {value slice : Expr} {l : Addr} {items : Array Value} {k : Int} {u : Tok} {v : Value} (hl : h.IsList l items) (h0 : k < 0) (h1 : -(items.size : Int) ≤ k) (hlo : -(2 ^ 63) ≤ k) (hx : items[(k + items.size).toNat]? = some v) (hq : Q v (sh s h tk))
    (hs : subscripted slice false (.ref l) (.int k u) = operate [.ref l, .int k u] (getItem (.ref l) (.int k u)) := by with_unfolding_all rfl) :
    wpAny (model prog w) A (subscriptTail value slice (.ref l) (.int k u)) Q E (sh s h tk) :=
  tail_any (s := sh s h tk) (T := "list") (by exact hl.typeIs (s := sh s h tk)) slot_list_getitem.lookup (wpAny_getItem_list_neg (s := sh s h tk) hl h0 h1 hlo hx hq) hs
theorem r_itemStr {value slice : Expr} {x : Str} {k : Int} {t u : Tok} {c : Nat} (h0 : 0 ≤ k) (hhi : k < 2 ^ 63) (hx : x.cps[k.toNat]? = some c) (hq : ∀ t tk, Q (.str ⟨#[c]⟩ t) (sh s h tk))
    (hs : subscripted slice false (.str x t) (.int k u) = operate [.str x t, .int k u] (getItem (.str x t) (.int k u)) := by with_unfolding_all rfl) :
    wpAny (model prog w) A (subscriptTail value slice (.str x t) (.int k u)) Q E (sh s h tk) := by
  refine tail_any (s := sh s h tk) (T := "str") (typeIs_str _ _ _) F.slot_str_getitem.lookup ?_ hs
  refine PyProof.Rows.getItem_str (c := c) ?_ ?_ (hq _ _)
  · simp only [Bool.or_eq_false_iff, decide_eq_false_iff_not]; omega
  · obtain ⟨n, rfl⟩ := Int.eq_ofNat_of_zero_le h0
    have hx' : x.cps[n]? = some c := hx
    have hlt : n < x.cps.size := by
      rcases Array.getElem?_eq_some_iff.mp hx' with ⟨hh, _⟩; exact hh
    have hsi : seqIndex? (n : Int) x.length = some n := by
      unfold seqIndex? Str.length
      have e : ¬ ((n : Int) < 0) := by omega
      simp only [e, if_false]
      simp; omega
    rw [hsi]; exact hx'
theorem r_len {l : Addr} {items : Array Value} (hl : h.IsList l items) (hfit : (items.size : Int) < 2 ^ 63) (hq : ∀ t tk, Q (.int items.size t) (sh s h tk)) :
    wpAny (model prog w) A (call (.builtin "len") [.ref l]) Q E (sh s h tk) := Calls.call_len_list (s := sh s h tk) hl hfit (hq _ _)
theorem r_eqStr {x y : Str} {t u : Tok} (hq : Q (.bool (x == y)) (sh s h tk)) : wpAny (model prog w) A (compareOp .Eq (.str x t) (.str y u)) Q E (sh s h tk) := PyProof.Rows.eq_str hq
/-- f(e), f a builtin by name -/
theorem r_call1 {x : Str} {p pos : Pos} {e : Expr} {id : String} (hf : ∀ Q' : Value → Shared → Prop, Q' (.builtin id) (sh s h tk) → wpAny (model prog w) A (eval (.Name x p) env) Q' E (sh s h tk))
    (ha : wpAny (model prog w) A (eval e env) (fun v s' => wpAny (model prog w) A (call (.builtin id) [v]) Q E s') E (sh s h tk))
    (hs : starEach [e] env = [(false, eval e env)] := by rfl) :
    wpAny (model prog w) A (eval (.Call (.Name x p) [e] [] pos) env) Q E (sh s h tk) := by
  refine wpAny_Call_NameR (hf _ ?_)
  refine Calls.callWith_builtin (by rw [hs]; rfl) ?_
  rw [hs]
  exact Calls.evalArgs_plain (Calls.spliced_cons (wpAny_mono ha (fun v s' h' => Calls.spliced_nil h') fun _ _ x => x))
end

/-- the tiles, as the text has them -/
def tileRows : List (List Str) := match topStmt 4 with
  | .Assign _ (.List es _) _ => es.map fun
    | .List cs _ => cs.filterMap fun | .Constant (.str x) _ _ => some x | _ => none
    | _ => []
  | _ => []
def tileOf (k : Nat) : List Str := tileRows.getD k []
def darkB (k : Nat) (i j : Int) : Bool :=
  (Str.mk #[((tileOf k).getD (i % ((tileOf k).length : Int)).toNat Str.empty).cps.getD (j % 6).toNat 0]) == Str.ofString "1"
theorem tile_facts : ∀ k < 8, (0 < (tileOf k).length ∧ (tileOf k).length ≤ 6) ∧ ∀ x ∈ tileOf k, x.cps.size = 6 := by decide +kernel
structure Tiles (h : Heap) : Prop where
  all : h.IsList 37 #[.ref 29, .ref 30, .ref 31, .ref 32, .ref 33, .ref 34, .ref 35, .ref 36]
  row : ∀ k < 8, ∃ vs : List Value, h.IsList (29 + k) vs.toArray ∧ vs.length = (tileOf k).length ∧ ∀ (r : Nat) (x : Str), (tileOf k)[r]? = some x → ∃ t, vs[r]? = some (Value.str x t)
theorem Tiles.sub {h h' : Heap} (x : Tiles h) (st : Sub h h') : Tiles h' :=
  ⟨st.list x.all, fun k hk => let ⟨vs, a, b, c⟩ := x.row k hk; ⟨vs, st.list a, b, c⟩⟩

local macro_rules | `(tactic| ktr_rel) => `(tactic| first
  | (with_reducible refine wpAny_execs_cons ?_)
  | (with_reducible refine wpAny_Return_some ?_)
  | ((with_reducible show wpAny _ _ (exec (Stmt.Assign _ _ _) _) _ _ _); refine wpAny_Assign_Name ?_)
  | ((with_reducible show wpAny _ _ (eval (Expr.Compare _ _ _ _) _) _ _ _); refine wpAny_Compare1 ?_)
  | (with_reducible refine wpAny_BinOp ?_)
  | (with_reducible refine Subscript_ ?_)
  | (with_reducible refine r_int fun _ _ => ?_)
  | (with_reducible refine r_str fun _ _ => ?_)
  | ((with_reducible show wpAny _ _ (binaryOp Operator.Add _ _) _ _ _); refine r_add fun _ _ => ?_)
  | ((with_reducible show wpAny _ _ (compareOp CmpOp.Eq (Value.int _ _) _) _ _ _); refine r_eq ?_)
  | ((with_reducible show wpAny _ _ (compareOp CmpOp.Eq (Value.str _ _) _) _ _ _); refine r_eqStr ?_))
def DarkFn (h : Heap) (f : Addr) : Prop := ∃ name qual doc pm ct c o, h.get? f = some o ∧
  o.data = .func (fnX name qual (paramsOf darkDef) (bodyOf darkDef) (scopeOf darkDef) [] .none .none doc pm none (.ref c) ct) ∧ h.CodeRec (.ref c) qual
theorem DarkFn.sub {h h' : Heap} {f} (x : DarkFn h f) (st : Sub h h') : DarkFn h' f :=
  let ⟨n, q, d, p, ct, c, o, e, r, cr⟩ := x; ⟨n, q, d, p, ct, c, o, st _ _ e, r, st.codeRec cr⟩
theorem bnd3 {a b c : Str} {x y z : Value} {P : Str × Value → Prop} (ha : P (a, x)) (hb : P (b, y)) (hc : P (c, z)) : ∀ q ∈ [(a, x), (b, y), (c, z)], P q := fun q hq => by
  rcases List.mem_cons.mp hq with rfl | hq
  · exact ha
  · exact bnd2 hb hc q hq
theorem dark_code {prog : Program} {w : World} {A : Around} {R : Result → Shared → Prop} {s : Shared} {h : Heap} {tk : Tok} {f : Addr} {k : Nat} {i j : Int} {tki ti tj : Tok} {mg mb : Str → Option Value}
    (hf : DarkFn h f) (hk : k < 8) (hroom : A.depth < recursionLimit) (hlim : h.NoLimit) (hg : h.Ns mainGlobals mg) (hb : h.Ns builtinsNs mb) (hT : Tiles h)
    (m1 : mg "_law_tiles" = some (.ref 37)) (m2 : mg "len" = none) (m3 : mb "len" = some (.builtin "len"))
    (hR : ∀ h' tk', Sub h h' → R (.ok (.ret (.bool (darkB k i j)))) (sh s h' tk')) :
    codeAny (model prog w) A (.call (.ref f) ⟨[.int k tki, .int i ti, .int j tj], []⟩) R (sh s h tk) := by
  obtain ⟨name, qual, doc, pm, ct, c, o, ho, hd, hcd⟩ := hf
  refine codeAny_call_def (binds := [(Str.ofString "kind", .int k tki), (Str.ofString "i", .int i ti), (Str.ofString "j", .int j tj)]) hroom ho hd hlim hcd rfl (BindsTo.of_eq rfl)
    (show ∀ x ∈ (scopeOf darkDef).names, x.2 ≠ .cell by decide) (bnd3 (show (scopeOf darkDef).names.lookup (Str.ofString "kind") = _ by decide) (show (scopeOf darkDef).names.lookup (Str.ofString "i") = _ by decide) (show (scopeOf darkDef).names.lookup (Str.ofString "j") = _ by decide)) ?_
  intro h₀ hns hkp
  refine wpAny_mono (E := fun _ _ => False) (Q := fun f s' => R (.ok (.ret (match f with | .ret v => v | _ => .none))) s') ?_ (fun _ _ x => x) (fun _ _ x => x.elim)
  have hkp' : Sub h h₀ := hkp
  generalize hL : h.objs.size = L at hns ⊢
  obtain ⟨vs, hv, hvl, hvi⟩ := hT.row k hk
  obtain ⟨⟨hpos, hle⟩, hsz⟩ := tile_facts k hk
  refine wpAny_execs_cons ?_
  ktr_rel
  ktr_rel
  refine r_global (hkp'.ns hg) m1 ?_
  refine r_name hns rfl ?_
  refine r_item (v := .ref (29 + k)) (hkp'.list hT.all) (by omega) (by omega) ?_ ?_
  · match k, hk with
    | 0, _ => rfl
    | 1, _ => rfl
    | 2, _ => rfl
    | 3, _ => rfl
    | 4, _ => rfl
    | 5, _ => rfl
    | 6, _ => rfl
    | 7, _ => rfl
    | k + 8, hk => omega
  refine r_store hns fun h₁ _ hn₁ sb => ?_
  have st : Sub h h₁ := sb_sub sb hL hkp'
  dsimp only
  repeat ktr_rel
  refine r_name hn₁ rfl ?_
  repeat ktr_rel
  refine r_name hn₁ rfl ?_
  refine r_call1 (fun Q' hq => r_builtin (st.ns hg) m2 (st.ns hb) m3 hq) ?_
  refine r_name hn₁ rfl ?_
  have hsize : vs.toArray.size = (tileOf k).length := by rw [List.size_toArray, hvl]
  refine r_len (st.list hv) (by rw [hsize]; omega) fun _ _ => ?_
  rw [hsize]
  refine r_mod (by omega) fun _ _ => ?_
  have hm0 : 0 ≤ i % ((tileOf k).length : Int) := Int.emod_nonneg _ (by omega)
  have hm1 : i % ((tileOf k).length : Int) < (tileOf k).length := Int.emod_lt_of_pos _ (by omega)
  obtain ⟨x, hx⟩ : ∃ x, (tileOf k)[(i % ((tileOf k).length : Int)).toNat]? = some x := ⟨_, List.getElem?_eq_getElem (by omega)⟩
  obtain ⟨t, ht⟩ := hvi _ _ hx
  refine r_item (v := .str x t) (st.list hv) hm0 (by omega) (by rw [List.getElem?_toArray]; exact ht) ?_
  refine wpAny_BinOp ?_
  refine r_name hn₁ rfl ?_
  ktr_rel
  refine r_mod (by decide) fun _ _ => ?_
  have hj0 : 0 ≤ j % 6 := Int.emod_nonneg _ (by omega)
  have hj1 : j % 6 < 6 := Int.emod_lt_of_pos _ (by omega)
  have hxs := hsz x (List.mem_of_getElem? hx)
  obtain ⟨cp, hc⟩ : ∃ cp, x.cps[(j % 6).toNat]? = some cp := ⟨_, Array.getElem?_eq_getElem (by omega)⟩
  refine r_itemStr hj0 (by omega) hc fun _ _ => ?_
  ktr_rel
  ktr_rel
  have e : darkB k i j = (Str.mk #[cp] == Str.ofString "1") := by
    unfold darkB
    rw [List.getD_eq_getElem?_getD, hx]
    show (Str.mk #[x.cps.getD (j % 6).toNat 0] == Str.ofString "1") = _
    rw [Array.getD_eq_getD_getElem?, hc]
    rfl
  have := hR h₁
  rw [e] at this
  exact this _ st
end Mine
end
section
namespace Mine
theorem mulp (i j m : Int) (h1 : m ∣ 12) (h2 : m ∣ 6) : (i * j) % m = ((i % 12) * (j % 6)) % m := by
  rw [Int.mul_emod i j, Int.mul_emod (i % 12) (j % 6), Int.emod_emod_of_dvd _ h1, Int.emod_emod_of_dvd _ h2]
theorem mask_period (k : Nat) (i j : Int) : maskB k i j = maskB k (i % 12) (j % 6) := by
  have p2 := mulp i j 2 (by decide) (by decide)
  have p3 := mulp i j 3 (by decide) (by decide)
  match k with
  | 0 => show ((i + j) % 2 == 0) = ((i % 12 + j % 6) % 2 == 0); congr 1; omega
  | 1 => show (i % 2 == 0) = ((i % 12) % 2 == 0); congr 1; omega
  | 2 => show (j % 3 == 0) = ((j % 6) % 3 == 0); congr 1; omega
  | 3 => show ((i + j) % 3 == 0) = ((i % 12 + j % 6) % 3 == 0); congr 1; omega
  | 4 => show ((i / 2 + j / 3) % 2 == 0) = (((i % 12) / 2 + (j % 6) / 3) % 2 == 0); congr 1; omega
  | 5 => show ((i * j) % 2 + (i * j) % 3 == 0) = (((i % 12) * (j % 6)) % 2 + ((i % 12) * (j % 6)) % 3 == 0); rw [p2, p3]
  | 6 => show (((i * j) % 2 + (i * j) % 3) % 2 == 0) = ((((i % 12) * (j % 6)) % 2 + ((i % 12) * (j % 6)) % 3) % 2 == 0); rw [p2, p3]
  | k + 7 =>
    show (((i + j) % 2 + (i * j) % 3) % 2 == 0) = (((i % 12 + j % 6) % 2 + ((i % 12) * (j % 6)) % 3) % 2 == 0)
    rw [p3, show (i + j) % 2 = (i % 12 + j % 6) % 2 by omega]
theorem dark_period (k : Nat) (hk : k < 8) (i j : Int) : darkB k i j = darkB k (i % 12) (j % 6) := by
  have hd : ∀ k < 8, ((tileOf k).length : Int) ∣ 12 := by decide +kernel
  unfold darkB
  rw [Int.emod_emod_of_dvd _ (hd k hk), Int.emod_emod_of_dvd j (Int.dvd_refl 6)]
theorem dark_small : ∀ k < 8, ∀ r < 12, ∀ c < 6, darkB k (r : Nat) (c : Nat) = maskB k (r : Nat) (c : Nat) := by decide +kernel
/-- the tiles tell what the masks reckon -/
theorem dark_mask (k : Nat) (hk : k < 8) (i j : Int) : darkB k i j = maskB k i j := by
  rw [dark_period k hk, mask_period]
  have e1 : i % 12 = ((i % 12).toNat : Int) := (Int.toNat_of_nonneg (Int.emod_nonneg _ (by decide))).symm
  have e2 : j % 6 = ((j % 6).toNat : Int) := (Int.toNat_of_nonneg (Int.emod_nonneg _ (by decide))).symm
  have l1 : i % 12 < 12 := Int.emod_lt_of_pos _ (by decide)
  have l2 : j % 6 < 6 := Int.emod_lt_of_pos _ (by decide)
  rw [e1, e2]
  exact dark_small k hk _ (by omega) _ (by omega)
end Mine
end
section
namespace Mine
theorem ba_mro : mroOf (.type "bytearray") = pure [.type "bytearray", .type "object"] := by rw [mroOf_type]; kernel_rfl
theorem ba_lookup_new : typeLookup (.type "bytearray") "__new__" = pure (some (.builtin "bytearray.__new__")) := by rw [typeLookup_type, builtinLookup_eq_fast]; kernel_rfl
theorem ba_slot_init : Slot "bytearray" "__init__" "bytearray.__init__" :=
  .of (owner := "bytearray") (n := "__init__") (by rw [typeLookup_type, builtinLookup_eq_fast]; kernel_rfl) (by decide +kernel) (by decide +kernel) (by decide +kernel)
    (by first | exact .inl (by decide +kernel) | exact .inr (by decide +kernel)) (by rw [isSubtype_type]; kernel_rfl)
theorem ba_slot_len : Slot "bytearray" "__len__" "bytearray.__len__" :=
  .of (owner := "bytearray") (n := "__len__") (by rw [typeLookup_type, builtinLookup_eq_fast]; kernel_rfl) (by decide +kernel) (by decide +kernel) (by decide +kernel)
    (by first | exact .inl (by decide +kernel) | exact .inr (by decide +kernel)) (by rw [isSubtype_type]; kernel_rfl)
theorem ba_slot_getitem : Slot "bytearray" "__getitem__" "bytearray.__getitem__" :=
  .of (owner := "bytearray") (n := "__getitem__") (by rw [typeLookup_type, builtinLookup_eq_fast]; kernel_rfl) (by decide +kernel) (by decide +kernel) (by decide +kernel)
    (by first | exact .inl (by decide +kernel) | exact .inr (by decide +kernel)) (by rw [isSubtype_type]; kernel_rfl)
theorem ba_slot_setitem : Slot "bytearray" "__setitem__" "bytearray.__setitem__" :=
  .of (owner := "bytearray") (n := "__setitem__") (by rw [typeLookup_type, builtinLookup_eq_fast]; kernel_rfl) (by decide +kernel) (by decide +kernel) (by decide +kernel)
    (by first | exact .inl (by decide +kernel) | exact .inr (by decide +kernel)) (by rw [isSubtype_type]; kernel_rfl)
theorem ba_called : TypeCalled "bytearray" "bytearray.__new__" "bytearray.__init__" :=
  ⟨by decide +kernel, by decide +kernel, ⟨_, _, ba_mro⟩, madeBy_type ba_mro ba_lookup_new (by decide +kernel), by decide +kernel, by rw [isSubtype_type]; kernel_rfl, ba_slot_init⟩
theorem ba_typeCall (a : Value) : checkTypeCall "bytearray" ⟨[a], []⟩ = pure () := by kernel_rfl
theorem ba_newCall (a : Value) : checkBuiltinCall "bytearray.__new__" ⟨[.type "bytearray", a], []⟩ = pure () := by kernel_rfl
theorem ba_plain_new : plainId "bytearray.__new__" = true := by decide +kernel
theorem ba_entry_new : entryFor table "bytearray.__new__" = some Builtin.«list.__new__» :=
  entryFor_alias (id' := "list.__new__") (by kernel_rfl) (by first | rfl | decide +kernel | (unfold String.splitOn; simp +decide [String.splitOnAux])) (by decide +kernel) (by kernel_rfl)
theorem ba_entry_init : entryFor table "bytearray.__init__" = some Builtin.«bytearray.__init__» := by first | exact entryFor_of_fast (by kernel_rfl) | exact entryFor_of_tree (by kernel_rfl)
theorem ba_entry_len : entryFor table "bytearray.__len__" = some Builtin.«bytearray.__len__» := by first | exact entryFor_of_fast (by kernel_rfl) | exact entryFor_of_tree (by kernel_rfl)
theorem ba_entry_getitem : entryFor table "bytearray.__getitem__" = some Builtin.«bytearray.__getitem__» := by first | exact entryFor_of_fast (by kernel_rfl) | exact entryFor_of_tree (by kernel_rfl)
theorem ba_entry_setitem : entryFor table "bytearray.__setitem__" = some Builtin.«bytearray.__setitem__» := by first | exact entryFor_of_fast (by kernel_rfl) | exact entryFor_of_tree (by kernel_rfl)
theorem ba_owner : Manifest.owners.lookup (String.ofList ['y', 'a', 'r', 'r', 'a', 'e', 't', 'y', 'b'].reverse) = some Manifest.sig_bytearray := by kernel_rfl
theorem ba_args_init (a b : Value) : argsOk "bytearray.__init__" ⟨[a, b], []⟩ := by
  unfold argsOk; rw [signature?_of (id := "bytearray.__init__") (n := ['_', '_', 't', 'i', 'n', 'i', '_', '_']) (o := ['y', 'a', 'r', 'r', 'a', 'e', 't', 'y', 'b']) (by kernel_rfl) ba_owner]; kernel_rfl
theorem ba_args_len (a : Value) : argsOk "bytearray.__len__" ⟨[a], []⟩ := by
  unfold argsOk; rw [signature?_of (id := "bytearray.__len__") (n := ['_', '_', 'n', 'e', 'l', '_', '_']) (o := ['y', 'a', 'r', 'r', 'a', 'e', 't', 'y', 'b']) (by kernel_rfl) ba_owner]; kernel_rfl
theorem ba_args_getitem (a b : Value) : argsOk "bytearray.__getitem__" ⟨[a, b], []⟩ := by
  unfold argsOk; rw [signature?_of (id := "bytearray.__getitem__") (n := ['_', '_', 'm', 'e', 't', 'i', 't', 'e', 'g', '_', '_']) (o := ['y', 'a', 'r', 'r', 'a', 'e', 't', 'y', 'b']) (by kernel_rfl) ba_owner]; kernel_rfl
theorem ba_args_setitem (a b c : Value) : argsOk "bytearray.__setitem__" ⟨[a, b, c], []⟩ := by
  unfold argsOk; rw [signature?_of (id := "bytearray.__setitem__") (n := ['_', '_', 'm', 'e', 't', 'i', 't', 'e', 's', '_', '_']) (o := ['y', 'a', 'r', 'r', 'a', 'e', 't', 'y', 'b']) (by kernel_rfl) ba_owner]; kernel_rfl
set_option maxRecDepth 1000000 in
set_option maxHeartbeats 4000000 in
theorem ba_owner_new : ("bytearray.__new__".splitOn ".__new__").headD "" = "bytearray" := by simp +decide [String.splitOn, String.splitOnAux]
theorem ba_sub : isSubtype (.type "bytearray") (.type "bytearray") = pure true := by rw [isSubtype_type]; kernel_rfl
end Mine
end
section
namespace Mine
/-- the built-ins that, standing on the stack, keep a bytearray from being filled -/
def holdIds : List String := ["bytearray.__contains__", "bytearray.__mod__", "bytearray.__rmod__", "_struct.pack_into.held", "bytearray.find.held"] ++ Builtin.Bytes.decodersThatHold
def holds? : Code → Bool
  | .builtin id _ => holdIds.contains id
  | _ => false
def Free (Γ : Ctx) : Prop := holds? Γ.code = false ∧ ∀ x ∈ Γ.below, holds? x.1 = false
def AnyCtx (_ : Ctx) : Prop := True
/-- a word about contexts that goes along with what holds no bytearray -/
structure Along (P : Ctx → Prop) : Prop where
  enter : ∀ {Γ : Ctx}, P Γ → ∀ (c : Code) (h : Option Value) (p : Pos), holds? c = false → P (Γ.enter c h p)
  goto : ∀ {Γ : Ctx}, P Γ → ∀ c : Code, holds? c = false → P (Γ.goto c)
theorem along_free : Along Free where
  enter := fun f _ _ _ hc => ⟨hc, fun x hx => by rcases List.mem_cons.mp hx with rfl | hx; exact f.1; exact f.2 x hx⟩
  goto := fun f _ hc => ⟨hc, f.2⟩
theorem along_any : Along AnyCtx := ⟨fun _ _ _ _ _ => trivial, fun _ _ _ => trivial⟩
/-- as wpAny, of the contexts with P alone -/
def wpP (P : Ctx → Prop) {α : Type} (M : Model) (A : Around) (t : Sem α) (Q : α → Shared → Prop) (E : Value → Shared → Prop) (s : Shared) : Prop :=
  ∀ Γ p, Γ.In A → P Γ → Sem.wp M Γ t (fun a _ s' => Q a s') (fun e _ s' => E e s') p s
def codeP (P : Ctx → Prop) (M : Model) (A : Around) (c : Code) (R : Result → Shared → Prop) (s : Shared) : Prop :=
  ∀ Γ p, Γ.code = c → Γ.Below A → P Γ → wpCode M Γ R p s
abbrev wpF {α : Type} := @wpP Free α
abbrev codeF := codeP Free
section
variable {α β : Type} {P : Ctx → Prop} {M : Model} {A : Around} {E : Value → Shared → Prop} {s : Shared}
theorem wpP_of {t : Sem α} {Q : α → Shared → Prop} (h : wpAny M A t Q E s) : wpP P M A t Q E s := fun Γ p hi _ => h Γ p hi
theorem wpAny_of {t : Sem α} {Q : α → Shared → Prop} (h : wpP AnyCtx M A t Q E s) : wpAny M A t Q E s := fun Γ p hi => h Γ p hi trivial
theorem codeP_of {c : Code} {R : Result → Shared → Prop} (h : codeAny M A c R s) : codeP P M A c R s := fun Γ p hc hb _ => h Γ p hc hb
theorem codeAny_of {c : Code} {R : Result → Shared → Prop} (h : codeP AnyCtx M A c R s) : codeAny M A c R s := fun Γ p hc hb => h Γ p hc hb trivial
theorem wpP_mono {t : Sem α} {Q Q' : α → Shared → Prop} {E' : Value → Shared → Prop} (h : wpP P M A t Q E s) (hQ : ∀ a s, Q a s → Q' a s) (hE : ∀ e s, E e s → E' e s) : wpP P M A t Q' E' s :=
  fun Γ p hi hf => Sem.wp_mono M Γ t (fun a _ s => hQ a s) (fun e _ s => hE e s) p s (h Γ p hi hf)
theorem wpP_bind {m : Sem α} {f : α → Sem β} {Q : β → Shared → Prop} (h : wpP P M A m (fun a s' => wpP P M A (f a) Q E s') E s) : wpP P M A (m >>= f) Q E s := fun Γ p hi hf => by
  rw [Sem.wp_bind']
  exact Sem.wp_mono M Γ m (fun a p' s' h' => h' Γ p' hi hf) (fun _ _ _ h' => h') p s (h Γ p hi hf)
theorem wpP_pure {a : α} {Q : α → Shared → Prop} (h : Q a s) : wpP P M A (pure a) Q E s := wpP_of (wpAny_pure h)
theorem wpP_holding {vs : List Value} {m : Sem α} {Q : α → Shared → Prop} (h : wpP P M A m Q E s) : wpP P M A (holding vs m) Q E s :=
  fun Γ p hi hf => by rw [Sem.wp_holding]; exact h Γ p hi hf
theorem wpP_attempt {m : Sem α} {Q : Except Value α → Shared → Prop} (h : wpP P M A m (fun a => Q (.ok a)) (fun e => Q (.error e)) s) : wpP P M A m.attempt Q E s := fun Γ p hi hf => by
  rw [Sem.wp_attempt]; exact h Γ p hi hf
theorem wpP_onRaise {m : Sem α} {k : Value → Sem Unit} {Q : α → Shared → Prop} (h : wpP P M A m Q (fun _ _ => False) s) : wpP P M A (m.onRaise k) Q E s := fun Γ p hi hf => by
  rw [Sem.wp_onRaise]
  exact Sem.wp_mono M Γ m (fun _ _ _ h' => h') (fun e p' s' h' => h'.elim) p s (h Γ p hi hf)
theorem wpP_run (al : Along P) {c : Code} {Q : Flow → Shared → Prop} (hc : codeP P M A c (fun r s' => match r with | .ok f => Q f s' | .error e => E e s') s) (hh : holds? c = false) : wpP P M A (run c) Q E s := fun Γ p hi hf => by
  rw [Sem.wp_run]; exact hc _ p rfl (hi.enter c none p (by intro x; cases x)) (al.enter hf c none p hh)
theorem wpP_call (al : Along P) {f : Value} {pos : List Value} {kw : List (Str × Value)} {Q : Value → Shared → Prop} (hc : codeP P M A (.call f ⟨pos, kw⟩) (wants Q E) s) : wpP P M A (call f pos kw) Q E s := fun Γ p hi hf => by
  unfold call; rw [Sem.wp_runValue]; exact hc _ p rfl (hi.enter _ none p (by intro x; cases x)) (al.enter hf _ none p rfl)
theorem codeP_mono {c : Code} {R R' : Result → Shared → Prop} (h : codeP P M A c R s) (hR : ∀ r s, R r s → R' r s) : codeP P M A c R' s := fun Γ p hc hb hf => wpCode_mono hR (h Γ p hc hb hf)
theorem codeP_of_tree (al : Along P) {c : Code} {R : Result → Shared → Prop}
    (h : wpP P M (A.under c) (M.den c) (fun fin s' => match fin with | .done f => R (.ok f) s' | .again c' => (c'.quiet = true ∧ holds? c' = false) ∧ codeP P M A c' R s') (fun e s' => R (.error e) s') s) : codeP P M A c R s := fun Γ p hc hb hf => by
  rw [wpCode_iff_wp, hc]
  refine Sem.wp_mono M Γ _ (fun fin p' s' h' => ?_) (fun _ _ _ h' => h') p s (h Γ p (hc ▸ hb.in) hf)
  cases fin with
  | done f => exact h'
  | again c' => exact ⟨h'.1.1, h'.2 (Γ.goto c') p' rfl (hb.goto c') (al.goto hf c' h'.1.2)⟩
theorem codeP_loop (al : Along P) {c : Code} {R : Result → Shared → Prop} (hq : c.quiet = true) (hh : holds? c = false) (I : Nat → Shared → Prop)
    (turn : ∀ n s, I n s → wpP P M (A.under c) (M.den c) (fun fin s' => match fin with | .done f => R (.ok f) s' | .again c' => c' = c ∧ ∃ m, m < n ∧ I m s') (fun e s' => R (.error e) s') s)
    (n : Nat) (h : I n s) : codeP P M A c R s := by
  induction n using Nat.strongRecOn generalizing s with
  | ind n ih =>
    refine codeP_of_tree al (wpP_mono (turn n s h) (fun fin s' hf => ?_) fun _ _ h' => h')
    cases fin with
    | done f => exact hf
    | again c' => obtain ⟨rfl, m, hm, hI⟩ := hf; exact ⟨⟨hq, hh⟩, ih m hm hI⟩
/-- nothing on the stack holds it -/
theorem wpF_exported {v : Value} {Q : Bool → Shared → Prop} (h : Q false s) : wpF M A (Builtin.Bytes.exported v) Q E s := fun Γ p hi hf => by
  unfold Builtin.Bytes.exported
  rw [Sem.wp_bind']
  show Sem.wp M Γ stack _ _ p s
  unfold stack
  rw [Sem.wp_stack]
  have conv : ∀ {b : Bool}, b = false → Q b s := fun e => e ▸ h
  refine conv (List.any_eq_false.mpr fun x hx => ?_)
  have hb : holds? x.1 = false := by
    rcases List.mem_cons.mp hx with rfl | hx
    · exact hf.1
    · exact hf.2 x hx
  clear hx
  split
  · exact absurd (show holdIds.contains "bytearray.__contains__" = false from hb) (by decide +kernel)
  · exact absurd (show holdIds.contains "bytearray.__mod__" = false from hb) (by decide +kernel)
  · exact absurd (show holdIds.contains "bytearray.__rmod__" = false from hb) (by decide +kernel)
  · exact absurd (show holdIds.contains "_struct.pack_into.held" = false from hb) (by decide +kernel)
  · exact absurd (show holdIds.contains "bytearray.find.held" = false from hb) (by decide +kernel)
  · simp only [holds?, holdIds, List.contains_append, Bool.or_eq_false_iff] at hb
    rw [hb.2]; simp
  · simp
end
end Mine
end
section
namespace Mine
open Classical in
/-- the tree, asked of the stacks that hold no bytearray; elsewhere True at once -/
noncomputable def guardedF (t : Sem Fin) : Sem Fin := .stack fun st => if ∀ x ∈ st, holds? x.1 = false then t else ret (.bool true)
open Classical in
noncomputable def guardedV (t : Sem Value) : Sem Value := .stack fun st => if ∀ x ∈ st, holds? x.1 = false then t else pure (.bool true)
theorem free_iff {Γ : Ctx} {p : Pos} : (∀ x ∈ (Γ.code, p) :: Γ.below, holds? x.1 = false) ↔ Free Γ :=
  ⟨fun h => ⟨h _ (.head _), fun x hx => h x (.tail _ hx)⟩, fun h x hx => by rcases List.mem_cons.mp hx with rfl | hx; exact h.1; exact h.2 x hx⟩
theorem wpAny_guardedV {M : Model} {A : Around} {t : Sem Value} {Q : Value → Shared → Prop} {E : Value → Shared → Prop} {s : Shared} (h : wpF M A t Q E s) (hq : Q (.bool true) s) : wpAny M A (guardedV t) Q E s := fun Γ p hi => by
  unfold guardedV
  rw [Sem.wp_stack]
  split
  · rename_i hf; exact h Γ p hi (free_iff.mp hf)
  · exact hq
theorem wpAny_guarded_of {M : Model} {A : Around} {t : Sem Fin} {v : Sem Value} {Q : Fin → Shared → Prop} {E : Value → Shared → Prop} {s : Shared}
    (h : ∀ Γ p, Γ.In A → (∀ p, Sem.wp M Γ v (fun a _ s' => Q (.done (.ret a)) s') (fun e _ s' => E e s') p s) → Sem.wp M Γ t (fun a _ s' => Q a s') (fun e _ s' => E e s') p s)
    (hv : wpAny M A (guardedV v) (fun a s' => Q (.done (.ret a)) s') E s) : wpAny M A (guardedF t) Q E s := fun Γ p hi => by
  have hv' := fun p => hv Γ p hi
  unfold guardedV at hv'
  unfold guardedF
  rw [Sem.wp_stack]
  split
  · rename_i hf
    refine h Γ p hi fun p' => ?_
    have q := hv' p'
    rw [Sem.wp_stack, if_pos (free_iff.mpr (free_iff.mp hf))] at q
    exact q
  · rename_i hf
    have q := hv' p
    rw [Sem.wp_stack, if_neg hf] at q
    exact q
theorem sstep_guarded {prog : Program} {w : World} {s : Shared} {t : Sem Fin} (hz : s.asleep) :
    sstep (denote table) prog w (.single s ⟨guardedF t, .builtin "claim.caller" {}, default, []⟩) = .go (.single s ⟨t, .builtin "claim.caller" {}, default, []⟩) := by
  have e : step (denote table) prog w s ⟨guardedF t, .builtin "claim.caller" {}, default, []⟩ = .go s ⟨t, .builtin "claim.caller" {}, default, []⟩ := by
    obtain ⟨h, g, d, k, o⟩ := s
    have : ∀ x ∈ [((Code.builtin "claim.caller" {}), (default : Pos))], holds? x.1 = false := by
      intro x hx
      rcases List.mem_cons.mp hx with rfl | hx
      · decide +kernel
      · cases hx
    simp only [guardedF, step, List.map_nil, if_pos this]
  rcases sstep_single (denote table) prog w s ⟨guardedF t, .builtin "claim.caller" {}, default, []⟩ rfl hz with q | q
  · rw [q, e]; rfl
  · rw [e] at q; cases q
theorem holdsBy_of_guarded {c : ClaimW} {tree : List Value → Sem Fin} {defs keeps : List Str} {writes : Bool}
    (H : c.HoldsOpenBy (fun vs => ⟨guardedF (tree vs), .builtin "claim.caller" {}, default, []⟩) defs keeps writes) :
    c.HoldsOpenBy (fun vs => ⟨tree vs, .builtin "claim.caller" {}, default, []⟩) defs keeps writes := by
  refine ⟨H.1, H.2.1, fun w => ⟨(H.2.2 w).1, fun s hs => ?_⟩⟩
  obtain ⟨s₀, hf, hg, s₁, hT, h1, h2, h3, hC⟩ := (H.2.2 w).2 s hs
  refine ⟨s₀, hf, hg, s₁, hT, h1, h2, h3, fun args hp hl ord ho => ?_⟩
  obtain ⟨vs, s₂, hlay, n, o, s', hn, rest⟩ := hC args hp hl ord ho
  have hz : s₂.asleep := Shared.asleep_of_life (layAllW_rest _ _ _ hlay).2.2.2 (Shared.asleep_of_life hT.2.1 (Shared.asleep_of_life (fence_lifeW hf) (AfterImport.life hs)))
  cases n with
  | zero => exact absurd hn (by simp [schedN])
  | succ n =>
    refine ⟨vs, s₂, hlay, n, o, s', ?_, rest⟩
    have : schedN (denote table) c.prog w (n + 1) (.single s₂ ⟨guardedF (tree vs), .builtin "claim.caller" {}, default, []⟩) = schedN (denote table) c.prog w n (.single s₂ ⟨tree vs, .builtin "claim.caller" {}, default, []⟩) := by
      rw [schedN, sstep_guarded hz]
    rw [← this]; exact hn
abbrev WalkF (q : Program) (loose : List Str) (XP : (Str → Option Value) → Heap → Prop) (YP : World → Heap → Prop) (r : OpenRow) (d : DefRec) (kwd : List (Str × Expr)) : Prop :=
  ∀ (w : World) (s₀ s₁ : Shared) (mg mb : Str → Option Value), Ground q loose r.records XP w s₀ mg mb s₁.heap → YP w s₁.heap → ∀ (a : Addr) (o : Obj) (pm cd doc dV kV : Value), s₁.heap.get? a = some o →
      o.data = .func { Calls.docDef d.name d.params d.body d.scope pm cd doc with defaults := dV, kwdefaults := kV } → s₁.heap.CodeRec cd d.name → Dflts mg s₁.heap d.params kwd dV kV → mg d.name = some (.ref a) → s₁.gens = #[] →
      ∀ (args : List WData) (vals : List Value) (as : List Addr), r.claim.pre args = true → WData.layableAll args = true → ReadsAllW r.records (classAt s₀.heap) s₁.heap vals args as → WellAll w.params s₁.heap vals args → (∀ a ∈ as, (a == sysModules) = false) →
        wpF (model r.prog w) callerA (PySem.call (.ref a) vals) (fun v s' => GoodWG r.claim (classAt s₀.heap) (ExcName.means s₀.heap) args s₁ (.ok (.ret v)) s')
          (fun e s' => GoodWG r.claim (classAt s₀.heap) (ExcName.means s₀.heap) args s₁ (.error e) s') s₁ ∧
        GoodWG r.claim (classAt s₀.heap) (ExcName.means s₀.heap) args s₁ (.ok (.ret (.bool true))) s₁
/-- the head, of a call told of the contexts that hold no bytearray alone -/
theorem holds_F {r : OpenRow} {q : Program} {loose : List Str} {Xt : Shared → Bool} {XP : (Str → Option Value) → Heap → Prop} {α : Type} {Yf : Shared → α} {Ya : World → α} {YP : World → Heap → Prop} {d : DefRec} {kwd : List (Str × Expr)} {N : Nat}
    (left : LeftO r.prog q loose Xt Yf Ya N) (hY : ∀ w s, Yf s = Ya w → YP w s.heap) (hYk : ∀ w h h', YP w h → (∀ b o, h.get? b = some o → h'.get? b = some o) → YP w h')
    (hX : ∀ s, Xt s = true → XP (s.heap.nsMap mainGlobals) s.heap) (hXk : ∀ mg h h', XP mg h → (∀ b o, h.get? b = some o → h'.get? b = some o) → XP mg h')
    (hdef : defOf q r.name = some (d, kwd)) (hp : r.prog.theDef r.name = some (d.params, d.body, d.scope)) (hk : kwWritten? d.params.kwonlyargs d.params.kw_defaults = some kwd) (hRf : ∀ s, Xt s = true → RecFacts r.records s.heap) (hwr : (!r.writes || r.records.isEmpty) = true)
    (k1 : r.wellSaid = true) (ok : (chainsOk q && opensWell r.prog && (frees r.toRowW && r.within.isEmpty)) = true) (hb : r.prog.bare) (hw : r.toRowW.promised)
    (call : WalkF q loose XP YP r d kwd) : r.Holds := by
  refine ⟨k1, hw, holdsBy_of_guarded (open_anyG (r := r.toRowW) (run := fun f vs => guardedV (PySem.call f vs)) (tree := fun vs => guardedF (do match ← nsGet mainNs r.name with
      | some f => do ret (← PySem.call f vs)
      | none => unsupported "claim.caller:no-such-global")) left hY hYk hX hXk hRf hwr ok hb hw
    (fun vs w s mg f Q E hg hf h => wpAny_guarded_of (fun Γ p hi hv => ?_) h) (fun w s hg G n hn => ?_) fun w s₀ s₁ mg mb G Y args vs as hpre hlay L low => ?_)⟩
  · have e : wpAny (model r.prog w) callerA (nsGet mainNs r.name) (fun o s' => o = some f ∧ s' = s) E s := wpAny_nsGet hg ⟨hf, rfl⟩
    rw [Sem.wp_bind']
    refine Sem.wp_mono _ Γ _ (fun o p' s' ho => ?_) (fun _ _ _ h' => h') p s (e Γ p hi)
    obtain ⟨rfl, rfl⟩ := ho
    show Sem.wp _ Γ (PySem.call f vs >>= fun v => ret v) _ _ p' s'
    rw [Sem.wp_bind']
    exact hv p'
  · obtain rfl : n = r.name := by split at hn <;> simp_all
    exact pinned_of_view hg G hdef hp hk
  · obtain ⟨a, o, pm, cd, doc, dV, kV, h1, h2, h3, h4, h5⟩ := G.fn hdef
    obtain ⟨c1, c2⟩ := call w s₀ s₁ mg mb G Y a o pm cd doc dV kV h2 h3 h4 h5 (defOf_name hdef ▸ h1) L.gens args vs as hpre hlay L.reads L.well (L.low low)
    exact ⟨.ref a, h1, wpAny_guardedV c1 c2⟩
end Mine
end
section
namespace Mine
abbrev lawEnv (L fa : Nat) : Env := envOfC (Str.ofString "law") (scopeOf lawDef) L fa (.ref 48)
abbrev lawA (L fa : Nat) : Around := callerA.deeper (lawEnv L fa)
def lawStmt (k : Nat) : Stmt := (bodyOf lawDef).getD k default
/-- what stands off the frame (its names at L, its four cells behind) and off X is kept -/
def Kp (L : Nat) (X : List Nat) (h h' : Heap) : Prop := ∀ b o, (b < L ∨ L + 4 < b) → b ∉ X → h.get? b = some o → h'.get? b = some o
theorem Kp.refl {L X h} : Kp L X h h := fun _ _ _ _ e => e
theorem Kp.trans {L X h h' h''} (a : Kp L X h h') (b : Kp L X h' h'') : Kp L X h h'' := fun x o hx hn e => b x o hx hn (a x o hx hn e)
theorem Kp.mono {L X Y h h'} (a : Kp L X h h') (s : ∀ x ∈ X, x ∈ Y) : Kp L Y h h' := fun x o hx hn e => a x o hx (fun q => hn (s x q)) e
theorem Kp.nil {L Y h h'} (a : Kp L [] h h') : Kp L Y h h' := a.mono (fun _ q => nomatch q)
theorem Sub.kp {L X h h'} (a : Sub h h') : Kp L X h h' := fun x o _ _ e => a x o e
structure LF (L : Nat) (h : Heap) (m : Str → Option Value) (vn vi vj vr : Option Value) : Prop where
  ns : h.Ns L m
  cN : h.IsCell (L + 1) vn
  cI : h.IsCell (L + 1 + 1) vi
  cJ : h.IsCell (L + 1 + 1 + 1) vj
  cR : h.IsCell (L + 1 + 1 + 1 + 1) vr
theorem LF.sub {L h h' m vn vi vj vr} (F : LF L h m vn vi vj vr) (s : Sub h h') : LF L h' m vn vi vj vr := ⟨s.ns F.ns, s.cell F.cN, s.cell F.cI, s.cell F.cJ, s.cell F.cR⟩
/-- an object of another make stands off the frame -/
theorem LF.off {L h m vn vi vj vr} (F : LF L h m vn vi vj vr) {a : Nat} {o : Obj} (e : h.get? a = some o) (h1 : ∀ es n, o.data ≠ .dict es n) (h2 : ∀ v, o.data ≠ .cell v) : a < L ∨ L + 4 < a := by
  obtain ⟨o1, es, n, e1, d1, _⟩ := F.ns
  obtain ⟨o2, e2, d2⟩ := F.cN
  obtain ⟨o3, e3, d3⟩ := F.cI
  obtain ⟨o4, e4, d4⟩ := F.cJ
  obtain ⟨o5, e5, d5⟩ := F.cR
  have n1 : a ≠ L := by rintro rfl; rw [e] at e1; cases e1; exact h1 _ _ d1
  have n2 : a ≠ L + 1 := by rintro rfl; rw [e] at e2; cases e2; exact h2 _ d2
  have n3 : a ≠ L + 1 + 1 := by rintro rfl; rw [e] at e3; cases e3; exact h2 _ d3
  have n4 : a ≠ L + 1 + 1 + 1 := by rintro rfl; rw [e] at e4; cases e4; exact h2 _ d4
  have n5 : a ≠ L + 1 + 1 + 1 + 1 := by rintro rfl; rw [e] at e5; cases e5; exact h2 _ d5
  omega
theorem LF.offList {L h m vn vi vj vr} (F : LF L h m vn vi vj vr) {a : Nat} {xs} (x : h.IsList a xs) : a < L ∨ L + 4 < a := by
  obtain ⟨o, e, _, n, d⟩ := x
  exact F.off e (by rw [d]; nofun) (by rw [d]; nofun)
theorem Kp.list {L X h h'} (k : Kp L X h h') {a : Nat} {xs} (x : h.IsList a xs) (ho : a < L ∨ L + 4 < a) (hn : a ∉ X) : h'.IsList a xs := let ⟨o, e, r⟩ := x; ⟨o, k a o ho hn e, r⟩
theorem sb_kp {L X h h' : _} {c : Nat} (sb : Heap.SameBut c h h') (hc : L ≤ c ∧ c ≤ L + 4) : Kp L X h h' := fun b o hb _ e => (sb.2 b (by rintro rfl; omega)).trans e
theorem cell_sb {h h' : Heap} {c d : Nat} {v} (sb : Heap.SameBut d h h') (ne : c ≠ d) (x : h.IsCell c v) : h'.IsCell c v := let ⟨o, e, r⟩ := x; ⟨o, (sb.2 c ne).trans e, r⟩
theorem ns_sb {h h' : Heap} {c d : Nat} {m} (sb : Heap.SameBut d h h') (ne : c ≠ d) (x : h.Ns c m) : h'.Ns c m := let ⟨o, es, n, e, r⟩ := x; ⟨o, es, n, (sb.2 c ne).trans e, r⟩
section
variable {prog : Program} {w : World} {A : Around} {E : Value → Shared → Prop} {s : Shared} {h : Heap} {tk : Tok} {L fa : Nat} {m : Str → Option Value} {vn vi vj vr : Option Value}
theorem l_store {x : Str} {v : Value} {Q : Unit → Shared → Prop} (F : LF L h m vn vi vj vr)
    (hq : ∀ h' tk, LF L h' (fun y => if y = x then some v else m y) vn vi vj vr → Kp L [] h h' → Q () (sh s h' tk))
    (hl : (lawEnv L fa).kindOf x = some .local := by rfl) : wpAny (model prog w) A (storeName (lawEnv L fa) x v) Q E (sh s h tk) :=
  r_store (env := lawEnv L fa) F.ns (fun h' tk n sb => hq h' tk ⟨n, cell_sb sb (by show _ ≠ L; omega) F.cN, cell_sb sb (by show _ ≠ L; omega) F.cI, cell_sb sb (by show _ ≠ L; omega) F.cJ, cell_sb sb (by show _ ≠ L; omega) F.cR⟩ (sb_kp sb (by show L ≤ L ∧ L ≤ L + 4; omega))) rfl hl
theorem l_storeN {v : Value} {Q : Unit → Shared → Prop} (F : LF L h m vn vi vj vr) (hq : ∀ h', LF L h' m (some v) vi vj vr → Kp L [] h h' → Q () (sh s h' tk)) :
    wpAny (model prog w) A (storeName (lawEnv L fa) (Str.ofString "number") v) Q E (sh s h tk) :=
  wpAny_storeName_cell (env := lawEnv L fa) (c := L + 1) rfl rfl rfl F.cN fun h' c sb => hq h' ⟨ns_sb sb (by omega) F.ns, c, cell_sb sb (by omega) F.cI, cell_sb sb (by omega) F.cJ, cell_sb sb (by omega) F.cR⟩ (sb_kp sb (by omega))
theorem l_storeI {v : Value} {Q : Unit → Shared → Prop} (F : LF L h m vn vi vj vr) (hq : ∀ h', LF L h' m vn (some v) vj vr → Kp L [] h h' → Q () (sh s h' tk)) :
    wpAny (model prog w) A (storeName (lawEnv L fa) (Str.ofString "i") v) Q E (sh s h tk) :=
  wpAny_storeName_cell (env := lawEnv L fa) (c := L + 1 + 1) rfl rfl rfl F.cI fun h' c sb => hq h' ⟨ns_sb sb (by omega) F.ns, cell_sb sb (by omega) F.cN, c, cell_sb sb (by omega) F.cJ, cell_sb sb (by omega) F.cR⟩ (sb_kp sb (by omega))
theorem l_storeJ {v : Value} {Q : Unit → Shared → Prop} (F : LF L h m vn vi vj vr) (hq : ∀ h', LF L h' m vn vi (some v) vr → Kp L [] h h' → Q () (sh s h' tk)) :
    wpAny (model prog w) A (storeName (lawEnv L fa) (Str.ofString "j") v) Q E (sh s h tk) :=
  wpAny_storeName_cell (env := lawEnv L fa) (c := L + 1 + 1 + 1) rfl rfl rfl F.cJ fun h' c sb => hq h' ⟨ns_sb sb (by omega) F.ns, cell_sb sb (by omega) F.cN, cell_sb sb (by omega) F.cI, c, cell_sb sb (by omega) F.cR⟩ (sb_kp sb (by omega))
theorem l_storeR {v : Value} {Q : Unit → Shared → Prop} (F : LF L h m vn vi vj vr) (hq : ∀ h', LF L h' m vn vi vj (some v) → Kp L [] h h' → Q () (sh s h' tk)) :
    wpAny (model prog w) A (storeName (lawEnv L fa) (Str.ofString "region") v) Q E (sh s h tk) :=
  wpAny_storeName_cell (env := lawEnv L fa) (c := L + 1 + 1 + 1 + 1) rfl rfl rfl F.cR fun h' c sb => hq h' ⟨ns_sb sb (by omega) F.ns, cell_sb sb (by omega) F.cN, cell_sb sb (by omega) F.cI, cell_sb sb (by omega) F.cJ, c⟩ (sb_kp sb (by omega))
/-- a name of a cell, in the frame itself or in a comprehension's block -/
theorem r_cell {env : Env} {x : Str} {pos : Pos} {c : Nat} {v : Value} {Q : Value → Shared → Prop} (hv : h.IsCell c (some v)) (hq : Q v (sh s h tk)) (hk : env.scope.kind = .function := by rfl) (hl : env.kindOf x = some .cell := by rfl)
    (hc : env.cells.lookup x = some c := by rfl) (hd : (x == ("__debug__" : Str)) = false := by decide) : wpAny (model prog w) A (eval (.Name x pos) env) Q E (sh s h tk) :=
  wpAny_Name (wpAny_loadName_cell hk hl hc hv hq) hd
variable {Q : Value → Shared → Prop} {env : Env}
theorem r_list {elts : List Expr} {pos : Pos} (hq : wpAny (model prog w) A (spliced (backTo pos (starEach elts env))) (fun vs s₁ => wpAny (model prog w) A (newList vs) Q E s₁) E (sh s h tk)) : wpAny (model prog w) A (eval (.List elts pos) env) Q E (sh s h tk) := List_ hq
theorem r_newList {vs : List Value} (hsz : vs.length ≤ sizeLine) (hq : ∀ h', Sub h h' → h'.IsList h.objs.size vs.toArray → h.get? h.objs.size = none → Q (.ref h.objs.size) (sh s h' tk)) : wpAny (model prog w) A (newList vs) Q E (sh s h tk) :=
  wpAny_newList (s := sh s h tk) (hq _ (Sub.push _ _) ⟨_, Heap.get?_push_size _ rfl, rfl, _, rfl⟩ (by
    cases e : h.get? h.objs.size with
    | none => rfl
    | some o => exact absurd (Heap.lt_size e) (Nat.lt_irrefl _))) hsz
theorem fresh_none (h : Heap) : h.get? h.objs.size = none := by
  cases e : h.get? h.objs.size with
  | none => rfl
  | some o => exact absurd (Heap.lt_size e) (Nat.lt_irrefl _)
theorem r_addList {l b : Nat} {vs ws : List Value} (hl : h.IsList l vs.toArray) (hb : h.IsList b ws.toArray) (hsz : vs.length + ws.length ≤ sizeLine)
    (hq : ∀ h', Sub h h' → h'.IsList h.objs.size (vs ++ ws).toArray → Q (.ref h.objs.size) (sh s h' tk)) : wpAny (model prog w) A (binaryOp .Add (.ref l) (.ref b)) Q E (sh s h tk) := by
  obtain ⟨⟨cls, dd, data, sl⟩, ho, hc, n, hd⟩ := id hl
  obtain ⟨⟨cls2, dd2, data2, sl2⟩, ho2, hc2, n2, hd2⟩ := id hb
  simp only at hc hd hc2 hd2
  subst hc hd hc2 hd2
  refine concat_meets (s := sh s h tk) ⟨_, ho, rfl⟩ ⟨_, ho2, rfl⟩ noFill_list_add seq_list_add PySem.F.slot_list_add PySem.F.entry_list_add (PySem.F.args_list_add_2 _ _) (list_addW l b vs.toArray ws.toArray n n2 dd dd2 sl sl2 (by simpa using hsz)) ⟨ho, ho2, ?_⟩
  exact hq _ (Sub.push _ _) ⟨_, Heap.get?_push_size _ rfl, rfl, 0, by simp⟩
/-- a slice of a list, laid out -/
theorem r_slice {value : Expr} {lower upper : Option Expr} {p : Pos} {l sl : Nat} {items : Array Value} {vl vu : Value} {lo hi : Option Int} (hl : h.IsList l items) (hs : h.IsSliceOf sl vl vu .none) (pl : IsPart vl lo) (pu : IsPart vu hi) (hsz : items.size ≤ sizeLine)
    (hq : ∀ h', Sub h h' → h'.IsList h.objs.size (slicePick items lo hi none) → Q (.ref h.objs.size) (sh s h' tk)) : wpAny (model prog w) A (subscriptTail value (.Slice lower upper none p) (.ref l) (.ref sl)) Q E (sh s h tk) :=
  tail_any (s := sh s h tk) (T := "list") (ops := [.ref sl, .ref l]) (by exact hl.typeIs (s := sh s h tk)) slot_list_getitem.lookup
    (wpAny_getItem_list_slice (s := sh s h tk) hl hs pl pu .none (fun q => nomatch q) (hq _ (Sub.push _ _) ⟨_, Heap.get?_push_size _ rfl, rfl, _, rfl⟩) hsz) (by with_unfolding_all rfl)
theorem r_arg {pos : Pos} {e : Expr} {rest : List Expr} {s : Shared} {Q : List Value → Shared → Prop} (hq : wpAny (model prog w) A (eval e env) (fun v s₁ => wpAny (model prog w) A (spliced (backTo pos (starEach rest env))) (fun vs s₂ => Q (v :: vs) s₂) E s₁) E s)
    (hs : starEach (e :: rest) env = (false, eval e env) :: starEach rest env := by rfl) : wpAny (model prog w) A (spliced (backTo pos (starEach (e :: rest) env))) Q E s := by
  rw [hs]; exact Calls.spliced_cons hq
theorem r_args {pos : Pos} {s : Shared} {Q : List Value → Shared → Prop} (hq : Q [] s) : wpAny (model prog w) A (spliced (backTo pos (starEach [] env))) Q E s := Calls.spliced_nil hq
theorem r_mkSlice {lower upper : Option Expr} {p : Pos} {s : Shared} (hq : wpAny (model prog w) A (evalPart lower env) (fun l s₁ => wpAny (model prog w) A (evalPart upper env) (fun u s₂ =>
      ∀ h', Sub s₂.heap h' → h'.IsSliceOf s₂.heap.objs.size l u .none → Q (.ref s₂.heap.objs.size) { s₂ with heap := h' }) E s₁) E s) : wpAny (model prog w) A (eval (.Slice lower upper none p) env) Q E s :=
  wpAny_Slice (wpAny_mono hq (fun _ _ h₁ => wpAny_mono h₁ (fun _ _ h₂ => wpAny_evalPart_none (h₂ _ (Sub.push _ _) (Heap.IsSliceOf.new ..))) fun _ _ x => x) fun _ _ x => x)
end
end Mine
end
section
namespace Mine
/-- the ground g: what the text's top and the start-up have laid, off the two tables of codes; L: where the law's frame begins -/
structure Gnd (g : Heap) (L : Nat) (mg mb : Str → Option Value) : Prop where
  small : g.objs.size ≤ L
  t23 : g.get? 23 = none
  t46 : g.get? 46 = none
  ng : g.Ns mainGlobals mg
  nb : g.Ns builtinsNs mb
  lim : g.NoLimit
  bm : ∃ bm ob, mg "__builtins__" = some (.ref bm) ∧ bm ≠ builtinsNs ∧ g.get? bm = some ob ∧ ob.cls = .type "module" ∧ ob.dict = some builtinsNs ∧ ob.data = .plain
  c27 : CodeHd g 27 23
  c48 : CodeHd g 48 46
  tiles : Tiles g
  dark : DarkFn g 44
  maker : ∃ name doc pm ct o, g.get? 28 = some o ∧ o.data = .func (fnX name (Str.ofString "get_data_mask_functions") (paramsOf getDef) (bodyOf getDef) (scopeOf getDef) [] .none .none doc pm none (.ref 27) ct) ∧ g.CodeRec (.ref 27) (Str.ofString "get_data_mask_functions")
  apply : ∃ name doc pm ct c o, g.get? 21 = some o ∧ o.data = .func (fnX name (Str.ofString "apply_mask") (paramsOf applyDef) (bodyOf applyDef) (scopeOf applyDef) [] .none .none doc pm none (.ref c) ct) ∧ g.CodeRec (.ref c) (Str.ofString "apply_mask")
  gA : mg "apply_mask" = some (.ref 21)
  gG : mg "get_data_mask_functions" = some (.ref 28)
  gT : mg "_law_tiles" = some (.ref 37)
  gD : mg "_law_dark" = some (.ref 44)
  nLen : mg "len" = none
  nList : mg "list" = none
  nEnum : mg "enumerate" = none
  nAbs : mg "abs" = none
  nRange : mg "range" = none
  nBytes : mg "bytearray" = none
  bLen : mb "len" = some (.builtin "len")
  bList : mb "list" = some (.type "list")
  bEnum : mb "enumerate" = some (.type "enumerate")
  bAbs : mb "abs" = some (.builtin "abs")
  bRange : mb "range" = some (.type "range")
  bBytes : mb "bytearray" = some (.type "bytearray")
theorem Gnd.lt {g L mg mb} (G : Gnd g L mg mb) {b : Nat} {o : Obj} (e : g.get? b = some o) : b < L := Nat.lt_of_lt_of_le (Heap.lt_size e) G.small
theorem Gnd.kp {g L mg mb} (G : Gnd g L mg mb) {X : List Nat} {h h' : Heap} (hs : Sub g h) (k : Kp L X h h') (hX : ∀ x ∈ X, g.get? x = none) : Sub g h' := fun b o e =>
  k b o (.inl (G.lt e)) (fun q => by rw [hX b q] at e; cases e) (hs b o e)
theorem Gnd.kp0 {g L mg mb} (G : Gnd g L mg mb) {h h' : Heap} (hs : Sub g h) (k : Kp L [] h h') : Sub g h' := G.kp hs k (fun _ q => nomatch q)
section
variable {w : World} {E : Value → Shared → Prop} {s : Shared} {h : Heap} {tk : Tok} {L fa : Nat} {g : Heap} {m mg mb : Str → Option Value} {vn vi vj vr : Option Value}
def numsOf (ns : List Int) : List Int := ns.take 16 ++ ([0, 1, 2, 3] : List Int).drop ns.length
local macro_rules | `(tactic| ktr_rel) => `(tactic| first
  | (with_reducible refine wpAny_execs_cons ?_)
  | (with_reducible refine wpAny_Return_some ?_)
  | ((with_reducible show wpAny _ _ (exec (Stmt.Assign _ _ _) _) _ _ _); refine wpAny_Assign_Name ?_)
  | ((with_reducible show wpAny _ _ (eval (Expr.Compare _ _ _ _) _) _ _ _); refine wpAny_Compare1 ?_)
  | (with_reducible refine wpAny_BinOp ?_)
  | (with_reducible refine Subscript_ ?_)
  | (with_reducible refine wpAny_Slice ?_)
  | (with_reducible refine wpAny_evalPart_none ?_)
  | (with_reducible refine wpAny_evalPart_some ?_)
  | (with_reducible refine r_int fun _ _ => ?_)
  | (with_reducible refine r_str fun _ _ => ?_)
  | (with_reducible refine List_ ?_)
  | ((with_reducible show wpAny _ _ (spliced _) _ _ _); first | refine r_args ?_ | refine r_arg ?_)
  | ((with_reducible show wpAny _ _ (binaryOp Operator.Add (Value.int _ _) _) _ _ _); refine r_add fun _ _ => ?_)
  | ((with_reducible show wpAny _ _ (compareOp CmpOp.Eq (Value.int _ _) _) _ _ _); refine r_eq ?_))
set_option maxHeartbeats 1000000 in
theorem p0 {A : Around} {Q : Flow → Shared → Prop} {a : Nat} {vs : List Value} {ns : List Int} (F : LF L h m vn vi vj vr) (G : Gnd g L mg mb) (hs : Sub g h) (hm : m "script" = some (.ref a)) (ha : h.IsList a vs.toArray) (hi : IntsAre vs ns) (hn : ns.length ≤ 63)
    (hq : ∀ h' tk' nA ws, LF L h' (fun y => if y = "numbers" then some (.ref nA) else m y) vn vi vj vr → Kp L [] h h' → h'.IsList nA (List.toArray ws) → IntsAre ws (numsOf ns) → Q .next (sh s h' tk')) :
    wpAny (model pw w) A (exec (lawStmt 0) (lawEnv L fa)) Q E (sh s h tk) := by
  have hvl : vs.length = ns.length := hi.length
  refine wpAny_Assign_Name ?_
  ktr_rel
  ktr_rel
  refine r_name F.ns hm ?_
  refine r_mkSlice (wpAny_evalPart_none (wpAny_evalPart_some (r_int fun _ _ h1 s1 e1 => ?_)))
  refine r_slice (s1.list ha) e1 .none (.int _ _) (by rw [List.size_toArray]; have : sizeLine = 2 ^ 24 := rfl; omega) fun h2 s2 e2 => ?_
  have i2 := kmk_upto hi (show (0 : Int) ≤ 16 by decide)
  generalize hx2 : slicePick vs.toArray none (some 16) none = its2 at e2 i2
  have sub2 : Sub h h2 := s1.trans s2
  show wpAny _ _ _ _ _ (sh s h2 _)
  ktr_rel
  repeat ktr_rel
  refine r_newList ?z fun h3 s3 e3 _ => ?_
  case z => show 4 ≤ 2 ^ 24; decide
  have sub3 := sub2.trans s3
  refine r_mkSlice (wpAny_evalPart_some ?_)
  refine r_call1 (fun Q' hq => r_builtin ((hs.trans sub3).ns G.ng) G.nLen ((hs.trans sub3).ns G.nb) G.bLen hq) ?_
  refine r_name (sub3.ns F.ns) hm ?_
  refine r_len (sub3.list ha) (by rw [List.size_toArray]; omega) fun _ _ => ?_
  refine wpAny_evalPart_none fun h4 s4 e4 => ?_
  show wpAny _ _ _ _ _ (sh s h4 _)
  refine r_slice (s4.list e3) e4 (.int _ _) .none ?z fun h5 s5 e5 => ?_
  case z => show 4 ≤ 2 ^ 24; decide
  have hsz : vs.toArray.size = ns.length := by rw [List.size_toArray, hvl]
  rw [hsz] at e5
  obtain ⟨its5, e5, i5⟩ : ∃ its5 : Array Value, h5.IsList h4.objs.size its5 ∧ IntsAre its5.toList (([0, 1, 2, 3] : List Int).drop ns.length) :=
    ⟨_, e5, kmk_from (.cons 0 _ (.cons 1 _ (.cons 2 _ (.cons 3 _ .nil)))) (show (0 : Int) ≤ (ns.length : Int) by omega)⟩
  have hl2 := i2.length
  have hl5 := i5.length
  rw [List.length_take] at hl2
  rw [List.length_drop] at hl5
  refine r_addList (vs := its2.toList) (ws := its5.toList) (by simpa using (s3.trans (s4.trans s5)).list e2) (by simpa using e5) ?z fun h6 s6 e6 => ?_
  case z => rw [hl2, hl5]; have : sizeLine = 2 ^ 24 := rfl; simp only [List.length_cons, List.length_nil]; omega
  have sub6 : Sub h h6 := sub3.trans (s4.trans (s5.trans s6))
  refine l_store (F.sub sub6) fun h7 tk7 F7 k7 => ?_
  exact hq h7 tk7 h5.objs.size _ F7 (sub6.kp.trans k7) (k7.list e6 ((F.sub sub6).offList e6) (by simp)) (i2.append i5)
end
end Mine
end
section
namespace Mine
def nameOf : Stmt → Str
  | .FunctionDef n _ _ _ _ _ _ _ _ _ => n
  | _ => Str.empty
def posOf : Stmt → Pos
  | .FunctionDef _ _ _ _ _ _ _ _ _ p => p
  | _ => default
abbrev gEnv (L : Nat) : Env := envOf (Str.ofString "get_data_mask_functions") (scopeOf getDef) L 28 (.ref 27)
def qn (k : Nat) : Str := Str.ofString "get_data_mask_functions" ++ (".<locals>." : Str) ++ nameOf (fnDef k)
/-- kept, but for the table at 23 and the frame at L -/
def K2 (L : Nat) (h h' : Heap) : Prop := ∀ b o, b ≠ 23 → b ≠ L → h.get? b = some o → h'.get? b = some o
theorem K2.trans {L h h' h''} (a : K2 L h h') (b : K2 L h' h'') : K2 L h h'' := fun x o h1 h2 e => b x o h1 h2 (a x o h1 h2 e)
def FnMade (h : Heap) (f k : Nat) (c : Nat) : Prop := ∃ doc pm ct, h.get? f = some (fnMade (nameOf (fnDef k)) (qn k) (paramsOf (fnDef k)) (bodyOf (fnDef k)) (scopeOf (fnDef k)) [] doc pm c ct) ∧ h.CodeRec (.ref c) (qn k)
theorem FnMade.mask {h f k c} (x : FnMade h f k c) : MaskFn h f k := let ⟨doc, pm, ct, e, r⟩ := x; ⟨_, _, doc, pm, ct, c, _, e, rfl, r⟩
theorem not_at {h : Heap} {a b : Nat} {o o' : Obj} (e : h.get? a = some o) (e' : h.get? b = some o') (d : o.data ≠ o'.data) : a ≠ b := by rintro rfl; rw [e] at e'; cases e'; exact d rfl
theorem FnMade.k2 {L h h' f k c m ps} (x : FnMade h f k c) (kk : K2 L h h') (hn : h.Ns L m) (hP : h.get? 23 = some (tabObj ps)) (hc23 : ∀ o vs, h.get? c = some o → o.data = .fields vs → c ≠ 23) : FnMade h' f k c := by
  obtain ⟨doc, pm, ct, e, c', o, vs, t, rc, ec, dc, v1⟩ := x
  cases rc
  obtain ⟨oL, es, ep, eL, dL, _⟩ := hn
  refine ⟨doc, pm, ct, kk _ _ (not_at e hP (by simp)) (not_at e eL (by rw [dL]; simp)) e, c, o, vs, t, rfl, kk _ _ (hc23 o vs ec dc) (not_at ec eL (by rw [dc, dL]; simp)) ec, dc, v1⟩
section
variable {prog : Program} {w : World} {A : Around} {E : Value → Shared → Prop} {s : Shared} {h : Heap} {tk : Tok} {L L' : Nat} {g : Heap} {m mg mb : Str → Option Value} {ps : Array Value}
theorem Gnd.builtinsAt {P : Nat} (G : Gnd g L mg mb) (hs : Sub g h) (hP : g.get? P = none) : h.BuiltinsAt mg P := by
  obtain ⟨bm, ob, b1, b2, b3, b4, b5, b6⟩ := G.bm
  refine ⟨bm, ob, b1, b2, ?_, ?_, hs _ _ b3, b4, b5, b6⟩
  · rintro rfl
    obtain ⟨o, es, ep, e, hd, _⟩ := G.ng
    rw [e] at b3; cases b3; rw [hd] at b6; cases b6
  · rintro rfl; rw [hP] at b3; cases b3
theorem g_missG {Q : Flow → Shared → Prop} {name : Str} {params : Arguments} {body : List Stmt} {scope : Scope} {pos : Pos} {env : Env} {P c : Nat} (hloc : env.locals = L') (hge : env.globals = mainGlobals) (hcode : env.code = .ref c) (hC : CodeHd g c P) (hPg : g.get? P = none)
    (hkind : env.scope.kind = .function) (hkn : env.kindOf name = some .local) (hd0 : params.defaults = []) (hk0 : params.kw_defaults = []) (ha : annTrees params none env = []) (hcl : closureFor scope env = pure [])
    (G : Gnd g L mg mb) (hs : Sub g h) (hn : h.Ns L' m) (hP : h.get? P = some (tabObj ps)) (ht : TriplesOk ps.toList) (hnf : codeAmong pos ps.toList = none)
    (hq : ∀ h' tk f c' doc pm ct, h'.Ns L' (fun y => if y = name then some (.ref f) else m y) → (∀ b o, b ≠ P → b ≠ L' → h.get? b = some o → h'.get? b = some o) → h'.get? P = some (tabObj (ps ++ #[rawInt pos.line, rawInt pos.col, .ref c'])) →
      h'.get? f = some (fnMade name (qualnameIn env name name) params body scope [] doc pm c' ct) → h'.CodeRec (.ref c') (qualnameIn env name name) → h.objs.size ≤ c' → c' < f → Q .next (sh s h' tk)) :
    wpAny (model prog w) A (exec (.FunctionDef name params body [] none [] scope none name pos) env) Q E (sh s h tk) := by
  have hgs : h.Ns mainGlobals mg := hs.ns G.ng
  have hgP : mainGlobals ≠ P := by
    rintro rfl
    obtain ⟨o, es, ep, e, _⟩ := G.ng
    rw [hPg] at e; cases e
  refine nestDef_K hd0 hk0 ha (makeFunction_K (s := sh s h tk) hcl hge hgs hcode (hC.keeps hs) hP ht hnf hgP (G.builtinsAt hs hPg) fun c' ct doc h1 tk1 hx hsz hlt hrec htb => ?_)
  have hL'P : L' ≠ P := by
    obtain ⟨o, es, ep, e, d, _⟩ := hn
    exact (not_at hP e (by rw [d]; simp)).symm
  have hn1 : (h1.push (fnMade name (qualnameIn env name name) params body scope [] doc ((mg "__name__").getD .none) c' ct)).Ns env.locals m := by
    rw [hloc]; exact (hn.extBut hx hL'P).push _
  refine r_store (s := s) (tk := tk1) hn1 (fun h2 tk2 hn2 sb => ?_) hkind hkn
  rw [hloc] at hn2 sb
  have hLlt : L' < h.objs.size := hn.lt
  have hc1 : h.objs.size ≤ c' := hsz
  refine hq h2 tk2 h1.objs.size c' doc _ ct hn2 (fun b o b1 b2 e => (sb.2 b b2).trans (Heap.get?_push_of_some _ (hx b o b1 e))) ((sb.2 P (Ne.symm hL'P)).trans (Heap.get?_push_of_some _ htb))
    ((sb.2 h1.objs.size (show h1.objs.size ≠ L' by omega)).trans (Heap.get?_push_size _ rfl)) ?_ hc1 hlt
  obtain ⟨c2, oc, vs, t, e2, hoc, hd, hv⟩ := hrec
  cases e2
  exact ⟨c', oc, vs, t, rfl, (sb.2 c' (show (c' : Nat) ≠ L' by omega)).trans (Heap.get?_push_of_some _ hoc), hd, hv⟩
theorem g_hitG {Q : Flow → Shared → Prop} {name : Str} {params : Arguments} {body : List Stmt} {scope : Scope} {pos : Pos} {env : Env} {P c c' : Nat} (hloc : env.locals = L') (hge : env.globals = mainGlobals) (hcode : env.code = .ref c) (hC : CodeHd g c P) (hPg : g.get? P = none)
    (hkind : env.scope.kind = .function) (hkn : env.kindOf name = some .local) (hd0 : params.defaults = []) (hk0 : params.kw_defaults = []) (ha : annTrees params none env = []) (hcl : closureFor scope env = pure [])
    (G : Gnd g L mg mb) (hs : Sub g h) (hn : h.Ns L' m) (hP : h.get? P = some (tabObj ps)) (ht : TriplesOk ps.toList) (hnf : codeAmong pos ps.toList = some (.ref c'))
    (hq : ∀ h' tk f doc pm ct, h'.Ns L' (fun y => if y = name then some (.ref f) else m y) → (∀ b o, b ≠ L' → h.get? b = some o → h'.get? b = some o) →
      h'.get? f = some (fnMade name (qualnameIn env name name) params body scope [] doc pm c' ct) → h.objs.size ≤ f → Q .next (sh s h' tk)) :
    wpAny (model prog w) A (exec (.FunctionDef name params body [] none [] scope none name pos) env) Q E (sh s h tk) := by
  have hgs : h.Ns mainGlobals mg := hs.ns G.ng
  refine nestDef_K hd0 hk0 ha (makeFunction_hit (s := sh s h tk) hcl hge hgs hcode (hC.keeps hs) hP ht hnf (G.builtinsAt hs hPg) fun ct doc h1 tk1 hx hsz => ?_)
  have hn1 : (h1.push (fnMade name (qualnameIn env name name) params body scope [] doc ((mg "__name__").getD .none) c' ct)).Ns env.locals m := by
    rw [hloc]; exact (hn.keeps hx).push _
  refine r_store (s := s) (tk := tk1) hn1 (fun h2 tk2 hn2 sb => ?_) hkind hkn
  rw [hloc] at hn2 sb
  have hLlt : L' < h.objs.size := hn.lt
  have hsz' : h.objs.size ≤ h1.objs.size := hsz
  exact hq h2 tk2 h1.objs.size doc _ ct hn2 (fun b o b2 e => (sb.2 b b2).trans (Heap.get?_push_of_some _ (hx b o e))) ((sb.2 h1.objs.size (show h1.objs.size ≠ L' by omega)).trans (Heap.get?_push_size _ rfl)) hsz'
end
end Mine
end
section
namespace Mine
theorem FnMade.k2' {L h h' f k c} (x : FnMade h f k c) (kk : K2 L h h') (f1 : f ≠ 23) (f2 : f ≠ L) (c1 : c ≠ 23) (c2 : c ≠ L) : FnMade h' f k c := by
  obtain ⟨doc, pm, ct, e, c', o, vs, t, rc, ec, dc, v1⟩ := x
  cases rc
  exact ⟨doc, pm, ct, kk _ _ f1 f2 e, c, o, vs, t, rfl, kk _ _ c1 c2 ec, dc, v1⟩
theorem FnMade.sub {h h' f k c} (x : FnMade h f k c) (st : Sub h h') : FnMade h' f k c :=
  let ⟨doc, pm, ct, e, r⟩ := x; ⟨doc, pm, ct, st _ _ e, st.codeRec r⟩
theorem triples_snoc {a b : Int} {t u : Tok} {v : Value} : ∀ {l : List Value}, TriplesOk l → TriplesOk (l ++ [.int a t, .int b u, v])
  | [], _ => trivial
  | .int _ _ :: .int _ _ :: _ :: r, h => triples_snoc (l := r) h
theorem among_snoc {pos : Pos} {a b : Int} {t u : Tok} {v : Value} : ∀ {l : List Value}, TriplesOk l → codeAmong pos (l ++ [.int a t, .int b u, v]) = (codeAmong pos l).or (if a == pos.line && b == pos.col then some v else none)
  | [], _ => by simp [codeAmong]
  | .int x _ :: .int y _ :: c :: r, h => by
    have ih := among_snoc (pos := pos) (a := a) (b := b) (t := t) (u := u) (v := v) (l := r) h
    show codeAmong pos (.int x _ :: .int y _ :: c :: (r ++ _)) = _
    unfold codeAmong
    rw [ih]
    split <;> rfl
structure Tab (k : Nat) (ps : Array Value) (cs : Nat → Nat) : Prop where
  ok : TriplesOk ps.toList
  none : ∀ j, k ≤ j → j < 8 → codeAmong (posOf (fnDef j)) ps.toList = none
  some : ∀ j, j < k → codeAmong (posOf (fnDef j)) ps.toList = some (.ref (cs j))
def put (f : Nat → Nat) (k v : Nat) : Nat → Nat := fun j => if j = k then v else f j
theorem pos_apart : ∀ k < 8, ∀ j < 8, j ≠ k → (((posOf (fnDef k)).line : Int) == (posOf (fnDef j)).line && ((posOf (fnDef k)).col : Int) == (posOf (fnDef j)).col) = false := by decide +kernel
theorem name_apart : ∀ k < 8, (∀ j < 8, j ≠ k → nameOf (fnDef j) ≠ nameOf (fnDef k)) ∧ (Str.ofString "is_micro") ≠ nameOf (fnDef k) := by decide +kernel
theorem Tab.zero {cs} : Tab 0 #[] cs := ⟨trivial, fun _ _ _ => rfl, fun _ h => absurd h (Nat.not_lt_zero _)⟩
theorem Tab.snoc {k ps cs c} (x : Tab k ps cs) (hk : k < 8) : Tab (k + 1) (ps ++ #[rawInt (posOf (fnDef k)).line, rawInt (posOf (fnDef k)).col, .ref c]) (put cs k c) := by
  have e : (ps ++ #[rawInt (posOf (fnDef k)).line, rawInt (posOf (fnDef k)).col, .ref c]).toList = ps.toList ++ [.int (posOf (fnDef k)).line 0, .int (posOf (fnDef k)).col 0, .ref c] := by simp [rawInt]
  refine ⟨by rw [e]; exact triples_snoc x.ok, fun j h1 h2 => ?_, fun j h1 => ?_⟩
  · rw [e, among_snoc x.ok, x.none j (by omega) h2, pos_apart k hk j h2 (by omega)]; rfl
  · rw [e, among_snoc x.ok]
    by_cases hj : j = k
    · subst hj
      rw [x.none j (Nat.le_refl _) hk]
      simp [put]
    · rw [x.some j (by omega)]
      simp [put, hj]
theorem sub_k2 {L' : Nat} {g h h' : Heap} (hs : Sub g h) (kk : K2 L' h h') (t23 : g.get? 23 = none) (tL : g.get? L' = none) : Sub g h' := fun b o e =>
  kk b o (fun q => by rw [q, t23] at e; cases e) (fun q => by rw [q, tL] at e; cases e) (hs b o e)
theorem bnd1 {a : Str} {x : Value} {P : Str × Value → Prop} (ha : P (a, x)) : ∀ z ∈ [(a, x)], P z := fun z hz => by
  rcases List.mem_cons.mp hz with rfl | hz
  · exact ha
  · cases hz
section
variable {prog : Program} {w : World} {A : Around} {E : Value → Shared → Prop} {s : Shared} {h : Heap} {tk : Tok} {L L' : Nat} {g : Heap} {m mg mb : Str → Option Value} {ps : Array Value}
theorem g_miss {k : Nat} (hk : k < 8) {Q : Flow → Shared → Prop} (G : Gnd g L mg mb) (hs : Sub g h) (hn : h.Ns L' m) (hP : h.get? 23 = some (tabObj ps)) (ht : TriplesOk ps.toList) (hnf : codeAmong (posOf (fnDef k)) ps.toList = none)
    (hq : ∀ h' tk (f c' : Nat), h'.Ns L' (fun y => if y = nameOf (fnDef k) then some (.ref f) else m y) → K2 L' h h' → h'.get? 23 = some (tabObj (ps ++ #[rawInt (posOf (fnDef k)).line, rawInt (posOf (fnDef k)).col, .ref c'])) →
      FnMade h' f k c' → L' < c' → L' < f → Q .next (sh s h' tk)) :
    wpAny (model prog w) A (exec (fnDef k) (gEnv L')) Q E (sh s h tk) := by
  have hlt : L' < h.objs.size := hn.lt
  match k, hk with
  | 0, _ => exact g_missG (env := gEnv L') rfl rfl rfl G.c27 G.t23 rfl rfl rfl rfl rfl rfl G hs hn hP ht hnf fun h' tk f c' doc pm ct a1 a2 a3 a4 a5 a6 a7 => hq h' tk f c' a1 a2 a3 ⟨doc, pm, ct, a4, a5⟩ (Nat.lt_of_lt_of_le hlt a6) (Nat.lt_trans (Nat.lt_of_lt_of_le hlt a6) a7)
  | 1, _ => exact g_missG (env := gEnv L') rfl rfl rfl G.c27 G.t23 rfl rfl rfl rfl rfl rfl G hs hn hP ht hnf fun h' tk f c' doc pm ct a1 a2 a3 a4 a5 a6 a7 => hq h' tk f c' a1 a2 a3 ⟨doc, pm, ct, a4, a5⟩ (Nat.lt_of_lt_of_le hlt a6) (Nat.lt_trans (Nat.lt_of_lt_of_le hlt a6) a7)
  | 2, _ => exact g_missG (env := gEnv L') rfl rfl rfl G.c27 G.t23 rfl rfl rfl rfl rfl rfl G hs hn hP ht hnf fun h' tk f c' doc pm ct a1 a2 a3 a4 a5 a6 a7 => hq h' tk f c' a1 a2 a3 ⟨doc, pm, ct, a4, a5⟩ (Nat.lt_of_lt_of_le hlt a6) (Nat.lt_trans (Nat.lt_of_lt_of_le hlt a6) a7)
  | 3, _ => exact g_missG (env := gEnv L') rfl rfl rfl G.c27 G.t23 rfl rfl rfl rfl rfl rfl G hs hn hP ht hnf fun h' tk f c' doc pm ct a1 a2 a3 a4 a5 a6 a7 => hq h' tk f c' a1 a2 a3 ⟨doc, pm, ct, a4, a5⟩ (Nat.lt_of_lt_of_le hlt a6) (Nat.lt_trans (Nat.lt_of_lt_of_le hlt a6) a7)
  | 4, _ => exact g_missG (env := gEnv L') rfl rfl rfl G.c27 G.t23 rfl rfl rfl rfl rfl rfl G hs hn hP ht hnf fun h' tk f c' doc pm ct a1 a2 a3 a4 a5 a6 a7 => hq h' tk f c' a1 a2 a3 ⟨doc, pm, ct, a4, a5⟩ (Nat.lt_of_lt_of_le hlt a6) (Nat.lt_trans (Nat.lt_of_lt_of_le hlt a6) a7)
  | 5, _ => exact g_missG (env := gEnv L') rfl rfl rfl G.c27 G.t23 rfl rfl rfl rfl rfl rfl G hs hn hP ht hnf fun h' tk f c' doc pm ct a1 a2 a3 a4 a5 a6 a7 => hq h' tk f c' a1 a2 a3 ⟨doc, pm, ct, a4, a5⟩ (Nat.lt_of_lt_of_le hlt a6) (Nat.lt_trans (Nat.lt_of_lt_of_le hlt a6) a7)
  | 6, _ => exact g_missG (env := gEnv L') rfl rfl rfl G.c27 G.t23 rfl rfl rfl rfl rfl rfl G hs hn hP ht hnf fun h' tk f c' doc pm ct a1 a2 a3 a4 a5 a6 a7 => hq h' tk f c' a1 a2 a3 ⟨doc, pm, ct, a4, a5⟩ (Nat.lt_of_lt_of_le hlt a6) (Nat.lt_trans (Nat.lt_of_lt_of_le hlt a6) a7)
  | 7, _ => exact g_missG (env := gEnv L') rfl rfl rfl G.c27 G.t23 rfl rfl rfl rfl rfl rfl G hs hn hP ht hnf fun h' tk f c' doc pm ct a1 a2 a3 a4 a5 a6 a7 => hq h' tk f c' a1 a2 a3 ⟨doc, pm, ct, a4, a5⟩ (Nat.lt_of_lt_of_le hlt a6) (Nat.lt_trans (Nat.lt_of_lt_of_le hlt a6) a7)
  | k + 8, hk => omega
theorem g_hit {k : Nat} (hk : k < 8) {c' : Nat} {Q : Flow → Shared → Prop} (G : Gnd g L mg mb) (hs : Sub g h) (hn : h.Ns L' m) (hP : h.get? 23 = some (tabObj ps)) (ht : TriplesOk ps.toList) (hnf : codeAmong (posOf (fnDef k)) ps.toList = some (.ref c')) (hc : h.CodeRec (.ref c') (qn k)) (hcL : c' ≠ L')
    (hq : ∀ h' tk (f : Nat), h'.Ns L' (fun y => if y = nameOf (fnDef k) then some (.ref f) else m y) → (∀ b o, b ≠ L' → h.get? b = some o → h'.get? b = some o) → FnMade h' f k c' → L' < f → Q .next (sh s h' tk)) :
    wpAny (model prog w) A (exec (fnDef k) (gEnv L')) Q E (sh s h tk) := by
  have hlt : L' < h.objs.size := hn.lt
  have cr : ∀ h' : Heap, (∀ b o, b ≠ L' → h.get? b = some o → h'.get? b = some o) → h'.CodeRec (.ref c') (qn k) := fun h' kk => by
    obtain ⟨c2, o, vs, t, rc, ec, r⟩ := hc
    cases rc
    exact ⟨c', o, vs, t, rfl, kk _ _ hcL ec, r⟩
  match k, hk with
  | 0, _ => exact g_hitG (env := gEnv L') rfl rfl rfl G.c27 G.t23 rfl rfl rfl rfl rfl rfl G hs hn hP ht hnf fun h' tk f doc pm ct a1 a2 a3 a4 => hq h' tk f a1 a2 ⟨doc, pm, ct, a3, cr h' a2⟩ (Nat.lt_of_lt_of_le hlt a4)
  | 1, _ => exact g_hitG (env := gEnv L') rfl rfl rfl G.c27 G.t23 rfl rfl rfl rfl rfl rfl G hs hn hP ht hnf fun h' tk f doc pm ct a1 a2 a3 a4 => hq h' tk f a1 a2 ⟨doc, pm, ct, a3, cr h' a2⟩ (Nat.lt_of_lt_of_le hlt a4)
  | 2, _ => exact g_hitG (env := gEnv L') rfl rfl rfl G.c27 G.t23 rfl rfl rfl rfl rfl rfl G hs hn hP ht hnf fun h' tk f doc pm ct a1 a2 a3 a4 => hq h' tk f a1 a2 ⟨doc, pm, ct, a3, cr h' a2⟩ (Nat.lt_of_lt_of_le hlt a4)
  | 3, _ => exact g_hitG (env := gEnv L') rfl rfl rfl G.c27 G.t23 rfl rfl rfl rfl rfl rfl G hs hn hP ht hnf fun h' tk f doc pm ct a1 a2 a3 a4 => hq h' tk f a1 a2 ⟨doc, pm, ct, a3, cr h' a2⟩ (Nat.lt_of_lt_of_le hlt a4)
  | 4, _ => exact g_hitG (env := gEnv L') rfl rfl rfl G.c27 G.t23 rfl rfl rfl rfl rfl rfl G hs hn hP ht hnf fun h' tk f doc pm ct a1 a2 a3 a4 => hq h' tk f a1 a2 ⟨doc, pm, ct, a3, cr h' a2⟩ (Nat.lt_of_lt_of_le hlt a4)
  | 5, _ => exact g_hitG (env := gEnv L') rfl rfl rfl G.c27 G.t23 rfl rfl rfl rfl rfl rfl G hs hn hP ht hnf fun h' tk f doc pm ct a1 a2 a3 a4 => hq h' tk f a1 a2 ⟨doc, pm, ct, a3, cr h' a2⟩ (Nat.lt_of_lt_of_le hlt a4)
  | 6, _ => exact g_hitG (env := gEnv L') rfl rfl rfl G.c27 G.t23 rfl rfl rfl rfl rfl rfl G hs hn hP ht hnf fun h' tk f doc pm ct a1 a2 a3 a4 => hq h' tk f a1 a2 ⟨doc, pm, ct, a3, cr h' a2⟩ (Nat.lt_of_lt_of_le hlt a4)
  | 7, _ => exact g_hitG (env := gEnv L') rfl rfl rfl G.c27 G.t23 rfl rfl rfl rfl rfl rfl G hs hn hP ht hnf fun h' tk f doc pm ct a1 a2 a3 a4 => hq h' tk f a1 a2 ⟨doc, pm, ct, a3, cr h' a2⟩ (Nat.lt_of_lt_of_le hlt a4)
  | k + 8, hk => omega
/-- the frame of the maker, k defs run -/
structure Mk (g h0 : Heap) (L' k : Nat) (b : Bool) (h : Heap) (m : Str → Option Value) (ps : Array Value) (fs cs : Nat → Nat) : Prop where
  gs : Sub g h
  ns : h.Ns L' m
  tb : h.get? 23 = some (tabObj ps)
  kk : K2 L' h0 h
  mi : m "is_micro" = some (.bool b)
  nm : ∀ j, j < k → m (nameOf (fnDef j)) = some (.ref (fs j))
  fn : ∀ j, j < k → FnMade h (fs j) j (cs j) ∧ L' < fs j ∧ L' < cs j
theorem defs_miss (G : Gnd g L mg mb) (h23 : 23 < L') (tL : g.get? L' = none) {h0 : Heap} {b : Bool} {rest : List Stmt} {Q : Flow → Shared → Prop}
    (hq : ∀ h m ps fs cs tk, Mk g h0 L' 8 b h m ps fs cs → Tab 8 ps cs → wpAny (model prog w) A (execs rest (gEnv L')) Q E (sh s h tk)) :
    ∀ n k, k + n = 8 → ∀ h m ps fs cs tk, Mk g h0 L' k b h m ps fs cs → Tab k ps cs → wpAny (model prog w) A (execs ((List.range' k n).map fnDef ++ rest) (gEnv L')) Q E (sh s h tk) := by
  intro n
  induction n with
  | zero => intro k hk h m ps fs cs tk M T; obtain rfl : k = 8 := (by omega); exact hq h m ps fs cs tk M T
  | succ n ih =>
    intro k hk h m ps fs cs tk M T
    have hk8 : k < 8 := by omega
    have na := name_apart k hk8
    show wpAny _ _ (execs (fnDef k :: ((List.range' (k + 1) n).map fnDef ++ rest)) _) _ _ _
    refine wpAny_execs_cons (g_miss hk8 G M.gs M.ns M.tb T.ok (T.none k (Nat.le_refl _) hk8) fun h' tk' f c' hn' kk hP' hf lc lf => ?_)
    refine ih (k + 1) (by omega) h' _ _ (put fs k f) (put cs k c') tk' ⟨sub_k2 M.gs kk G.t23 tL, hn', hP', M.kk.trans kk, ?_, fun j hj => ?_, fun j hj => ?_⟩ (T.snoc hk8)
    · show (if (Str.ofString "is_micro") = nameOf (fnDef k) then _ else _) = _
      rw [if_neg na.2]; exact M.mi
    · by_cases e : j = k
      · subst e; simp [put]
      · show (if nameOf (fnDef j) = nameOf (fnDef k) then _ else _) = _
        rw [if_neg (na.1 j (by omega) e), M.nm j (by omega)]; simp [put, e]
    · by_cases e : j = k
      · subst e; simp only [put, if_true]; exact ⟨hf, lf, lc⟩
      · obtain ⟨a, b1, b2⟩ := M.fn j (by omega)
        simp only [put, e, if_false]
        exact ⟨a.k2' kk (by omega) (by omega) (by omega) (by omega), b1, b2⟩
theorem defs_hit (G : Gnd g L mg mb) (h23 : 23 < L') (tL : g.get? L' = none) {h0 : Heap} {b : Bool} {rest : List Stmt} {Q : Flow → Shared → Prop} {cs : Nat → Nat} (hc0 : ∀ j < 8, h0.CodeRec (.ref (cs j)) (qn j) ∧ cs j ≠ 23 ∧ cs j ≠ L') (T : Tab 8 ps cs)
    (hq : ∀ h m (fs : Nat → Nat) tk, Sub g h → h.Ns L' m → (∀ b o, b ≠ L' → h0.get? b = some o → h.get? b = some o) → m "is_micro" = some (.bool b) → (∀ j, j < 8 → m (nameOf (fnDef j)) = some (.ref (fs j))) → (∀ j, j < 8 → FnMade h (fs j) j (cs j) ∧ L' < fs j) → wpAny (model prog w) A (execs rest (gEnv L')) Q E (sh s h tk))
    (h0P : h0.get? 23 = some (tabObj ps)) :
    ∀ n k, k + n = 8 → ∀ h m (fs : Nat → Nat) tk, Sub g h → h.Ns L' m → (∀ b o, b ≠ L' → h0.get? b = some o → h.get? b = some o) → m "is_micro" = some (.bool b) → (∀ j, j < k → m (nameOf (fnDef j)) = some (.ref (fs j))) → (∀ j, j < k → FnMade h (fs j) j (cs j) ∧ L' < fs j) →
      wpAny (model prog w) A (execs ((List.range' k n).map fnDef ++ rest) (gEnv L')) Q E (sh s h tk) := by
  intro n
  induction n with
  | zero => intro k hk h m fs tk a1 a2 a3 a4 a5 a6; obtain rfl : k = 8 := (by omega); exact hq h m fs tk a1 a2 a3 a4 a5 a6
  | succ n ih =>
    intro k hk h m fs tk a1 a2 a3 a4 a5 a6
    have hk8 : k < 8 := by omega
    have na := name_apart k hk8
    obtain ⟨cr, c1, c2⟩ := hc0 k hk8
    have cr' : h.CodeRec (.ref (cs k)) (qn k) := by
      obtain ⟨c2', o, vs, t, rc, ec, r⟩ := cr
      cases rc
      exact ⟨cs k, o, vs, t, rfl, a3 _ _ c2 ec, r⟩
    show wpAny _ _ (execs (fnDef k :: ((List.range' (k + 1) n).map fnDef ++ rest)) _) _ _ _
    refine wpAny_execs_cons (g_hit hk8 G a1 a2 (a3 23 _ (by omega) h0P) T.ok (T.some k hk8) cr' c2 fun h' tk' f hn' kk hf lf => ?_)
    have kk2 : K2 L' h h' := fun b o _ b2 e => kk b o b2 e
    refine ih (k + 1) (by omega) h' _ (put fs k f) tk' (sub_k2 a1 kk2 G.t23 tL) hn' (fun b o b1 e => kk b o b1 (a3 b o b1 e)) ?_ (fun j hj => ?_) fun j hj => ?_
    · show (if (Str.ofString "is_micro") = nameOf (fnDef k) then _ else _) = _
      rw [if_neg na.2]; exact a4
    · by_cases e : j = k
      · subst e; simp [put]
      · show (if nameOf (fnDef j) = nameOf (fnDef k) then _ else _) = _
        rw [if_neg (na.1 j (by omega) e), a5 j (by omega)]; simp [put, e]
    · by_cases e : j = k
      · subst e; simp only [put, if_true]; exact ⟨hf, lf⟩
      · obtain ⟨a, b1⟩ := a6 j (by omega)
        obtain ⟨_, d1, d2⟩ := hc0 j (by omega)
        simp only [put, e, if_false]
        exact ⟨a.k2' kk2 (by omega) (by omega) d1 d2, b1⟩
end
end Mine
end
section
namespace Mine
section
variable {prog : Program} {w : World} {A : Around} {E : Value → Shared → Prop} {s : Shared} {h : Heap} {tk : Tok} {L L' : Nat} {g : Heap} {m mg mb : Str → Option Value} {ps : Array Value}
theorem body_split : bodyOf getDef = (List.range' 0 8).map fnDef ++ (bodyOf getDef).drop 8 := rfl
theorem r_newTuple {Q : Value → Shared → Prop} {vs : List Value} (hsz : vs.length ≤ sizeLine) (hq : ∀ h', Sub h h' → IsTup h' h.objs.size vs.toArray → Q (.ref h.objs.size) (sh s h' tk)) : wpAny (model prog w) A (newTuple vs) Q E (sh s h tk) :=
  wpAny_newTuple (s := sh s h tk) (hq _ (Sub.push _ _) ⟨_, Heap.get?_push_size _ rfl, rfl, _, rfl⟩) hsz
theorem g_call1 {R : Result → Shared → Prop} (G : Gnd g L mg mb) (hs : Sub g h) (hP : h.get? 23 = some (tabObj #[])) (hroom : A.depth < recursionLimit)
    (hR : ∀ h' tk' (T : Nat) (fs cs : Nat → Nat) ps, (∀ b o, b ≠ 23 → h.get? b = some o → h'.get? b = some o) → IsTup h' T ((List.range' 0 8).map fun k => Value.ref (fs k)).toArray → h'.get? 23 = some (tabObj ps) → Tab 8 ps cs →
      (∀ j < 8, FnMade h' (fs j) j (cs j) ∧ h.objs.size < fs j ∧ h.objs.size < cs j) → R (.ok (.ret (.ref T))) (sh s h' tk')) :
    codeAny (model prog w) A (.call (.ref 28) ⟨[.bool false], []⟩) R (sh s h tk) := by
  obtain ⟨name, doc, pm, ct, o, ho, hd, hcd⟩ := G.maker
  refine codeAny_call_def (s := sh s h tk) (binds := [(Str.ofString "is_micro", .bool false)]) hroom (hs _ _ ho) hd (hs.nolimit G.lim) (hs.codeRec hcd) rfl (BindsTo.of_eq rfl)
    (show ∀ x ∈ (scopeOf getDef).names, x.2 ≠ .cell by decide) (bnd1 (show (scopeOf getDef).names.lookup (Str.ofString "is_micro") = _ by decide)) ?_
  intro h₀ hn0 hkp
  refine wpAny_mono (E := fun _ _ => False) (Q := fun f s' => R (.ok (.ret (match f with | .ret v => v | _ => .none))) s') ?_ (fun _ _ x => x) (fun _ _ x => x.elim)
  have hkp' : Sub h h₀ := hkp
  have hlt23 : 23 < h.objs.size := Heap.lt_size hP
  have tL : g.get? h.objs.size = none := by
    cases e : g.get? h.objs.size with
    | none => rfl
    | some o => exact absurd (Heap.lt_size (hs _ _ e)) (Nat.lt_irrefl _)
  show wpAny (model prog w) (A.deeper (gEnv h.objs.size)) (execs (bodyOf getDef) (gEnv h.objs.size)) _ _ (sh s h₀ _)
  rw [body_split]
  refine defs_miss G hlt23 tL (h0 := h₀) (b := false) (fun h8 m ps fs cs tk8 M T => ?_) 8 0 rfl h₀ _ #[] (fun _ => 0) (fun _ => 0) _ ⟨hs.trans hkp', hn0, hkp' _ _ hP, fun _ _ _ _ e => e, rfl, fun j hj => absurd hj (Nat.not_lt_zero _), fun j hj => absurd hj (Nat.not_lt_zero _)⟩ Tab.zero
  refine wpAny_execs_cons (wpAny_If (wpAny_isTrue_value (r_name M.ns M.mi (wpAny_truthy_bool ?_))))
  simp only [Bool.false_eq_true, if_false]
  refine wpAny_execs_nil (wpAny_execs_cons (wpAny_Return_some (Tuple_ ?_)))
  refine r_arg (r_name M.ns (M.nm 0 (by decide)) ?_)
  refine r_arg (r_name M.ns (M.nm 1 (by decide)) ?_)
  refine r_arg (r_name M.ns (M.nm 2 (by decide)) ?_)
  refine r_arg (r_name M.ns (M.nm 3 (by decide)) ?_)
  refine r_arg (r_name M.ns (M.nm 4 (by decide)) ?_)
  refine r_arg (r_name M.ns (M.nm 5 (by decide)) ?_)
  refine r_arg (r_name M.ns (M.nm 6 (by decide)) ?_)
  refine r_arg (r_name M.ns (M.nm 7 (by decide)) ?_)
  refine r_args (r_newTuple ?z fun h9 s9 e9 => ?_)
  case z => show 8 ≤ 2 ^ 24; decide
  refine hR h9 _ _ fs cs ps (fun b o b1 e => s9 _ _ (M.kk b o b1 (Nat.ne_of_lt (Heap.lt_size e)) (hkp' b o e))) e9 (s9 _ _ M.tb) T fun j hj => ?_
  obtain ⟨a, b1, b2⟩ := M.fn j hj
  exact ⟨a.sub s9, b1, b2⟩
theorem g_call2 {R : Result → Shared → Prop} {cs : Nat → Nat} (G : Gnd g L mg mb) (hs : Sub g h) (hP : h.get? 23 = some (tabObj ps)) (T : Tab 8 ps cs) (hc : ∀ j < 8, h.CodeRec (.ref (cs j)) (qn j) ∧ cs j ≠ 23 ∧ cs j < h.objs.size) (hroom : A.depth < recursionLimit)
    (hR : ∀ h' tk' (T : Nat) (fs : Nat → Nat), Sub h h' → IsTup h' T #[.ref (fs 1), .ref (fs 4), .ref (fs 6), .ref (fs 7)] →
      (∀ j < 8, FnMade h' (fs j) j (cs j) ∧ h.objs.size < fs j) → R (.ok (.ret (.ref T))) (sh s h' tk')) :
    codeAny (model prog w) A (.call (.ref 28) ⟨[.bool true], []⟩) R (sh s h tk) := by
  obtain ⟨name, doc, pm, ct, o, ho, hd, hcd⟩ := G.maker
  refine codeAny_call_def (s := sh s h tk) (binds := [(Str.ofString "is_micro", .bool true)]) hroom (hs _ _ ho) hd (hs.nolimit G.lim) (hs.codeRec hcd) rfl (BindsTo.of_eq rfl)
    (show ∀ x ∈ (scopeOf getDef).names, x.2 ≠ .cell by decide) (bnd1 (show (scopeOf getDef).names.lookup (Str.ofString "is_micro") = _ by decide)) ?_
  intro h₀ hn0 hkp
  refine wpAny_mono (E := fun _ _ => False) (Q := fun f s' => R (.ok (.ret (match f with | .ret v => v | _ => .none))) s') ?_ (fun _ _ x => x) (fun _ _ x => x.elim)
  have hkp' : Sub h h₀ := hkp
  have hlt23 : 23 < h.objs.size := Heap.lt_size hP
  have tL : g.get? h.objs.size = none := by
    cases e : g.get? h.objs.size with
    | none => rfl
    | some o => exact absurd (Heap.lt_size (hs _ _ e)) (Nat.lt_irrefl _)
  show wpAny (model prog w) (A.deeper (gEnv h.objs.size)) (execs (bodyOf getDef) (gEnv h.objs.size)) _ _ (sh s h₀ _)
  rw [body_split]
  refine defs_hit G hlt23 tL (h0 := h₀) (b := true) (cs := cs) (fun j hj => ⟨hkp'.codeRec (hc j hj).1, (hc j hj).2.1, Nat.ne_of_lt (hc j hj).2.2⟩) T (fun h8 m fs tk8 a1 a2 a3 a4 a5 a6 => ?_) (hkp' _ _ hP) 8 0 rfl h₀ _ (fun _ => 0) _ (hs.trans hkp') hn0 (fun _ _ _ e => e) rfl (fun j hj => absurd hj (Nat.not_lt_zero _)) (fun j hj => absurd hj (Nat.not_lt_zero _))
  refine wpAny_execs_cons (wpAny_If (wpAny_isTrue_value (r_name a2 a4 (wpAny_truthy_bool ?_))))
  simp only [if_true]
  refine wpAny_execs_cons (wpAny_Return_some (Tuple_ ?_))
  refine r_arg (r_name a2 (a5 1 (by decide)) ?_)
  refine r_arg (r_name a2 (a5 4 (by decide)) ?_)
  refine r_arg (r_name a2 (a5 6 (by decide)) ?_)
  refine r_arg (r_name a2 (a5 7 (by decide)) ?_)
  refine r_args (r_newTuple ?z fun h9 s9 e9 => ?_)
  case z => show 4 ≤ 2 ^ 24; decide
  refine hR h9 _ _ fs (fun b o e => s9 _ _ (a3 b o (Nat.ne_of_lt (Heap.lt_size e)) (hkp' b o e))) e9 fun j hj => ?_
  obtain ⟨a, b1⟩ := a6 j hj
  exact ⟨a.sub s9, b1⟩
end
end Mine
end
section
namespace Mine
def kindsL : List Nat := [0, 1, 2, 3, 4, 5, 6, 7, 1, 4, 6, 7]
section
variable {prog : Program} {w : World} {A : Around} {E : Value → Shared → Prop} {s : Shared} {h : Heap} {tk : Tok} {L fa : Nat} {g : Heap} {m mg mb : Str → Option Value} {vn vi vj vr : Option Value} {env : Env} {Q : Value → Shared → Prop}
theorem r_callT1 {x : Str} {p pos : Pos} {e : Expr} {T : String} {s : Shared} (hf : ∀ Q' : Value → Shared → Prop, Q' (.type T) s → wpAny (model prog w) A (eval (.Name x p) env) Q' E s)
    (ha : wpAny (model prog w) A (eval e env) (fun v s' => wpAny (model prog w) A (call (.type T) [v]) Q E s') E s)
    (hs : starEach [e] env = [(false, eval e env)] := by rfl) : wpAny (model prog w) A (eval (.Call (.Name x p) [e] [] pos) env) Q E s := by
  refine wpAny_Call_NameR (hf _ ?_)
  refine PySem.callWith_type (by rw [hs]; rfl) ?_
  rw [hs]
  exact Calls.evalArgs_plain (Calls.spliced_cons (wpAny_mono ha (fun v s' h' => Calls.spliced_nil h') fun _ _ x => x))
theorem r_callF {x : Str} {p pos : Pos} {e : Expr} {rest : List Expr} {f : Nat} {s : Shared} (hf : ∀ Q' : Value → Shared → Prop, Q' (.ref f) s → wpAny (model prog w) A (eval (.Name x p) env) Q' E s) (X : FnAt f s.heap)
    (ha : wpAny (model prog w) A (spliced (backTo pos (starEach (e :: rest) env))) (fun vs s₁ => FnAt f s₁.heap ∧ codeAny (model prog w) A (.call (.ref f) ⟨vs, []⟩) (wants Q E) s₁) E s)
    (he : starEach (e :: rest) env = (false, eval e env) :: starEach rest env := by rfl) (hplain : (backTo pos (starEach rest env)).any (·.1) = false := by rfl) : wpAny (model prog w) A (eval (.Call (.Name x p) (e :: rest) [] pos) env) Q E s :=
  wpAny_Call_NameR (hf _ (callWith_F X (wpAny_mono ha (fun vs s₁ h₁ => ⟨h₁.1, wpAny_call h₁.2⟩) fun _ _ x => x) he hplain))
theorem r_listOf {it : Nat} {items : Array Value} (ht : IsTup h it items) (hsz : items.size ≤ sizeLine) (hq : ∀ h', Sub h h' → h'.IsList h.objs.size items → Q (.ref h.objs.size) (sh s h' tk)) : wpAny (model prog w) A (call (.type "list") [.ref it]) Q E (sh s h tk) := by
  obtain ⟨o, ho, hc, n, hd⟩ := ht
  exact call_list_seq (s := sh s h tk) it (.inr rfl) ho hc hd (fun h' c' k e => hq h' k ⟨_, e, rfl, c', rfl⟩) hsz
theorem Gnd.maker_at (G : Gnd g L mg mb) (hs : Sub g h) : FnAt 28 h := by
  obtain ⟨name, doc, pm, ct, ⟨oc, od, dd, sl⟩, ho, hd, hcd⟩ := G.maker
  simp only at hd; subst hd
  exact ⟨oc, od, _, sl, hs _ _ ho⟩
theorem LF.k23 {h'} (F : LF L h m vn vi vj vr) (k : ∀ b o, b ≠ 23 → h.get? b = some o → h'.get? b = some o) (hL : 23 < L) : LF L h' m vn vi vj vr := by
  have c : ∀ {a : Nat} {v}, L < a → h.IsCell a v → h'.IsCell a v := fun {a v} ha x => let ⟨o, e, r⟩ := x; ⟨o, k _ _ (by show (a : Nat) ≠ 23; omega) e, r⟩
  refine ⟨?_, c (by omega) F.cN, c (by omega) F.cI, c (by omega) F.cJ, c (by omega) F.cR⟩
  obtain ⟨o, es, n, e, r⟩ := F.ns
  exact ⟨o, es, n, k _ _ (by show L ≠ 23; omega) e, r⟩
end
section
variable {w : World} {A : Around} {E : Value → Shared → Prop} {s : Shared} {h : Heap} {tk : Tok} {L fa : Nat} {g : Heap} {m mg mb : Str → Option Value} {vn vi vj vr : Option Value}
set_option maxHeartbeats 1000000 in
theorem p1 {Q : Flow → Shared → Prop} (F : LF L h m vn vi vj vr) (G : Gnd g L mg mb) (hs : Sub g h) (hL : 23 < L) (hP : h.get? 23 = some (tabObj #[])) (hroom : A.depth < recursionLimit)
    (hq : ∀ h' tk' (mA : Nat) (fs : List Nat) ps, LF L h' (fun y => if y = "masks" then some (.ref mA) else m y) vn vi vj vr → Kp L [23] h h' → h'.get? 23 = some (tabObj ps) → fs.length = 12 → h'.IsList mA (fs.map Value.ref).toArray →
      (∀ k < 12, MaskFn h' (fs.getD k 0) (kindsL.getD k 0)) → Q .next (sh s h' tk')) :
    wpAny (model pw w) A (exec (lawStmt 1) (lawEnv L fa)) Q E (sh s h tk) := by
  refine wpAny_Assign_Name (wpAny_BinOp ?_)
  refine r_callT1 (T := "list") (fun Q' hq => r_builtin (hs.ns G.ng) G.nList (hs.ns G.nb) G.bList hq) ?_
  refine r_callF (f := 28) (fun Q' hq => r_global (hs.ns G.ng) G.gG hq) (G.maker_at hs) ?_
  refine r_arg (wpAny_Constant_bool (r_args ⟨G.maker_at hs, ?_⟩))
  refine g_call1 G hs hP hroom fun h1 tk1 T1 fs1 cs ps k1 t1 P1 T f1 => ?_
  have F1 := F.k23 k1 hL
  have hs1 : Sub g h1 := fun b o e => k1 b o (fun q => by rw [q, G.t23] at e; cases e) (hs b o e)
  show wpAny _ _ _ _ _ (sh s h1 tk1)
  refine r_listOf t1 ?z fun h2 s2 e2 => ?_
  case z => show 8 ≤ 2 ^ 24; decide
  have hs2 := hs1.trans s2
  refine r_callT1 (T := "list") (fun Q' hq => r_builtin (hs2.ns G.ng) G.nList (hs2.ns G.nb) G.bList hq) ?_
  refine r_callF (f := 28) (fun Q' hq => r_global (hs2.ns G.ng) G.gG hq) (G.maker_at hs2) ?_
  refine r_arg (wpAny_Constant_bool (r_args ⟨G.maker_at hs2, ?_⟩))
  have hc : ∀ j < 8, h2.CodeRec (.ref (cs j)) (qn j) ∧ cs j ≠ 23 ∧ cs j < h2.objs.size := fun j hj => by
    obtain ⟨⟨_, _, _, _, cr⟩, a, b⟩ := f1 j hj
    have hz : 23 < h.objs.size := Heap.lt_size hP
    have cr2 := s2.codeRec cr
    refine ⟨cr2, by omega, ?_⟩
    obtain ⟨c2, o, vs, t, rc, ec, r⟩ := cr2
    cases rc
    exact Heap.lt_size ec
  refine g_call2 G hs2 (s2 _ _ P1) T hc hroom fun h3 tk3 T3 fs3 s3 t3 f3 => ?_
  show wpAny _ _ _ _ _ (sh s h3 tk3)
  refine r_listOf t3 ?z fun h4 s4 e4 => ?_
  case z => show 4 ≤ 2 ^ 24; decide
  refine r_addList (vs := (List.range' 0 8).map fun k => Value.ref (fs1 k)) (ws := [.ref (fs3 1), .ref (fs3 4), .ref (fs3 6), .ref (fs3 7)]) ((s3.trans s4).list e2) e4 ?z fun h5 s5 e5 => ?_
  case z => show 12 ≤ 2 ^ 24; decide
  have sub5 : Sub h1 h5 := s2.trans (s3.trans (s4.trans s5))
  refine l_store (F1.sub sub5) fun h6 tk6 F6 k6 => ?_
  have off := (F1.sub sub5).offList e5
  have mk : ∀ {f k}, MaskFn h5 f k → MaskFn h6 f k := fun {f k} x => by
    obtain ⟨n, q, d, p, ct, c, o, e, r, c', o', vs, t, rc, ec, dc, v1⟩ := x
    exact ⟨n, q, d, p, ct, c, o, k6 _ _ ((F1.sub sub5).off e (by rw [r]; nofun) (by rw [r]; nofun)) (by simp) e, r, c', o', vs, t, rc, k6 _ _ ((F1.sub sub5).off ec (by rw [dc]; nofun) (by rw [dc]; nofun)) (by simp) ec, dc, v1⟩
  refine hq h6 tk6 h4.objs.size [fs1 0, fs1 1, fs1 2, fs1 3, fs1 4, fs1 5, fs1 6, fs1 7, fs3 1, fs3 4, fs3 6, fs3 7] ps F6 ?_ ?_ rfl (k6.list e5 off (by simp)) ?_
  · exact fun b o hb hX e => k6 b o hb (by simp) (sub5 _ _ (k1 b o (by simpa using hX) e))
  · exact k6 _ _ (.inl hL) (by simp) (sub5 _ _ P1)
  · have m1 : ∀ j < 8, MaskFn h6 (fs1 j) j := fun j hj => mk ((f1 j hj).1.mask.sub sub5)
    have m3 : ∀ j < 8, MaskFn h6 (fs3 j) j := fun j hj => mk ((f3 j hj).1.mask.sub (s4.trans s5))
    intro k hk
    match k, hk with
    | 0, _ => exact m1 0 (by decide)
    | 1, _ => exact m1 1 (by decide)
    | 2, _ => exact m1 2 (by decide)
    | 3, _ => exact m1 3 (by decide)
    | 4, _ => exact m1 4 (by decide)
    | 5, _ => exact m1 5 (by decide)
    | 6, _ => exact m1 6 (by decide)
    | 7, _ => exact m1 7 (by decide)
    | 8, _ => exact m3 1 (by decide)
    | 9, _ => exact m3 4 (by decide)
    | 10, _ => exact m3 6 (by decide)
    | 11, _ => exact m3 7 (by decide)
    | k + 12, hk => omega
end
end Mine
end
section
namespace Mine
theorem se_const {c : Const} {k : Nat} {p : Pos} {rest : List Expr} {env : Env} : starEach (.Constant c k p :: rest) env = (false, eval (.Constant c k p) env) :: starEach rest env := rfl
theorem se_name {x : Str} {p : Pos} {rest : List Expr} {env : Env} : starEach (.Name x p :: rest) env = (false, eval (.Name x p) env) :: starEach rest env := rfl
section
variable {prog : Program} {w : World} {A : Around} {E : Value → Shared → Prop} {s : Shared} {h : Heap} {tk : Tok} {L fa : Nat} {g : Heap} {m mg mb : Str → Option Value} {vn vi vj vr : Option Value}
theorem r_ne {a b : Int} {t u : Tok} {Q : Value → Shared → Prop} (hq : Q (.bool (a != b)) (sh s h tk)) : wpAny (model prog w) A (compareOp .NotEq (.int a t) (.int b u)) Q E (sh s h tk) := PyProof.Rows.ne_int hq
theorem r_argI {env : Env} {pos : Pos} {i : Int} {k : Nat} {p : Pos} {rest : List Expr} {Q : List Value → Shared → Prop} (hq : ∀ t tk, wpAny (model prog w) A (spliced (backTo pos (starEach rest env))) (fun vs s₂ => Q (.int i t :: vs) s₂) E (sh s h tk)) :
    wpAny (model prog w) A (spliced (backTo pos (starEach (.Constant (.int i) k p :: rest) env))) Q E (sh s h tk) := r_arg (r_int hq) se_const
theorem r_argN {env : Env} {pos : Pos} {x : Str} {p : Pos} {rest : List Expr} {s : Shared} {Q : List Value → Shared → Prop} (hq : wpAny (model prog w) A (eval (.Name x p) env) (fun v s₁ => wpAny (model prog w) A (spliced (backTo pos (starEach rest env))) (fun vs s₂ => Q (v :: vs) s₂) E s₁) E s) :
    wpAny (model prog w) A (spliced (backTo pos (starEach (.Name x p :: rest) env))) Q E s := r_arg hq se_name
theorem r_truthy {b : Bool} {Q : Bool → Shared → Prop} (hq : Q b (sh s h tk)) : wpAny (model prog w) A (truthy (.bool b)) Q E (sh s h tk) := wpAny_truthy_bool hq
end
section
variable {w : World} {A : Around} {E : Value → Shared → Prop} {s : Shared} {h : Heap} {tk : Tok} {L fa : Nat} {g : Heap} {m mg mb : Str → Option Value} {vn vi vj vr : Option Value}
set_option maxHeartbeats 1000000 in
theorem p2 {Q : Flow → Shared → Prop} (F : LF L h m vn vi vj vr)
    (hq : ∀ h' tk' (kA : Nat) ws, LF L h' (fun y => if y = "kinds" then some (.ref kA) else m y) vn vi vj vr → Kp L [] h h' → h'.IsList kA (List.toArray ws) → IntsAre ws (kindsL.map Int.ofNat) → Q .next (sh s h' tk')) :
    wpAny (model pw w) A (exec (lawStmt 2) (lawEnv L fa)) Q E (sh s h tk) := by
  refine wpAny_Assign_Name ?_
  with_reducible refine List_ ?_
  with_reducible refine r_argI ?_
  intro t0 _
  with_reducible refine r_argI ?_
  intro t1 _
  with_reducible refine r_argI ?_
  intro t2 _
  with_reducible refine r_argI ?_
  intro t3 _
  with_reducible refine r_argI ?_
  intro t4 _
  with_reducible refine r_argI ?_
  intro t5 _
  with_reducible refine r_argI ?_
  intro t6 _
  with_reducible refine r_argI ?_
  intro t7 _
  with_reducible refine r_argI ?_
  intro t8 _
  with_reducible refine r_argI ?_
  intro t9 _
  with_reducible refine r_argI ?_
  intro t10 _
  with_reducible refine r_argI ?_
  intro t11 _
  with_reducible refine r_args ?_
  refine r_newList ?z fun h1 s1 e1 _ => ?_
  case z => show 12 ≤ 2 ^ 24; decide
  refine l_store (F.sub s1) fun h2 tk2 F2 k2 => ?_
  exact hq h2 tk2 _ _ F2 (s1.kp.trans k2) (k2.list e1 ((F.sub s1).offList e1) (by simp)) (.cons _ _ (.cons _ _ (.cons _ _ (.cons _ _ (.cons _ _ (.cons _ _ (.cons _ _ (.cons _ _ (.cons _ _ (.cons _ _ (.cons _ _ (.cons _ _ .nil))))))))))))
theorem p3 {Q : Flow → Shared → Prop} {mA : Nat} {vs : List Value} (F : LF L h m vn vi vj vr) (G : Gnd g L mg mb) (hs : Sub g h) (hm : m "masks" = some (.ref mA)) (hl : h.IsList mA vs.toArray) (hv : vs.length = 12)
    (hq : ∀ tk', Q .next (sh s h tk')) :
    wpAny (model pw w) A (exec (lawStmt 3) (lawEnv L fa)) Q E (sh s h tk) := by
  refine wpAny_If (wpAny_isTrue_Compare1 ?_)
  refine r_call1 (fun Q' hq => r_builtin (hs.ns G.ng) G.nLen (hs.ns G.nb) G.bLen hq) ?_
  refine r_name F.ns hm ?_
  refine r_len hl (by rw [List.size_toArray, hv]; decide) fun _ _ => ?_
  rw [List.size_toArray, hv]
  refine r_int fun _ _ => r_ne (r_truthy ?_)
  show if ((12 : Nat) : Int) != 12 then _ else _
  rw [if_neg (by decide)]
  exact wpAny_execs_nil (hq _)
end
end Mine
end
section
namespace Mine
section
variable {P : Ctx → Prop} {M : Model} {A : Around} {E : Value → Shared → Prop} {s : Shared} {env : Env}
/-- what a comprehension's block must leave behind it -/
def compEnd (M : Model) (A : Around) (E : Value → Shared → Prop) (use : Option (Value → Sem Unit)) (Q : Value → Shared → Prop) (acc : Value) (C : Addr) (r : Result) (s' : Shared) : Prop :=
  match r, use with
  | .ok _, none => ∃ m, s'.heap.Ns C m ∧ ∀ h', Heap.SameBut C s'.heap h' → Q acc { s' with heap := h' }
  | .ok _, some u => wpAny M A (u acc) (fun _ s'' => ∃ m, s''.heap.Ns C m ∧ ∀ h', Heap.SameBut C s''.heap h' → Q .none { s'' with heap := h' }) E s'
  | .error _, _ => False
theorem comp_P (al : Along P) {e : Expr} {scope : Scope} {pos : Pos} {newAcc first : Sem Value} {g : Comprehension} {gs : List Comprehension} {cl : List (Str × Addr)} {use : Option (Value → Sem Unit)} {Q : Value → Shared → Prop}
    (hcl : clausesOf e = g :: gs) (hs : ∀ x, foldedSetIterable g.iter env x = pure x) (hclos : closureFor scope env = pure cl)
    (hkind : scope.kind = .function) (hnames : ∀ x ∈ scope.names, x.2 = .local → scope.names.lookup x.1 = some .local)
    (h : wpAny M A first (fun x s₁ => wpAny M A (pyIter x) (fun it s₂ => wpAny M A newAcc (fun acc s₃ =>
      wpAny M A (newFunctionEnv scope env.globals cl [] env.qual none .none (some env)) (fun cenv s₄ =>
        codeP P M A (.compStart e 0 it acc { cenv with scope := relabel scope env }) (compEnd M A E use Q acc cenv.locals) s₄) E s₃) E s₂) E s₁) E s) :
    wpP P M A (comprehension e scope env pos newAcc false first use) Q E s := by
  have up : ∀ {α : Type} {t : Sem α} {Q : α → Shared → Prop} {s : Shared}, wpAny M A t Q E s → wpP P M A t Q E s := fun h => wpP_of h
  unfold comprehension
  rw [hclos, hcl]
  refine wpP_bind (wpP_mono (up h) (fun x s₁ h₁ => ?_) fun _ _ h' => h')
  refine wpP_bind (up (wpAny_standAt ?_))
  refine wpP_bind (up (wpAny_of_eq (hs x) ?_))
  refine wpP_bind (wpP_mono (up (wpAny_holding h₁)) (fun it s₂ h₂ => ?_) fun _ _ h' => h')
  have standIf : ∀ {α : Type} {c : Prop} [Decidable c] {pos : Pos} {k : PUnit → Sem α} {Q : α → Shared → Prop} {s : Shared}, wpP P M A (k ()) Q E s → wpP P M A (if c then (standAt pos >>= k) else k ()) Q E s := fun {α c _ pos k Q s} hk => by
    split
    · exact wpP_bind (up (wpAny_standAt hk))
    · exact hk
  refine standIf ?_
  refine wpP_bind (wpP_mono (up h₂) (fun acc s₃ h₃ => ?_) fun _ _ h' => h')
  refine wpP_bind (up (wpAny_pure ?_))
  refine wpP_bind (wpP_mono (up h₃) (fun cenv s₄ h₄ => ?_) fun _ _ h' => h')
  dsimp only
  have hv : ∀ x ∈ (scope.names.filter fun x => (x.2 == .local || x.2 == .cell) && x.1 != (".0" : Str)).reverse, x.2 = .local →
      Env.kindOf { cenv with scope := relabel scope env } x.1 = some .local := fun x hx hl => lookup_relabel_local (hnames x (List.mem_filter.mp (List.mem_reverse.mp hx)).1 hl)
  have hv' : ∀ x ∈ (scope.names.filter fun x => (x.2 == .local || x.2 == .cell) && x.1 != (".0" : Str)).reverse.drop 1 ++ (scope.names.filter fun x => (x.2 == .local || x.2 == .cell) && x.1 != (".0" : Str)).reverse.take 1,
      x.2 = .local → Env.kindOf { cenv with scope := relabel scope env } x.1 = some .local := fun x hx hl =>
    (List.mem_append.mp hx).elim (fun q => hv x (List.mem_of_mem_drop q) hl) fun q => hv x (List.mem_of_mem_take q) hl
  refine wpP_holding (wpP_bind (wpP_attempt (wpP_holding (wpP_run al (codeP_mono h₄ fun r s' hr => ?_) rfl))))
  cases r with
  | error x => exact hr.elim
  | ok f =>
    cases use with
    | none =>
      obtain ⟨m, hn, hr⟩ := hr
      exact up (wpAny_bind (wpAny_holding (wpAny_comp_letGo (cenv := { cenv with scope := relabel scope env }) hkind _ s' m hv hn fun h' m' _ hs' => wpAny_pure (hr h' hs'))))
    | some u =>
      refine up (wpAny_bind (wpAny_rule (wpAny_bind (wpAny_holding (wpAny_mono hr (fun _ s'' hr' => ?_) fun _ _ h' => h')))))
      obtain ⟨m, hn, hr'⟩ := hr'
      exact wpAny_bind (wpAny_comp_letGo (cenv := { cenv with scope := relabel scope env }) hkind _ s'' m hv' hn fun h' m' _ hs' => wpAny_pure (hr' h' hs'))
end
end Mine
end
section
namespace Mine
/-- the bytearrays are kept -/
def BA (h h' : Heap) : Prop := ∀ b o bs e, h.get? b = some o → o.data = .bytearray bs e → h'.get? b = some o
theorem Sub.ba {h h'} (x : Sub h h') : BA h h' := fun b o _ _ e _ => x b o e
theorem BA.trans {h h' h''} (x : BA h h') (y : BA h' h'') : BA h h'' := fun b o bs e a d => y b o bs e (x b o bs e a d) d
section
variable {P : Ctx → Prop} {prog : Program} {w : World} {A : Around} {s : Shared} {R : Result → Shared → Prop}
theorem compStart_P (al : Along P) {elt target iter ifs rest scope pos it acc env} {s : Shared}
    (h0 : codeP P (model prog w) A (.compLoop (.ListComp elt (⟨target, iter, ifs, 0⟩ :: rest) scope pos) 0 it acc env) R s)
    (h : wpAny (model prog w) A (pyIter it) (fun it' s' => it' = it ∧ s' = s) (fun _ _ => False) s) :
    codeP P (model prog w) A (.compStart (.ListComp elt (⟨target, iter, ifs, 0⟩ :: rest) scope pos) 0 it acc env) R s := by
  refine codeP_of_tree al ?_
  show wpP P _ _ ((compStart (.ListComp elt (⟨target, iter, ifs, 0⟩ :: rest) scope pos) 0 it acc env).onRaise (fun x => do noteFrame x env; standAt theWindowsPlace)) _ _ s
  refine wpP_onRaise ?_
  unfold compStart
  show wpP P _ _ (ask >>= _) _ _ s
  refine wpP_bind (wpP_of (wpAny_askSetting ?_))
  have fin : ∀ it', it' = it → wpP P (model prog w) (A.under (.compStart (.ListComp elt (⟨target, iter, ifs, 0⟩ :: rest) scope pos) 0 it acc env)) (pure (Fin.again (.compLoop (.ListComp elt (⟨target, iter, ifs, 0⟩ :: rest) scope pos) 0 it' acc env)))
      (fun fin s' => match fin with | .done f => R (.ok f) s' | .again c' => (c'.quiet = true ∧ holds? c' = false) ∧ codeP P (model prog w) A c' R s') (fun _ _ => False) s := fun it' e => by
    subst e; exact wpP_pure ⟨⟨rfl, rfl⟩, h0⟩
  split
  · exact fin it rfl
  · refine wpP_bind (wpP_of (wpAny_rule ?_))
    show wpP P _ _ (standAt iter.pos >>= _) _ _ s
    refine wpP_bind (wpP_of (wpAny_standAt ?_))
    refine wpP_bind (wpP_mono (wpP_of h) (fun it' s' q => ?_) fun _ _ q => q)
    obtain ⟨rfl, rfl⟩ := q
    exact fin it' rfl
theorem compLoop_P (al : Along P) {elt target iter : Expr} {scope : Scope} {pos : Pos} {it acc : Value} {env : Env} {s : Shared} (I : Nat → Shared → Prop)
    (turn : ∀ n s, I n s → wpAny (model prog w) A (pyNext it) (fun r s₁ => match r with
      | none => R (.ok .next) s₁
      | some v => wpAny (model prog w) A (assign target env v) (fun _ s₂ => wpP P (model prog w) A (eval elt env) (fun x s₃ =>
          wpAny (model prog w) A (call (.builtin "list.append") [acc, x]) (fun _ s₄ => ∃ m, m < n ∧ I m s₄) (fun _ _ => False) s₃) (fun _ _ => False) s₂) (fun _ _ => False) s₁) (fun _ _ => False) s)
    (n : Nat) (h : I n s) (ht : ∀ v, letOwnedTupleGo target it v = pure () := by intro _; rfl) :
    codeP P (model prog w) A (.compLoop (.ListComp elt [⟨target, iter, [], 0⟩] scope pos) 0 it acc env) R s := by
  refine codeP_loop al rfl rfl I (fun n s hI => ?_) n h
  show wpP P _ A ((compTurn (.ListComp elt [⟨target, iter, [], 0⟩] scope pos) 0 it acc env).onRaise (fun x => do noteFrame x env; theTreesLotGoes x)) _ _ s
  refine wpP_onRaise ?_
  rw [compTurn_list1]
  refine wpP_bind (wpP_of (wpAny_standAt ?_))
  refine wpP_bind (wpP_mono (wpP_of (turn n s hI)) (fun r s₁ h₁ => ?_) fun _ _ h' => h')
  cases r with
  | none => exact wpP_pure h₁
  | some v =>
    refine wpP_bind (wpP_of (wpAny_of_eq (ht v) ?_))
    refine wpP_bind (wpP_mono (wpP_of h₁) (fun _ s₂ h₂ => ?_) fun _ _ h' => h')
    refine wpP_bind (wpP_bind (wpP_mono h₂ (fun x s₃ h₃ => wpP_bind (wpP_mono (wpP_of h₃) (fun _ s₄ h₄ => wpP_pure (wpP_pure ⟨rfl, h₄⟩)) fun _ _ h' => h')) fun _ _ h' => h'))
end
end Mine
end
section
namespace Mine
section
variable {P : Ctx → Prop} {prog : Program} {w : World} {A : Around} {s : Shared} {R : Result → Shared → Prop}
/-- the block of a comprehension over a walk, told by what each turn hands on -/
theorem comp_block (al : Along P) {elt iter : Expr} {x : Str} {px : Pos} {scope : Scope} {pos : Pos} {cenv : Env} {I C D : Nat} {fp wr : List Addr} {n : Nat} {Pv : Nat → Value → Prop} {St : Nat → Heap → Prop}
    (W : Walks prog w A I fp wr n Pv St) (hwr : ∀ i h b o bs e, St i h → b ∈ wr → h.get? b = some o → o.data ≠ .bytearray bs e) (hn : n ≤ sizeLine)
    (hk : cenv.scope.kind = .function) (hx : cenv.kindOf x = some .local) (hC : cenv.locals = C)
    (val : Nat → Value → Heap → Prop) (hval : ∀ i y h h', val i y h → BA h h' → val i y h') (rel : Value → Value → Prop) {h0 : Heap}
    (dC : C ∉ fp) (dD : D ∉ fp) (dCD : C ≠ D) (zC : h0.get? C = none) (zD : h0.get? D = none) (zw : ∀ b ∈ wr, h0.get? b = none)
    (helt : ∀ i v h m tk (ys : Array Value), i < n → Pv i v → h.Ns C m → m x = some v → Sub h0 h → (∀ (j : Nat) y, ys[j]? = some y → val j y h) → wpP P (model prog w) A (eval elt cenv) (fun y s' => ∃ h' tk', s' = sh s h' tk' ∧ Sub h h' ∧ val i y h' ∧ ∀ (j : Nat) z, ys[j]? = some z → rel z y) (fun _ _ => False) (sh s h tk))
    (hR : ∀ h tk m ys, h.Ns C m → h.IsList D ys → ys.size = n → (∀ i y, ys[i]? = some y → val i y h) → (∀ (i j : Nat) a b, i < j → ys[i]? = some a → ys[j]? = some b → rel a b) → Sub h0 h → R (.ok .next) (sh s h tk))
    {h : Heap} {tk : Tok} {m : Str → Option Value} (hst : St 0 h) (hns : h.Ns C m) (hD : h.IsList D #[]) (hs : Sub h0 h) :
    codeP P (model prog w) A (.compStart (.ListComp elt [⟨.Name x px, iter, [], 0⟩] scope pos) 0 (.ref I) (.ref D) cenv) R (sh s h tk) := by
  refine compStart_P al ?_ (W.self 0 (sh s h tk) _ _ hst ⟨rfl, rfl⟩)
  refine compLoop_P al (I := fun r s' => ∃ i h tk m ys, r + i = n ∧ s' = sh s h tk ∧ St i h ∧ h.Ns C m ∧ h.IsList D ys ∧ ys.size = i ∧ (∀ j y, ys[j]? = some y → val j y h) ∧ (∀ (i j : Nat) a b, i < j → ys[i]? = some a → ys[j]? = some b → rel a b) ∧ Sub h0 h) ?_ n ⟨0, h, tk, m, #[], rfl, rfl, hst, hns, hD, rfl, fun j y e => by simp at e, fun i j a b _ e => by simp at e, hs⟩
  rintro r _ ⟨i, h, tk, m, ys, hri, rfl, hst, hns, hD, hsz, hv, hrel, hs⟩
  obtain ⟨oC, esC, epC, eC, dC', _⟩ := id hns
  obtain ⟨oD, eD, cD, nD, dD'⟩ := id hD
  have ba1 : ∀ h', (∀ b o, b ∉ wr → h.get? b = some o → h'.get? b = some o) → BA h h' := fun h' k b o bs e a d => k b o (fun q => hwr i h b o bs e hst q a d) a
  have sub1 : ∀ h', (∀ b o, b ∉ wr → h.get? b = some o → h'.get? b = some o) → Sub h0 h' := fun h' k b o a => k b o (fun q => by rw [zw b q] at a; cases a) (hs b o a)
  by_cases hi : i < n
  · refine W.item i (sh s h tk) _ _ hi hst fun v h1 tk1 hp st1 k1 => ?_
    have ns1 : h1.Ns C m := by
      obtain ⟨o, es, ep, a, r⟩ := hns
      exact ⟨o, es, ep, k1 _ _ (fun q => dC (W.sub _ q)) a, r⟩
    have D1 : h1.IsList D ys := by
      obtain ⟨o, a, r⟩ := hD
      exact ⟨o, k1 _ _ (fun q => dD (W.sub _ q)) a, r⟩
    refine wpAny_assign_Name (r_store (s := s) (h := h1) (tk := tk1) (m := m) (by rw [hC]; exact ns1) (fun h2 tk2 ns2 sb2 => ?_) hk hx)
    rw [hC] at ns2 sb2
    have s02 : Sub h0 h2 := fun b o a => (sb2.2 b (fun q => by rw [q, zC] at a; cases a)).trans (sub1 h1 k1 b o a)
    have st2 : St (i + 1) h2 := W.frame _ _ _ st1 fun b hb o a => (sb2.2 b (fun q => dC (q ▸ hb))).trans a
    have D2 : h2.IsList D ys := by
      obtain ⟨o, a, r⟩ := D1
      exact ⟨o, (sb2.2 D (Ne.symm dCD)).trans a, r⟩
    have ba2 : BA h h2 := (ba1 h1 k1).trans fun b o bs e a d => (sb2.2 b (fun q => by
      subst q
      obtain ⟨o', es, ep, a', d', _⟩ := ns1
      rw [a] at a'; cases a'; rw [d] at d'; cases d')).trans a
    refine wpP_mono (helt i v h2 _ tk2 ys hi hp ns2 (by simp) s02 fun j y e => hval _ _ _ _ (hv j y e) ba2) (fun y s3 h3 => ?_) fun _ _ f => f
    obtain ⟨h3, tk3, rfl, s3, v3, r3⟩ := h3
    refine wpAny_list_append (s := sh s h3 tk3) (s3.list D2) (fun h4 D4 sb4 => ?_) (by omega)
    have ba4 : BA h3 h4 := fun b o bs e a d => (sb4.2 b (fun q => by
      subst q
      obtain ⟨o', a', c', n', d'⟩ := s3.list D2
      rw [a] at a'; cases a'; rw [d] at d'; cases d')).trans a
    refine ⟨r - 1, by omega, i + 1, h4, tk3, _, ys.push y, by omega, rfl, W.frame _ _ _ st2 fun b hb o a => (sb4.2 b (fun q => dD (q ▸ hb))).trans (s3 b o a), ns_sb sb4 dCD (s3.ns ns2), D4, by rw [Array.size_push, hsz], fun j z e => ?_, fun i' j a b lt e1 e2 => ?_, fun b o a => (sb4.2 b (fun q => by rw [q, zD] at a; cases a)).trans (s3 _ _ (s02 b o a))⟩
    rw [Array.getElem?_push] at e
    split at e
    · cases e; rename_i q; rw [q, hsz]; exact hval _ _ _ _ v3 ba4
    · exact hval _ _ _ _ (hv j z e) (ba2.trans (s3.ba.trans ba4))
    · rw [Array.getElem?_push] at e1 e2
      split at e2
      · rename_i q
        rw [if_neg (by omega)] at e1
        cases e2; exact r3 _ _ e1
      · rename_i q
        have hj : j < ys.size := (Array.getElem?_eq_some_iff.mp e2).1
        rw [if_neg (by omega)] at e1
        exact hrel _ _ _ _ lt e1 e2
  · obtain rfl : i = n := by omega
    refine W.done (sh s h tk) _ _ hst fun h1 tk1 k1 => ?_
    refine hR h1 tk1 m ys ?_ ?_ hsz (fun j y e => hval _ _ _ _ (hv j y e) (ba1 h1 k1)) hrel (sub1 h1 k1)
    · obtain ⟨o, es, ep, a, r⟩ := hns
      exact ⟨o, es, ep, k1 _ _ (fun q => dC (W.sub _ q)) a, r⟩
    · obtain ⟨o, a, r⟩ := hD
      exact ⟨o, k1 _ _ (fun q => dD (W.sub _ q)) a, r⟩
end
end Mine
end
section
namespace Mine
theorem fresh_sub {h h1 : Heap} (x : Sub h h1) {a : Nat} (e : h1.get? a = none) : h.get? a = none := by
  cases q : h.get? a with
  | none => rfl
  | some o => rw [x _ _ q] at e; cases e
section
variable {P : Ctx → Prop} {prog : Program} {w : World} {A : Around} {s : Shared} {E : Value → Shared → Prop} {env : Env}
theorem comp_tail (al : Along P) {elt iter : Expr} {x : Str} {px : Pos} {scope : Scope} {cl : List (Str × Addr)} {pos : Pos} {use : Option (Value → Sem Unit)} {Q : Value → Shared → Prop} {I : Nat} {fp wr : List Addr} {n : Nat} {Pv : Nat → Value → Prop} {St : Nat → Heap → Prop}
    (W : Walks prog w A I fp wr n Pv St) (hwr : ∀ i h b o bs e, St i h → b ∈ wr → h.get? b = some o → o.data ≠ .bytearray bs e) (hn : n ≤ sizeLine)
    (hcell : ∀ y ∈ scope.names, y.2 ≠ .cell) (hkind : scope.kind = .function) (hx : scope.names.lookup x = some .local)
    (val : Nat → Value → Heap → Prop) (hval : ∀ i y h h', val i y h → BA h h' → val i y h') (rel : Value → Value → Prop) {h0 h2 : Heap} {tk2 : Tok}
    (hs : Sub h0 h2) (zw : ∀ b ∈ wr, h0.get? b = none) (hst : St 0 h2) (hfp : ∀ b ∈ fp, b < h2.objs.size)
    (helt : ∀ C i v h m tk (ys : Array Value), i < n → Pv i v → h.Ns C m → m x = some v → Sub h0 h → (∀ (j : Nat) y, ys[j]? = some y → val j y h) → wpP P (model prog w) A (eval elt (compEnvC scope cl C env)) (fun y s' => ∃ h' tk', s' = sh s h' tk' ∧ Sub h h' ∧ val i y h' ∧ ∀ (j : Nat) z, ys[j]? = some z → rel z y) (fun _ _ => False) (sh s h tk))
    (hq : ∀ h tk (C D : Nat) m ys, C ≠ D → h0.get? C = none → h0.get? D = none → h.Ns C m → h.IsList D ys → ys.size = n → (∀ i y, ys[i]? = some y → val i y h) → (∀ (i j : Nat) a b, i < j → ys[i]? = some a → ys[j]? = some b → rel a b) → Sub h0 h → compEnd (model prog w) A E use Q (.ref D) C (.ok .next) (sh s h tk)) :
    wpAny (model prog w) A (newList []) (fun acc s₃ => wpAny (model prog w) A (newFunctionEnv scope env.globals cl [] env.qual none .none (some env)) (fun cenv s₄ =>
      codeP P (model prog w) A (.compStart (.ListComp elt [⟨.Name x px, iter, [], 0⟩] scope pos) 0 (.ref I) acc { cenv with scope := relabel scope env }) (compEnd (model prog w) A E use Q acc cenv.locals) s₄) E s₃) E (sh s h2 tk2) := by
  refine r_newList (Nat.zero_le _) fun h3 s3 D3 _ => ?_
  refine wpAny_newFunctionEnv (s := sh s h3 tk2) hcell (fun _ q => nomatch q) (fun h4 ns4 sb4 => ?_) hkind
  have hD3 : h2.objs.size < h3.objs.size := by obtain ⟨o, e, _⟩ := D3; exact Heap.lt_size e
  have k4 : Sub h3 h4 := fun b o e => (sb4.2 b (Nat.ne_of_lt (Heap.lt_size e))).trans (Heap.get?_push_of_some _ e)
  have s4 : Sub h0 h4 := hs.trans (s3.trans k4)
  refine comp_block al W hwr hn (C := h3.objs.size) (D := h2.objs.size) (cenv := compEnvC scope cl h3.objs.size env) hkind (lookup_relabel_local hx) rfl val hval rel (h0 := h0)
    (fun q => by have : h3.objs.size < h2.objs.size := hfp _ q; omega) (fun q => by have : h2.objs.size < h2.objs.size := hfp _ q; omega) (by omega)
    (fresh_sub (hs.trans s3) (fresh_none h3)) (fresh_sub hs (fresh_none h2)) zw (fun i v h m tk ys => helt _ i v h m tk ys) (fun h tk m ys a b c d r e => hq h tk _ _ m ys (by omega) (fresh_sub (hs.trans s3) (fresh_none h3)) (fresh_sub hs (fresh_none h2)) a b c d r e)
    (W.frame _ _ _ hst fun b _ o e => k4 _ _ (s3 _ _ e)) ns4 (k4.list D3) s4
/-- [elt for x in <list>] -/
theorem r_compList (al : Along P) {elt iter : Expr} {x : Str} {px : Pos} {scope : Scope} {cl : List (Str × Addr)} {pos : Pos} {Q : Value → Shared → Prop} {items : Array Value} {h : Heap} {tk : Tok}
    (hA : A.handled = none) (hclos : closureFor scope env = pure cl) (hcell : ∀ y ∈ scope.names, y.2 ≠ .cell) (hkind : scope.kind = .function) (hnames : ∀ y ∈ scope.names, y.2 = .local → scope.names.lookup y.1 = some .local) (hx : scope.names.lookup x = some .local)
    (hsz : items.size ≤ sizeLine) (val : Nat → Value → Heap → Prop) (hval : ∀ i y h h', val i y h → BA h h' → val i y h')
    (hiter : wpAny (model prog w) A (eval iter env) (fun xv s₁ => ∃ l h1 tk1, xv = .ref l ∧ s₁ = sh s h1 tk1 ∧ Sub h h1 ∧ h1.IsList l items) E (sh s h tk))
    (helt : ∀ C i v h' m tk, items[i]? = some v → h'.Ns C m → m x = some v → Sub h h' → wpP P (model prog w) A (eval elt (compEnvC scope cl C env)) (fun y s' => ∃ h'' tk', s' = sh s h'' tk' ∧ Sub h' h'' ∧ val i y h'') (fun _ _ => False) (sh s h' tk))
    (hq : ∀ h' tk (D : Nat) ys, h.get? D = none → h'.IsList D ys → ys.size = items.size → (∀ i y, ys[i]? = some y → val i y h') → Sub h h' → Q (.ref D) (sh s h' tk))
    (hsf : ∀ x, foldedSetIterable iter env x = pure x := by intro _; rfl) :
    wpP P (model prog w) A (eval (.ListComp elt [⟨.Name x px, iter, [], 0⟩] scope pos) env) Q E (sh s h tk) := by
  rw [eval_ListComp]
  refine comp_P al (use := none) rfl hsf hclos hkind hnames (wpAny_mono hiter (fun xv s₁ h₁ => ?_) fun _ _ e => e)
  obtain ⟨l, h1, tk1, rfl, rfl, s1, L1⟩ := h₁
  refine wpAny_pyIter_list (s := sh s h1 tk1) L1 ?_
  have e1 : Sub h1 (h1.push { cls := .type "list_iterator", data := .fields #[.ref l, .int 0 0] }) := Sub.push _ _
  have ne : l ≠ h1.objs.size := by obtain ⟨o, e, _⟩ := L1; exact Nat.ne_of_lt (Heap.lt_size e)
  refine comp_tail al (Walks.list hA h1.objs.size l ne items) ?_ hsz hcell hkind hx val hval (fun _ _ => True) (h0 := h) (s1.trans e1) ?_ ⟨⟨_, Heap.get?_push_size _ rfl, rfl, rfl⟩, e1.list L1⟩ ?_ (fun C i v h m tk ys _ hp a b c _ => wpP_mono (helt C i v h m tk hp a b c) (fun _ _ ⟨h', tk', q1, q2, q3⟩ => ⟨h', tk', q1, q2, q3, fun _ _ _ => trivial⟩) fun _ _ f => f) ?_
  · intro i h b o bs e st hb eb
    obtain ⟨⟨o', a, _, d⟩, _⟩ := st
    simp only [List.mem_singleton] at hb
    subst hb
    rw [eb] at a; cases a; rw [d]; nofun
  · intro b hb
    simp only [List.mem_singleton] at hb
    subst hb
    exact fresh_sub s1 (fresh_none h1)
  · intro b hb
    have hz : (h1.push { cls := .type "list_iterator", data := .fields #[.ref l, .int 0 0] }).objs.size = h1.objs.size + 1 := Heap.size_push ..
    show (b : Nat) < _
    rw [hz]
    rcases List.mem_cons.mp hb with rfl | hb
    · exact Nat.lt_succ_self _
    · simp only [List.mem_singleton] at hb
      subst hb
      obtain ⟨o, e, _⟩ := L1
      exact Nat.lt_succ_of_lt (Heap.lt_size e)
  · intro h' tk' C D m ys hCD zC zD ns hD hsz' hv _ hs
    refine ⟨m, ns, fun h'' sb => ?_⟩
    have ba : BA h' h'' := fun b o bs e a d => (sb.2 b (fun q => by
      subst q
      obtain ⟨o', es, ep, a', d', _⟩ := ns
      rw [a] at a'; cases a'; rw [d] at d'; cases d')).trans a
    exact hq h'' tk' D ys zD (by obtain ⟨o, a, r⟩ := hD; exact ⟨o, (sb.2 D (Ne.symm hCD)).trans a, r⟩) hsz' (fun i y e => hval _ _ _ _ (hv i y e) ba) (fun b o a => (sb.2 b (fun q => by rw [q, zC] at a; cases a)).trans (hs b o a))
end
end Mine
end
section
namespace Mine
section
variable {P : Ctx → Prop} {prog : Program} {w : World} {A : Around} {s : Shared} {E : Value → Shared → Prop} {env : Env}
theorem small_of {n : Int} (h0 : 0 ≤ n) (h1 : n ≤ 1000) : Builtin.Range.small 0 n 1 = true := small_one (by omega) (by omega) (by omega) (by omega)
/-- [elt for x in range(n)], n small -/
theorem r_compRange (al : Along P) {elt iter : Expr} {x : Str} {px : Pos} {scope : Scope} {cl : List (Str × Addr)} {pos : Pos} {Q : Value → Shared → Prop} {n : Nat} {h : Heap} {tk : Tok}
    (hA : A.handled = none) (hclos : closureFor scope env = pure cl) (hcell : ∀ y ∈ scope.names, y.2 ≠ .cell) (hkind : scope.kind = .function) (hnames : ∀ y ∈ scope.names, y.2 = .local → scope.names.lookup y.1 = some .local) (hx : scope.names.lookup x = some .local)
    (hn : n ≤ 1000) (val : Nat → Value → Heap → Prop) (hval : ∀ i y h h', val i y h → BA h h' → val i y h')
    (hiter : wpAny (model prog w) A (eval iter env) (fun xv s₁ => ∃ l h1 tk1 t u v, xv = .ref l ∧ s₁ = sh s h1 tk1 ∧ Sub h h1 ∧ IsRange h1 l 0 n 1 t u v) E (sh s h tk))
    (helt : ∀ C (i : Nat) h' m tk t, i < n → h'.Ns C m → m x = some (.int i t) → Sub h h' → wpP P (model prog w) A (eval elt (compEnvC scope cl C env)) (fun y s' => ∃ h'' tk', s' = sh s h'' tk' ∧ Sub h' h'' ∧ val i y h'') (fun _ _ => False) (sh s h' tk))
    (hq : ∀ h' tk (D : Nat) ys, h.get? D = none → h'.IsList D ys → ys.size = n → (∀ i y, ys[i]? = some y → val i y h') → Sub h h' → Q (.ref D) (sh s h' tk))
    (hsf : ∀ x, foldedSetIterable iter env x = pure x := by intro _; rfl) :
    wpP P (model prog w) A (eval (.ListComp elt [⟨.Name x px, iter, [], 0⟩] scope pos) env) Q E (sh s h tk) := by
  rw [eval_ListComp]
  refine comp_P al (use := none) rfl hsf hclos hkind hnames (wpAny_mono hiter (fun xv s₁ h₁ => ?_) fun _ _ e => e)
  obtain ⟨l, h1, tk1, t, u, v, rfl, rfl, s1, L1⟩ := h₁
  refine wpAny_pyIter_range (s := sh s h1 tk1) L1 (small_of (by omega) (by omega)) ?_
  have e1 : Sub h1 (h1.push { cls := .type "range_iterator", data := .fields #[rawInt 0, rawInt (Builtin.Range.rangeSize 0 n 1), rawInt 1] }) := Sub.push _ _
  have hrs : Builtin.Range.rangeSize 0 n 1 = (n : Int) := by rw [rangeSize_one]; split <;> omega
  refine comp_tail al (Walks.range hA h1.objs.size 0 1 n) ?_ (Nat.le_trans hn (by decide)) hcell hkind hx val hval (fun _ _ => True) (h0 := h) (s1.trans e1) ?_ ?_ ?_ (fun C i v h m tk ys hi hp => ?_) ?_
  · intro i h b o bs e st hb eb
    simp only [List.mem_singleton] at hb
    subst hb
    have st' : h.get? h1.objs.size = _ := st
    rw [eb] at st'; cases st'; nofun
  · intro b hb
    simp only [List.mem_singleton] at hb
    subst hb
    exact fresh_sub s1 (fresh_none h1)
  · show (h1.push _).get? _ = _
    rw [hrs]
    have := Heap.get?_push_size h1 (o := { cls := .type "range_iterator", data := .fields #[rawInt 0, rawInt (n : Int), rawInt 1] }) rfl
    simpa using this
  · intro b hb
    have hz : (h1.push { cls := .type "range_iterator", data := .fields #[rawInt 0, rawInt (Builtin.Range.rangeSize 0 n 1), rawInt 1] }).objs.size = h1.objs.size + 1 := Heap.size_push ..
    show (b : Nat) < _
    rw [hz]
    simp only [List.mem_singleton] at hb
    subst hb
    exact Nat.lt_succ_self _
  · obtain ⟨t, rfl⟩ := hp
    intro a b c _
    exact wpP_mono (helt C i h m tk t hi a (by rw [b]; simp) c) (fun _ _ ⟨h', tk', q1, q2, q3⟩ => ⟨h', tk', q1, q2, q3, fun _ _ _ => trivial⟩) fun _ _ f => f
  · intro h' tk' C D m ys hCD zC zD ns hD hsz' hv _ hs
    refine ⟨m, ns, fun h'' sb => ?_⟩
    have ba : BA h' h'' := fun b o bs e a d => (sb.2 b (fun q => by
      subst q
      obtain ⟨o', es, ep, a', d', _⟩ := ns
      rw [a] at a'; cases a'; rw [d] at d'; cases d')).trans a
    exact hq h'' tk' D ys zD (by obtain ⟨o, a, r⟩ := hD; exact ⟨o, (sb.2 D (Ne.symm hCD)).trans a, r⟩) hsz' (fun i y e => hval _ _ _ _ (hv i y e) ba) (fun b o a => (sb.2 b (fun q => by rw [q, zC] at a; cases a)).trans (hs b o a))
/-- y = [elt for x in <list>], y a name of the same frame -/
theorem x_compList (al : Along P) {elt iter : Expr} {x y : Str} {px py : Pos} {scope : Scope} {cl : List (Str × Addr)} {pos spos : Pos} {Q : Flow → Shared → Prop} {items : Array Value} {h : Heap} {tk : Tok} {m0 : Str → Option Value}
    (hsw : swapsWith (.ListComp elt [⟨.Name x px, iter, [], 0⟩] scope pos) (some (.Name y py)) spos.line env = pure true) (hk : env.scope.kind = .function) (hy : env.kindOf y = some .local)
    (hA : A.handled = none) (hclos : closureFor scope env = pure cl) (hcell : ∀ y ∈ scope.names, y.2 ≠ .cell) (hkind : scope.kind = .function) (hnames : ∀ y ∈ scope.names, y.2 = .local → scope.names.lookup y.1 = some .local) (hx : scope.names.lookup x = some .local)
    (hsz : items.size ≤ sizeLine) (val : Nat → Value → Heap → Prop) (hval : ∀ i y h h', val i y h → BA h h' → val i y h') (rel : Value → Value → Prop) (hL : h.Ns env.locals m0)
    (hiter : wpAny (model prog w) A (eval iter env) (fun xv s₁ => ∃ l h1 tk1, xv = .ref l ∧ s₁ = sh s h1 tk1 ∧ Sub h h1 ∧ h1.IsList l items) E (sh s h tk))
    (helt : ∀ C i v h' m tk (ys : Array Value), items[i]? = some v → h'.Ns C m → m x = some v → Sub h h' → (∀ (j : Nat) y, ys[j]? = some y → val j y h') → wpP P (model prog w) A (eval elt (compEnvC scope cl C env)) (fun y s' => ∃ h'' tk', s' = sh s h'' tk' ∧ Sub h' h'' ∧ val i y h'' ∧ ∀ (j : Nat) z, ys[j]? = some z → rel z y) (fun _ _ => False) (sh s h' tk))
    (hq : ∀ h' tk (D : Nat) ys, h.get? D = none → h'.IsList D ys → ys.size = items.size → (∀ i y, ys[i]? = some y → val i y h') → (∀ (i j : Nat) a b, i < j → ys[i]? = some a → ys[j]? = some b → rel a b) → (∀ b o, b ≠ env.locals → h.get? b = some o → h'.get? b = some o) → h'.Ns env.locals (fun z => if z = y then some (.ref D) else m0 z) → Q .next (sh s h' tk))
    (hsf : ∀ x, foldedSetIterable iter env x = pure x := by intro _; rfl) :
    wpP P (model prog w) A (exec (.Assign [.Name y py] (.ListComp elt [⟨.Name x px, iter, [], 0⟩] scope pos) spos) env) Q E (sh s h tk) := by
  rw [exec_Assign_Name_used _ _ _ _ hsw]
  refine wpP_bind (wpP_of (wpAny_standAt (show wpP P _ _ _ _ _ _ from wpP_bind ?_)))
  show wpP P _ A (do let _ ← comprehension (.ListComp elt [⟨.Name x px, iter, [], 0⟩] scope pos) scope env _ (newList []) false (eval iter env) (some (assign (.Name y py) env))) _ _ (sh s h tk)
  refine wpP_bind (wpP_mono (comp_P al (use := some (assign (.Name y py) env)) (Q := fun _ s' => Q .next s') rfl hsf hclos hkind hnames (wpAny_mono hiter (fun xv s₁ h₁ => ?_) fun _ _ e => e)) (fun _ s' hq => wpP_pure (wpP_pure hq)) fun _ _ e => e)
  obtain ⟨l, h1, tk1, rfl, rfl, s1, L1⟩ := h₁
  refine wpAny_pyIter_list (s := sh s h1 tk1) L1 ?_
  have e1 : Sub h1 (h1.push { cls := .type "list_iterator", data := .fields #[.ref l, .int 0 0] }) := Sub.push _ _
  have ne : l ≠ h1.objs.size := by obtain ⟨o, e, _⟩ := L1; exact Nat.ne_of_lt (Heap.lt_size e)
  refine comp_tail al (Walks.list hA h1.objs.size l ne items) ?_ hsz hcell hkind hx val hval rel (h0 := h) (s1.trans e1) ?_ ⟨⟨_, Heap.get?_push_size _ rfl, rfl, rfl⟩, e1.list L1⟩ ?_ (fun C i v h m tk ys _ hp => helt C i v h m tk ys hp) ?_
  · intro i h b o bs e st hb eb
    obtain ⟨⟨o', a, _, d⟩, _⟩ := st
    simp only [List.mem_singleton] at hb
    subst hb
    rw [eb] at a; cases a; rw [d]; nofun
  · intro b hb
    simp only [List.mem_singleton] at hb
    subst hb
    exact fresh_sub s1 (fresh_none h1)
  · intro b hb
    have hz : (h1.push { cls := .type "list_iterator", data := .fields #[.ref l, .int 0 0] }).objs.size = h1.objs.size + 1 := Heap.size_push ..
    show (b : Nat) < _
    rw [hz]
    rcases List.mem_cons.mp hb with rfl | hb
    · exact Nat.lt_succ_self _
    · simp only [List.mem_singleton] at hb
      subst hb
      obtain ⟨o, e, _⟩ := L1
      exact Nat.lt_succ_of_lt (Heap.lt_size e)
  · intro h' tk' C D m ys hCD zC zD ns hD hsz' hv hrel hs
    have hLC : env.locals ≠ C := by rintro rfl; obtain ⟨o, _, _, ho, _⟩ := hL; rw [zC] at ho; cases ho
    have hLD : env.locals ≠ D := by rintro rfl; obtain ⟨o, _, _, ho, _⟩ := hL; rw [zD] at ho; cases ho
    show wpAny _ A (assign (.Name y py) env (.ref D)) _ _ _
    refine wpAny_assign_Name (r_store (s := s) (h := h') (hs.ns hL) (fun h2 tk2 n2 sb2 => ?_) hk hy)
    refine ⟨m, ns_sb sb2 (Ne.symm hLC) ns, fun h3 sb => ?_⟩
    have ba : ∀ {a : Nat} {h h' : Heap} {m}, Heap.SameBut a h h' → h.Ns a m → BA h h' := fun sb ns b o bs e a d => (sb.2 b (fun q => by
      subst q
      obtain ⟨o', es, ep, a', d', _⟩ := ns
      rw [a] at a'; cases a'; rw [d] at d'; cases d')).trans a
    refine hq h3 tk2 D ys zD ?_ hsz' (fun i y e => hval _ _ _ _ (hv i y e) ((ba sb2 (hs.ns hL)).trans (ba sb (ns_sb sb2 (Ne.symm hLC) ns)))) hrel (fun b o hb a => ?_) (ns_sb sb hLC n2)
    · obtain ⟨o, a, r⟩ := hD
      exact ⟨o, (sb.2 D (Ne.symm hCD)).trans ((sb2.2 D (Ne.symm hLD)).trans a), r⟩
    · exact (sb.2 b (fun q => by rw [q, zC] at a; cases a)).trans ((sb2.2 b hb).trans (hs b o a))
end
end Mine
end
section
namespace Mine
/-- flat data: bools and ints -/
inductive Flat1 : Value → PyData → Prop
  | bool (b) : Flat1 (.bool b) (.bool b)
  | int (i t) : Flat1 (.int i t) (.int i)
theorem reads_flat {h : Heap} : ∀ {vs : List Value} {ds : List PyData}, vs.length = ds.length → (∀ (i : Nat) v d, vs[i]? = some v → ds[i]? = some d → Flat1 v d) → ReadsAll h vs ds []
  | [], [], _, _ => .nil
  | v :: vs, d :: ds, hl, hf => by
    have h0 := hf 0 v d rfl rfl
    have r : Reads h v d [] := by cases h0; exact .bool _; exact .int _ _
    exact .cons (as := []) (bs := []) r (reads_flat (by simpa using hl) fun i v' d' a b => hf (i + 1) v' d' a b)
  | [], _ :: _, hl, _ => by simp at hl
  | _ :: _, [], hl, _ => by simp at hl
def atom : PyData → Bool
  | .bool _ | .int _ => true
  | _ => false
theorem atoms_lay : ∀ {ds : List PyData}, (∀ d ∈ ds, atom d = true) → PyData.canLayAll0 ds = true ∧ PyData.depthAll ds = 0
  | [], _ => ⟨by simp [PyData.canLayAll0], by simp [PyData.depthAll]⟩
  | d :: ds, h => by
    obtain ⟨a, b⟩ := atoms_lay (ds := ds) fun x hx => h x (.tail _ hx)
    have hd := h d (.head _)
    have h1 : d.canLay0 = true ∧ d.depth = 0 := by
      cases d <;> simp_all [atom, PyData.canLay0, PyData.depth]
    exact ⟨by simp [PyData.canLayAll0, h1.1, a], by simp [PyData.depthAll, h1.2, b]⟩
section
variable {prog : Program} {w : World} {A : Around} {E : Value → Shared → Prop} {s : Shared} {h : Heap} {tk : Tok} {Q : Value → Shared → Prop}
theorem reads_list {a : Nat} {vs : Array Value} {ds : List PyData} (hl : h.IsList a vs) (hz : vs.size = ds.length) (hf : ∀ (i : Nat) v d, vs[i]? = some v → ds[i]? = some d → Flat1 v d) : Reads h (.ref a) (.list ds) [a] := by
  obtain ⟨o, e, c, n, d⟩ := hl
  exact .list e c d (reads_flat (by simpa using hz) fun i v d' x y => hf i v d' (by simpa using x) y)
/-- two flat lists that tell the same -/
theorem r_neSame {a b : Nat} {vs us : Array Value} {ds : List PyData} (ha : h.IsList a vs) (hb : h.IsList b us) (za : vs.size = ds.length) (zb : us.size = ds.length) (hat : ∀ d ∈ ds, atom d = true)
    (fa : ∀ (i : Nat) v d, vs[i]? = some v → ds[i]? = some d → Flat1 v d) (fb : ∀ (i : Nat) v d, us[i]? = some v → ds[i]? = some d → Flat1 v d) (hu : A.units + 64 < cLine)
    (hq : Q (.bool false) (sh s h tk)) : wpAny (model prog w) A (compareOp .NotEq (.ref a) (.ref b)) Q E (sh s h tk) := by
  obtain ⟨l1, l2⟩ := atoms_lay hat
  have c0 : (PyData.list ds).canLay0 = true := by simp [PyData.canLay0, l1]
  have d0 : (PyData.list ds).depth = 1 := by simp [PyData.depth, l2]
  refine SeqAt.compareNe_reads (s := sh s h tk) (reads_list ha za fa) (reads_list hb zb fb) c0 c0 (by rw [d0]; omega) ?_
  rw [SeqAt.eqv_refl _ c0]
  exact hq
theorem r_eqSame {a b : Nat} {vs us : Array Value} {ds : List PyData} (ha : h.IsList a vs) (hb : h.IsList b us) (za : vs.size = ds.length) (zb : us.size = ds.length) (hat : ∀ d ∈ ds, atom d = true)
    (fa : ∀ (i : Nat) v d, vs[i]? = some v → ds[i]? = some d → Flat1 v d) (fb : ∀ (i : Nat) v d, us[i]? = some v → ds[i]? = some d → Flat1 v d) (hu : A.units + 64 < cLine)
    (hq : Q (.bool true) (sh s h tk)) : wpAny (model prog w) A (compareOp .Eq (.ref a) (.ref b)) Q E (sh s h tk) := by
  obtain ⟨l1, l2⟩ := atoms_lay hat
  have c0 : (PyData.list ds).canLay0 = true := by simp [PyData.canLay0, l1]
  have d0 : (PyData.list ds).depth = 1 := by simp [PyData.depth, l2]
  refine SeqAt.compareEq_reads (s := sh s h tk) (reads_list ha za fa) (reads_list hb zb fb) c0 c0 (by rw [d0]; omega) ?_
  rw [SeqAt.eqv_refl _ c0]
  exact hq
theorem r_abs {a : Int} {t : Tok} (hq : ∀ t tk, Q (.int (if a < 0 then -a else a) t) (sh s h tk)) : wpAny (model prog w) A (call (.builtin "abs") [.int a t]) Q E (sh s h tk) := call_abs_int (s := sh s h tk) fun u tk => hq u tk
end
theorem bits_abs (a : Int) : Builtin.Int.intBits (if a < 0 then -a else a) = Builtin.Int.intBits a := by
  unfold Builtin.Int.intBits
  split
  · rw [Int.natAbs_neg]
    by_cases h : a = 0
    · simp [h]
    · have : ¬ (-a == 0) = true := by simpa using h
      have : ¬ (a == 0) = true := by simpa using h
      simp_all
  · rfl
end Mine
end
section
namespace Mine
def forBody : Stmt → List Stmt
  | .For _ _ b _ _ => b
  | _ => []
def absI (a : Int) : Int := if a < 0 then -a else a
theorem MaskFn.fnAt {h f k} (x : MaskFn h f k) : FnAt f h := by
  obtain ⟨n, q, d, p, ct, c, ⟨oc, od, dd, sl⟩, e, r, _⟩ := x
  simp only at r; subst r
  exact ⟨oc, od, _, sl, e⟩
theorem DarkFn.fnAt {h f} (x : DarkFn h f) : FnAt f h := by
  obtain ⟨n, q, d, p, ct, c, ⟨oc, od, dd, sl⟩, e, r, _⟩ := x
  simp only at r; subst r
  exact ⟨oc, od, _, sl, e⟩
theorem FnAt.sub {h h' f} (x : FnAt f h) (st : Sub h h') : FnAt f h' := let ⟨a, b, c, d, e⟩ := x; ⟨a, b, c, d, st _ _ e⟩
theorem kinds_lt : ∀ i < 12, kindsL.getD i 0 < 8 := by decide
section
variable {w : World} {A : Around} {E : Value → Shared → Prop} {s : Shared} {h : Heap} {tk : Tok} {L fa : Nat} {g : Heap} {m mg mb : Str → Option Value} {vn vi vj vr : Option Value}
set_option maxHeartbeats 2000000 in
theorem p4_body {Q : Flow → Shared → Prop} {nA mA kA : Nat} {fs : List Nat} {us ws : List Value} {nums : List Int} {p : Nat} {nv : Int} {tp tn : Tok} (F : LF L h m (some (.int nv tn)) vi vj vr) (G : Gnd g L mg mb) (hs : Sub g h) (hA : A.handled = none) (hu : A.units + 64 < cLine) (hroom : A.depth < recursionLimit)
    (hm : m "masks" = some (.ref mA)) (hk : m "kinds" = some (.ref kA)) (hn : m "numbers" = some (.ref nA)) (hp : m "place" = some (.int p tp)) (hnL : h.IsList nA us.toArray) (hni : IntsAre us nums) (hpl : p < nums.length) (hlen : nums.length ≤ 63) (hnv : nv ∈ nums)
    (hmL : h.IsList mA (fs.map Value.ref).toArray) (hfl : fs.length = 12) (hfm : ∀ k < 12, MaskFn h (fs.getD k 0) (kindsL.getD k 0)) (hkL : h.IsList kA ws.toArray) (hki : IntsAre ws (kindsL.map Int.ofNat))
    (hb : ∀ n ∈ nums, Builtin.Int.intBits n ≤ 2 ^ 20)
    (hq : ∀ h' tk' vi vj, LF L h' m (some (.int nv tn)) vi vj vr → Kp L [] h h' → Q .next (sh s h' tk')) :
    wpAny (model pw w) A (execs (forBody (lawStmt 4)) (lawEnv L fa)) Q E (sh s h tk) := by
  have hul : us.length = nums.length := hni.length
  have wl : ws.length = 12 := by rw [hki.length]; rfl
  -- i = abs(number)
  refine wpAny_execs_cons (wpAny_Assign_Name ?_)
  refine r_call1 (fun Q' hq => r_builtin (hs.ns G.ng) G.nAbs (hs.ns G.nb) G.bAbs hq) (r_cell F.cN (r_abs fun ti _ => ?_))
  refine l_storeI F fun h1 F1 k1 => ?_
  have hs1 := G.kp0 hs k1
  -- j = abs(numbers[place - 1])
  refine wpAny_execs_cons (wpAny_Assign_Name ?_)
  refine r_call1 (fun Q' hq => r_builtin (hs1.ns G.ng) G.nAbs (hs1.ns G.nb) G.bAbs hq) ?_
  have hnL1 := k1.list hnL (F.offList hnL) (by simp)
  refine Subscript_ (r_name F1.ns hn (wpAny_BinOp (r_name F1.ns hp (r_int fun _ _ => r_sub fun _ _ => ?_))))
  have item : ∀ (jv : Int) tj tk1, jv ∈ nums → wpAny (model pw w) A (call (.builtin "abs") [.int jv tj]) (fun v s₁ => wpAny (model pw w) A (storeName (lawEnv L fa) (Str.ofString "j") v) (fun _ s' => wpAny (model pw w) A (execs ((forBody (lawStmt 4)).drop 2) (lawEnv L fa)) Q E s') E s₁) E (sh s h1 tk1) := by
    intro jv tj tk1 hjv
    refine r_abs fun tj _ => ?_
    refine l_storeJ F1 fun h2 F2 k2 => ?_
    have k02 : Kp L [] h h2 := k1.trans k2
    have hs2 := G.kp0 hs k02
    have hmL2 := k02.list hmL (F.offList hmL) (by simp)
    have hkL2 := k02.list hkL (F.offList hkL) (by simp)
    have mf2 : ∀ k < 12, MaskFn h2 (fs.getD k 0) (kindsL.getD k 0) := fun k hk => by
      obtain ⟨n, q, d, p, ct, c, o, e, r, c', o', vs, t, rc, ec, dc, v1⟩ := hfm k hk
      exact ⟨n, q, d, p, ct, c, o, k02 _ _ (F.off e (by rw [r]; nofun) (by rw [r]; nofun)) (by simp) e, r, c', o', vs, t, rc, k02 _ _ (F.off ec (by rw [dc]; nofun) (by rw [dc]; nofun)) (by simp) ec, dc, v1⟩
    have bi : Builtin.Int.intBits (if nv < 0 then -nv else nv) ≤ 2 ^ 20 := by rw [bits_abs]; exact hb _ hnv
    have bj : Builtin.Int.intBits (if jv < 0 then -jv else jv) ≤ 2 ^ 20 := by rw [bits_abs]; exact hb _ hjv
    generalize (if nv < 0 then -nv else nv) = iv at bi F2
    generalize (if jv < 0 then -jv else jv) = jv' at bj F2
    refine wpAny_execs_cons (wpAny_If (wpAny_isTrue_Compare1 ?_))
    refine wpAny_of (r_compList along_any (items := (fs.map Value.ref).toArray) hA rfl (by decide) rfl (by decide) rfl ?z1 (fun i y _ => y = .bool (maskB (kindsL.getD i 0) iv jv')) (fun _ _ _ _ a _ => a) (r_name F2.ns hm ⟨mA, h2, _, rfl, rfl, Sub.refl _, hmL2⟩) (fun C i v h3 m3 tk3 hv ns3 mx st3 => wpP_of ?elt1) fun h3 tk3 D1 ys1 _ eD1 zD1 vD1 s3 => ?_)
    case z1 => simp [hfl]; decide
    case elt1 =>
      have hi : i < 12 := by
        rcases Array.getElem?_eq_some_iff.mp hv with ⟨q, _⟩
        simpa [hfl] using q
      have hf : v = .ref (fs.getD i 0) := by
        simp only [List.getElem?_toArray, List.getElem?_map] at hv
        rw [List.getD_eq_getElem?_getD]
        cases q : fs[i]? with
        | none => rw [q] at hv; cases hv
        | some f => rw [q] at hv; cases hv; rfl
      subst hf
      have mf := (mf2 i hi).sub st3
      have c3 := F2.sub st3
      refine r_callF (f := fs.getD i 0) (fun Q' hq => r_name ns3 mx hq) mf.fnAt ?_
      refine r_argN (r_cell c3.cI (r_argN (r_cell c3.cJ (r_args ⟨mf.fnAt, ?_⟩))))
      refine mask_code mf (kinds_lt i hi) hroom (st3.nolimit (hs2.nolimit G.lim)) bi bj fun h4 tk4 s4 => ?_
      exact ⟨h4, tk4, rfl, s4, rfl⟩
    have hs3 := hs2.trans s3
    refine wpAny_of (r_compList along_any (items := ws.toArray) hA rfl (by decide) rfl (by decide) rfl ?z2 (fun i y _ => y = .bool (darkB (kindsL.getD i 0) iv jv')) (fun _ _ _ _ a _ => a) (r_name (s3.ns F2.ns) hk ⟨kA, h3, _, rfl, rfl, Sub.refl _, s3.list hkL2⟩) (fun C i v h4 m4 tk4 hv ns4 mx st4 => wpP_of ?elt2) fun h4 tk4 D2 ys2 _ eD2 zD2 vD2 s4 => ?_)
    case z2 => simp [wl]; decide
    case elt2 =>
      have hi : i < 12 := by
        rcases Array.getElem?_eq_some_iff.mp hv with ⟨q, _⟩
        simpa [wl] using q
      obtain ⟨t, rfl⟩ := hki.int_at i v (by simpa using hv)
      have hkd : (kindsL.map Int.ofNat).getD i 0 = ((kindsL.getD i 0 : Nat) : Int) := by
        have : ∀ i < 12, (kindsL.map Int.ofNat).getD i 0 = ((kindsL.getD i 0 : Nat) : Int) := by decide
        exact this i hi
      rw [hkd] at mx
      have hs4 := hs3.trans st4
      have c4 := (F2.sub s3).sub st4
      refine r_callF (f := 44) (fun Q' hq => r_global (hs4.ns G.ng) G.gD hq) (G.dark.sub hs4).fnAt ?_
      refine r_argN (r_name ns4 mx (r_argN (r_cell c4.cI (r_argN (r_cell c4.cJ (r_args ⟨(G.dark.sub hs4).fnAt, ?_⟩))))))
      refine dark_code (G.dark.sub hs4) (kinds_lt i hi) hroom (hs4.nolimit G.lim) (hs4.ns G.ng) (hs4.ns G.nb) (G.tiles.sub hs4) G.gT G.nLen G.bLen fun h5 tk5 s5 => ?_
      exact ⟨h5, tk5, rfl, s5, rfl⟩
    have z1 : ys1.size = 12 := by rw [zD1]; simp [hfl]
    have z2 : ys2.size = 12 := by rw [zD2]; simp [wl]
    have f1 : ∀ (i : Nat) v d, ys1[i]? = some v → ((List.range 12).map fun k => PyData.bool (maskB (kindsL.getD k 0) iv jv'))[i]? = some d → Flat1 v d := fun i v d a b => by
      have hi : i < 12 := by rcases Array.getElem?_eq_some_iff.mp a with ⟨q, _⟩; omega
      rw [vD1 i v a]
      simp only [List.getElem?_map, List.getElem?_range hi, Option.map_some, Option.some.injEq] at b
      subst b; exact .bool _
    have f2 : ∀ (i : Nat) v d, ys2[i]? = some v → ((List.range 12).map fun k => PyData.bool (maskB (kindsL.getD k 0) iv jv'))[i]? = some d → Flat1 v d := fun i v d a b => by
      have hi : i < 12 := by rcases Array.getElem?_eq_some_iff.mp a with ⟨q, _⟩; omega
      rw [vD2 i v a, dark_mask _ (kinds_lt i hi)]
      simp only [List.getElem?_map, List.getElem?_range hi, Option.map_some, Option.some.injEq] at b
      subst b; exact .bool _
    refine r_neSame (s4.list eD1) eD2 (by simpa using z1) (by simpa using z2) (fun d hd => by obtain ⟨k, _, rfl⟩ := List.mem_map.mp hd; rfl) f1 f2 hu (r_truthy ?_)
    rw [if_neg (by decide)]
    refine wpAny_execs_nil (wpAny_execs_nil ?_)
    exact hq h4 _ _ _ ((F2.sub s3).sub s4) (k02.trans (s3.trans s4).kp)
  by_cases h0 : p = 0
  · subst h0
    obtain ⟨v, hv⟩ : ∃ v, us[us.length - 1]? = some v := ⟨_, List.getElem?_eq_getElem (by omega)⟩
    obtain ⟨jv, tj, rfl, hj⟩ := IntsAre.at hni _ _ hv
    refine r_itemNeg hnL1 (by decide) ?_ (by decide) ?_ (item jv tj _ (List.mem_of_getElem? hj))
    · rw [List.size_toArray]; omega
    · rw [List.size_toArray, List.getElem?_toArray, ← hv]; congr 1; omega
  · obtain ⟨v, hv⟩ : ∃ v, us[p - 1]? = some v := ⟨_, List.getElem?_eq_getElem (by omega)⟩
    obtain ⟨jv, tj, rfl, hj⟩ := IntsAre.at hni _ _ hv
    refine r_item hnL1 (by omega) (by omega) ?_ (item jv tj _ (List.mem_of_getElem? hj))
    rw [List.getElem?_toArray, ← hv]; congr 1; omega
end
end Mine
end
section
namespace Mine
section
variable {w : World} {A : Around} {E : Value → Shared → Prop} {s : Shared} {h : Heap} {tk : Tok} {L fa : Nat} {g : Heap} {m mg mb : Str → Option Value} {vn vi vj vr : Option Value}
theorem MaskFn.kp {X : List Nat} {h' f k} (x : MaskFn h f k) (F : LF L h m vn vi vj vr) (kp : Kp L X h h') (hX : ∀ b ∈ X, ∀ o, h.get? b = some o → (∀ fd, o.data ≠ .func fd) ∧ (∀ vs q t, o.data = .fields vs → vs[1]? ≠ some (.str q t))) : MaskFn h' f k := by
  obtain ⟨n, q, d, p, ct, c, o, e, r, c', o', vs, t, rc, ec, dc, v1⟩ := x
  exact ⟨n, q, d, p, ct, c, o, kp _ _ (F.off e (by rw [r]; nofun) (by rw [r]; nofun)) (fun hb => (hX _ hb _ e).1 _ r) e, r, c', o', vs, t, rc, kp _ _ (F.off ec (by rw [dc]; nofun) (by rw [dc]; nofun)) (fun hb => (hX _ hb _ ec).2 _ _ _ dc v1) ec, dc, v1⟩
theorem MaskFn.kp0 {h' f k} (x : MaskFn h f k) (F : LF L h m vn vi vj vr) (kp : Kp L [] h h') : MaskFn h' f k := x.kp F kp (fun _ q => nomatch q)
set_option maxHeartbeats 2000000 in
theorem p4 {Q : Flow → Shared → Prop} {nA mA kA : Nat} {fs : List Nat} {us ws : List Value} {nums : List Int} (F : LF L h m vn vi vj vr) (G : Gnd g L mg mb) (hs : Sub g h) (hA : A.handled = none) (hu : A.units + 64 < cLine) (hroom : A.depth < recursionLimit)
    (hm : m "masks" = some (.ref mA)) (hk : m "kinds" = some (.ref kA)) (hn : m "numbers" = some (.ref nA)) (hnL : h.IsList nA us.toArray) (hni : IntsAre us nums) (hlen : nums.length ≤ 63)
    (hmL : h.IsList mA (fs.map Value.ref).toArray) (hfl : fs.length = 12) (hfm : ∀ k < 12, MaskFn h (fs.getD k 0) (kindsL.getD k 0)) (hkL : h.IsList kA ws.toArray) (hki : IntsAre ws (kindsL.map Int.ofNat))
    (hb : ∀ n ∈ nums, Builtin.Int.intBits n ≤ 2 ^ 20)
    (hq : ∀ h' tk' m' vn vi vj, LF L h' m' vn vi vj vr → (∀ y, y ≠ (Str.ofString "place") → m' y = m y) → Kp L [] h h' → Q .next (sh s h' tk')) :
    wpAny (model pw w) A (exec (lawStmt 4) (lawEnv L fa)) Q E (sh s h tk) := by
  have hul : us.length = nums.length := hni.length
  refine wpAny_For ?_
  refine r_callT1 (T := "enumerate") (fun Q' hq => r_builtin (hs.ns G.ng) G.nEnum (hs.ns G.nb) G.bEnum hq) ?_
  refine r_name F.ns hn ?_
  refine call_enumerate_list (s := sh s h tk) hnL fun h1 en1 it1 sz1 k1 => ?_
  have s1 : Sub h h1 := k1
  refine wpAny_pyIter_enum en1 ?_
  have hI : (sh s h tk).heap.objs.size = h.objs.size := rfl
  rw [hI] at en1 it1 sz1 ⊢
  have offI : L + 4 < h.objs.size := by
    obtain ⟨o, e, _⟩ := F.cR
    have : L + 1 + 1 + 1 + 1 < h.objs.size := Heap.lt_size e
    omega
  refine codeAny_forLoop_any (fun r s' => ∃ i : Nat, ∃ h' tk' m' vn vi vj old, r + i = nums.length ∧ s' = sh s h' tk' ∧ LF L h' m' vn vi vj vr ∧ (∀ y, y ≠ (Str.ofString "place") → m' y = m y) ∧ Kp L [] h h' ∧
    IsEnum h' (h.objs.size + 1) h.objs.size i old ∧ h'.IsListIter h.objs.size nA i) ?_ nums.length ⟨0, h1, _, m, vn, vi, vj, .none, rfl, rfl, F.sub s1, fun _ _ => rfl, s1.kp, en1, it1⟩
  rintro r _ ⟨i, h2, tk2, m2, vn2, vi2, vj2, old, hri, rfl, F2, hm2, k2, en2, it2⟩
  have hs2 := G.kp0 hs k2
  have hnL2 := k2.list hnL (F.offList hnL) (by simp)
  have en2' : IsEnum (sh s h2 tk2).heap (h.objs.size + 1) h.objs.size i old := en2
  by_cases hi : i < nums.length
  · obtain ⟨v, hv⟩ : ∃ v, us[i]? = some v := ⟨_, List.getElem?_eq_getElem (by omega)⟩
    obtain ⟨nv, tn, rfl, hnv⟩ := IntsAre.at hni _ _ hv
    refine wpAny_pyNext_enum_item (s := sh s h2 tk2) en2 it2 hnL2 (by simpa using hv) (show h.objs.size + 1 ≠ h.objs.size by omega) fun h3 eo3 it3 tu3 sz3 k3 => ?_
    refine wpAny_letOwnedTupleGo_enum (s := sh s h3 _) eo3 fun h4 en4 sb4 => ?_
    have T4 : h4.IsTuple h2.objs.size #[.int i tk2, .int nv tn] := by
      have e2 : h.objs.size + 1 < h2.objs.size := Heap.lt_size en2
      exact ⟨_, (sb4.2 h2.objs.size (show h2.objs.size ≠ h.objs.size + 1 by omega)).trans tu3, rfl, _, rfl⟩
    refine wpAny_assign_Tuple (s := sh s h4 _) hA T4 rfl rfl fun h5 x5 => ?_
    have sz4 : h4.objs.size = h2.objs.size + 1 := sb4.1.trans sz3
    -- from h2 to h5: all but the walker's two objects
    have k25 : ∀ b o, b ≠ h.objs.size + 1 → b ≠ h.objs.size → h2.get? b = some o → h5.get? b = some o := fun b o b1 b2 e => by
      have lt : b < h2.objs.size := Heap.lt_size e
      exact x5 b o (show b ≠ h4.objs.size by omega) ((sb4.2 b b1).trans (k3 b o b1 b2 e))
    have en5 : IsEnum h5 (h.objs.size + 1) h.objs.size ((i + 1 : Nat) : Int) (.int nv tn) := by
      have lt : h.objs.size + 1 < h2.objs.size := Heap.lt_size en2
      exact x5 _ _ (show h.objs.size + 1 ≠ h4.objs.size by omega) en4
    have it5 : h5.IsListIter h.objs.size nA (i + 1) := by
      obtain ⟨o, e, r⟩ := it3
      have lt : h.objs.size + 1 < h2.objs.size := Heap.lt_size en2
      exact ⟨o, x5 _ _ (show h.objs.size ≠ h4.objs.size by omega) ((sb4.2 _ (show h.objs.size ≠ h.objs.size + 1 by omega)).trans e), r⟩
    have cell5 : ∀ {a : Nat} {v}, a ≤ L + 4 → h2.IsCell a v → h5.IsCell a v := fun {a v} ha x => let ⟨o, e, r⟩ := x; ⟨o, k25 a o (show a ≠ _ by omega) (show a ≠ _ by omega) e, r⟩
    have F5 : LF L h5 m2 vn2 vi2 vj2 vr := ⟨let ⟨o, es, n, e, r⟩ := F2.ns; ⟨o, es, n, k25 L o (show L ≠ _ by omega) (show L ≠ _ by omega) e, r⟩, cell5 (by omega) F2.cN, cell5 (by omega) F2.cI, cell5 (by omega) F2.cJ, cell5 (by omega) F2.cR⟩
    have k05 : Kp L [] h h5 := fun b o hb hX e => by
      have lt : b < h.objs.size := Heap.lt_size e
      exact k25 b o (show b ≠ _ by omega) (show b ≠ _ by omega) (k2 b o hb hX e)
    refine wpAny_assignInOrder_more (wpAny_assign_Name (l_store (s := s) (tk := tk2 + 1) F5 fun h6 tk6 F6 k6 => ?_))
    refine wpAny_assignInOrder_more (wpAny_assign_Name (l_storeN (s := s) (tk := tk6) F6 fun h7 F7 k7 => ?_))
    refine wpAny_assignInOrder_none ?_
    have k57 : Kp L [] h5 h7 := k6.trans k7
    have k07 : Kp L [] h h7 := k05.trans k57
    have o1 : ∀ {a : Nat}, a = h.objs.size ∨ a = h.objs.size + 1 → (a < L ∨ L + 4 < a) := fun {a} q => by omega
    have mm : ∀ y, y ≠ (Str.ofString "place") → (if y = (Str.ofString "place") then some (.int i tk2) else m2 y) = m y := fun y hy => by rw [if_neg hy, hm2 y hy]
    refine wpAny_mono (p4_body (E := fun _ _ => False) F7 G (G.kp0 hs k07) hA hu hroom ((mm _ (by decide)).trans hm) ((mm _ (by decide)).trans hk) ((mm _ (by decide)).trans hn) rfl (k07.list hnL (F.offList hnL) (by simp)) hni hi hlen (List.mem_of_getElem? hnv)
      (k07.list hmL (F.offList hmL) (by simp)) hfl (fun k hk => (hfm k hk).kp0 F k07) (k07.list hkL (F.offList hkL) (by simp)) hki hb (Q := fun f s' => match f with
        | .next | .cont => _ | .brk => _ | .ret v => _) fun h8 tk8 vi8 vj8 F8 k8 => ?_) (fun _ _ x => x) (fun _ _ x => x.elim)
    refine ⟨r - 1, by omega, i + 1, h8, tk8, _, _, _, _, .int nv tn, by omega, rfl, F8, mm, k07.trans k8, ?_, ?_⟩
    · exact (k57.trans k8) _ _ (o1 (.inr rfl)) (by simp) en5
    · obtain ⟨o, e, r⟩ := it5
      exact ⟨o, (k57.trans k8) _ _ (o1 (.inl rfl)) (by simp) e, r⟩
  · obtain rfl : i = nums.length := by omega
    refine wpAny_pyNext_enum_end (s := sh s h2 tk2) hA en2 it2 hnL2 (by simp; omega) fun h3 x3 => wpAny_execs_nil ?_
    have k23 : Kp L [] h h3 := fun b o hb hX e => by
      have lt : b < h.objs.size := Heap.lt_size e
      exact x3 b o (show b ≠ h.objs.size by omega) (k2 b o hb hX e)
    have cell3 : ∀ {a : Nat} {v}, a ≤ L + 4 → h2.IsCell a v → h3.IsCell a v := fun {a v} ha x => let ⟨o, e, r⟩ := x; ⟨o, x3 a o (show a ≠ h.objs.size by omega) e, r⟩
    exact hq h3 tk2 m2 vn2 vi2 vj2 ⟨let ⟨o, es, n, e, r⟩ := F2.ns; ⟨o, es, n, x3 L o (show L ≠ h.objs.size by omega) e, r⟩, cell3 (by omega) F2.cN, cell3 (by omega) F2.cI, cell3 (by omega) F2.cJ, cell3 (by omega) F2.cR⟩ hm2 k23
end
end Mine
end
section
namespace Mine
section
variable {prog : Program} {w : World} {A : Around} {E : Value → Shared → Prop} {s : Shared} {h : Heap} {tk : Tok} {env : Env}
/-- for <target> in range(n), told by a word J about the turn's number and the heap -/
theorem for_range {target iter : Expr} {body : List Stmt} {pos : Pos} {Q : Flow → Shared → Prop} {n : Nat} (hn : n ≤ 1000) (hA : A.handled = none) (J : Nat → Heap → Prop)
    (hiter : wpAny (model prog w) A (eval iter env) (fun xv s₁ => ∃ l h1 tk1 t u v, xv = .ref l ∧ s₁ = sh s h1 tk1 ∧ Sub h h1 ∧ IsRange h1 l 0 n 1 t u v) E (sh s h tk))
    (hJ0 : J 0 h) (hJs : ∀ i h1 h2, J i h1 → Sub h1 h2 → J i h2)
    (hJi : ∀ i h1 h2 I x l st, h.get? I = none → J i h1 → IsRangeIter h1 I x l st → (∀ b o, b ≠ I → h1.get? b = some o → h2.get? b = some o) → J i h2)
    (turn : ∀ (i : Nat) h1 tk1 t I, i < n → J i h1 → h.get? I = none → wpAny (model prog w) A (assign target env (.int i t)) (fun _ s₂ => wpAny (model prog w) A (execs body env) (fun f s₃ => match f with
      | .next => ∃ h3 tk3, s₃ = sh s h3 tk3 ∧ J (i + 1) h3 ∧ (∀ o, h1.get? I = some o → h3.get? I = some o)
      | .cont => False | .brk => False
      | .ret v => Q (.ret v) s₃) (fun _ _ => False) s₂) (fun _ _ => False) (sh s h1 tk1))
    (hq : ∀ h' tk', J n h' → Q .next (sh s h' tk'))
    (ht : ∀ it v, letOwnedTupleGo target it v = pure () := by intro _ _; rfl)
    (hsf : ∀ x, foldedSetIterable iter env x = pure x := by intro _; rfl) :
    wpAny (model prog w) A (exec (.For target iter body [] pos) env) Q E (sh s h tk) := by
  refine wpAny_For (wpAny_mono hiter (fun xv s₁ h₁ => ?_) fun _ _ e => e) hsf
  obtain ⟨l, h1, tk1, t, u, v, rfl, rfl, s1, L1⟩ := h₁
  refine wpAny_pyIter_range (s := sh s h1 tk1) L1 (small_of (by omega) (by omega)) ?_
  have hrs : Builtin.Range.rangeSize 0 n 1 = (n : Int) := by rw [rangeSize_one]; split <;> omega
  rw [hrs]
  have zI : h.get? h1.objs.size = none := fresh_sub s1 (fresh_none h1)
  have e1 : IsRangeIter (h1.push { cls := .type "range_iterator", data := .fields #[rawInt 0, rawInt (n : Int), rawInt 1] }) h1.objs.size 0 n 1 := Heap.get?_push_size _ rfl
  refine codeAny_forLoop_any (fun r s' => ∃ i : Nat, ∃ h' tk', r + i = n ∧ s' = sh s h' tk' ∧ J i h' ∧ IsRangeIter h' h1.objs.size i ((n : Int) - i) 1) ?_ n ⟨0, _, tk1, rfl, rfl, hJs 0 _ _ hJ0 (s1.trans (Sub.push _ _)), by simpa using e1⟩
  rintro r _ ⟨i, h2, tk2, hri, rfl, J2, it2⟩
  by_cases hi : i < n
  · refine wpAny_pyNext_range_item (s := sh s h2 tk2) it2 (by omega) fun h3 it3 sb3 => ?_
    refine wpAny_of_eq (ht _ _) ?_
    have J3 : J i h3 := hJi i h2 h3 _ _ _ _ zI J2 it2 fun b o hb e => (sb3.2 b hb).trans e
    refine wpAny_mono (turn i h3 _ tk2 h1.objs.size hi J3 zI) (fun _ s₂ h₂ => wpAny_mono h₂ (fun f s₃ h₃ => ?_) fun _ _ x => x.elim) fun _ _ x => x.elim
    cases f with
    | next =>
      obtain ⟨h4, tk4, rfl, J4, kI⟩ := h₃
      refine ⟨r - 1, by omega, i + 1, h4, tk4, by omega, rfl, J4, ?_⟩
      have e4 := kI _ it3
      have e5 : ((i + 1 : Nat) : Int) = (i : Int) + 1 := by omega
      have e6 : (n : Int) - ((i + 1 : Nat) : Int) = (n : Int) - i - 1 := by omega
      rw [e6, e5]; exact e4
    | cont => exact h₃.elim
    | brk => exact h₃.elim
    | ret v => exact h₃
  · obtain rfl : i = n := by omega
    refine wpAny_pyNext_range_end (s := sh s h2 tk2) hA it2 (by omega) fun h3 x3 => wpAny_execs_nil ?_
    exact hq h3 tk2 (hJi i h2 h3 _ _ _ _ zI J2 it2 fun b o hb e => x3 b o hb e)
/-- for <target> in <list> -/
theorem for_list {target iter : Expr} {body : List Stmt} {pos : Pos} {Q : Flow → Shared → Prop} {items : Array Value} (hA : A.handled = none) (J : Nat → Heap → Prop)
    (hiter : wpAny (model prog w) A (eval iter env) (fun xv s₁ => ∃ l h1 tk1, xv = .ref l ∧ s₁ = sh s h1 tk1 ∧ Sub h h1 ∧ ∀ i h2, J i h2 → h2.IsList l items) E (sh s h tk))
    (hJ0 : J 0 h) (hJs : ∀ i h1 h2, J i h1 → Sub h1 h2 → J i h2)
    (hJi : ∀ i h1 h2 I l k, h.get? I = none → J i h1 → h1.IsListIter I l k → (∀ b o, b ≠ I → h1.get? b = some o → h2.get? b = some o) → J i h2)
    (turn : ∀ (i : Nat) v h1 tk1 I, items[i]? = some v → J i h1 → h.get? I = none → wpAny (model prog w) A (assign target env v) (fun _ s₂ => wpAny (model prog w) A (execs body env) (fun f s₃ => match f with
      | .next => ∃ h3 tk3, s₃ = sh s h3 tk3 ∧ J (i + 1) h3 ∧ (∀ o, h1.get? I = some o → h3.get? I = some o)
      | .cont => False | .brk => False
      | .ret v => Q (.ret v) s₃) (fun _ _ => False) s₂) (fun _ _ => False) (sh s h1 tk1))
    (hq : ∀ h' tk', J items.size h' → Q .next (sh s h' tk'))
    (ht : ∀ it v, letOwnedTupleGo target it v = pure () := by intro _ _; rfl)
    (hsf : ∀ x, foldedSetIterable iter env x = pure x := by intro _; rfl) :
    wpAny (model prog w) A (exec (.For target iter body [] pos) env) Q E (sh s h tk) := by
  refine wpAny_For (wpAny_mono hiter (fun xv s₁ h₁ => ?_) fun _ _ e => e) hsf
  obtain ⟨l, h1, tk1, rfl, rfl, s1, L1⟩ := h₁
  refine wpAny_pyIter_list (s := sh s h1 tk1) (L1 0 _ (hJs 0 _ _ hJ0 s1)) ?_
  have zI : h.get? h1.objs.size = none := fresh_sub s1 (fresh_none h1)
  have e1 : (h1.push { cls := .type "list_iterator", data := .fields #[.ref l, .int 0 0] }).IsListIter h1.objs.size l 0 := ⟨_, Heap.get?_push_size _ rfl, rfl, rfl⟩
  refine codeAny_forLoop_any (fun r s' => ∃ i : Nat, ∃ h' tk', r + i = items.size ∧ s' = sh s h' tk' ∧ J i h' ∧ h'.IsListIter h1.objs.size l i) ?_ items.size ⟨0, _, tk1, rfl, rfl, hJs 0 _ _ hJ0 (s1.trans (Sub.push _ _)), e1⟩
  rintro r _ ⟨i, h2, tk2, hri, rfl, J2, it2⟩
  by_cases hi : i < items.size
  · refine wpAny_pyNext_list_item (s := sh s h2 tk2) (x := items[i]) it2 (L1 i h2 J2) (by simp [hi]) fun h3 it3 sb3 => ?_
    refine wpAny_of_eq (ht _ _) ?_
    have J3 : J i h3 := hJi i h2 h3 _ _ _ zI J2 it2 fun b o hb e => (sb3.2 b hb).trans e
    refine wpAny_mono (turn i _ h3 tk2 h1.objs.size (by simp [hi]) J3 zI) (fun _ s₂ h₂ => wpAny_mono h₂ (fun f s₃ h₃ => ?_) fun _ _ x => x.elim) fun _ _ x => x.elim
    cases f with
    | next =>
      obtain ⟨h4, tk4, rfl, J4, kI⟩ := h₃
      obtain ⟨o, e, c, d⟩ := it3
      exact ⟨r - 1, by omega, i + 1, h4, tk4, by omega, rfl, J4, o, kI _ e, c, d⟩
    | cont => exact h₃.elim
    | brk => exact h₃.elim
    | ret v => exact h₃
  · obtain rfl : i = items.size := by omega
    refine wpAny_pyNext_list_end (s := sh s h2 tk2) hA it2 (L1 _ h2 J2) (by simp) fun h3 x3 => wpAny_execs_nil ?_
    exact hq h3 tk2 (hJi _ h2 h3 _ _ _ zI J2 it2 fun b o hb e => x3 b o hb e)
end
end Mine
end
section
namespace Mine
def numAt (nums : List Int) (i : Nat) : Int := (nums.getD (i % nums.length) 0 + i) % 16777216
def givB (nums : List Int) (i j : Nat) : Int := numAt nums i / 2 ^ j % 2
def regB (nums : List Int) (i j : Nat) : Bool := numAt nums i / 2 ^ (12 + j) % 2 == 0
def IRow (h : Heap) (a n : Nat) (f : Nat → Int) : Prop := ∃ vs, h.IsList a vs ∧ vs.size = n ∧ ∀ (j : Nat) v, vs[j]? = some v → ∃ t, v = Value.int (f j) t
def BRow (h : Heap) (a n : Nat) (f : Nat → Bool) : Prop := ∃ vs, h.IsList a vs ∧ vs.size = n ∧ ∀ (j : Nat) v, vs[j]? = some v → v = Value.bool (f j)
theorem IRow.mono {h h' : Heap} {a n f} (x : IRow h a n f) (k : ∀ o, h.get? a = some o → h'.get? a = some o) : IRow h' a n f := let ⟨vs, ⟨o, e, r⟩, z⟩ := x; ⟨vs, ⟨o, k o e, r⟩, z⟩
theorem BRow.mono {h h' : Heap} {a n f} (x : BRow h a n f) (k : ∀ o, h.get? a = some o → h'.get? a = some o) : BRow h' a n f := let ⟨vs, ⟨o, e, r⟩, z⟩ := x; ⟨vs, ⟨o, k o e, r⟩, z⟩
theorem pow_log2 (k : Nat) : ((2 : Int) ^ k).natAbs.log2 = k := by
  rw [Int.natAbs_pow]; exact Nat.log2_two_pow
section
variable {prog : Program} {w : World} {A : Around} {E : Value → Shared → Prop} {s : Shared} {h : Heap} {tk : Tok} {L fa : Nat} {g : Heap} {m mg mb : Str → Option Value} {vn vi vj vr : Option Value}
theorem r_newListP {Q : Value → Shared → Prop} {vs : List Value} (hsz : vs.length ≤ sizeLine) (hq : ∀ h', Sub h h' → PlainL h' h.objs.size vs.toArray → Q (.ref h.objs.size) (sh s h' tk)) : wpAny (model prog w) A (newList vs) Q E (sh s h tk) :=
  wpAny_newList (s := sh s h tk) (hq _ (Sub.push _ _) ⟨_, _, Heap.get?_push_size _ rfl, rfl, rfl, rfl⟩) hsz
theorem r_pow2 {k : Nat} {t u : Tok} {Q : Value → Shared → Prop} (hk : k ≤ 1000) (hq : ∀ t tk, Q (.int (2 ^ k) t) (sh s h tk)) : wpAny (model prog w) A (binaryOp .Pow (.int 2 t) (.int (k : Int) u)) Q E (sh s h tk) :=
  PyProof.Rows.pow_int (s := sh s h tk) (by omega) (by have : Builtin.Int.intBits 2 = 2 := by decide +kernel
                                                       rw [this]; omega) (hq _ _)
theorem r_append {o elt : Expr} {env : Env} {apos pos : Pos} {Q : Value → Shared → Prop} {s : Shared} (hbase : attributeBase o "append" env (eval o env) = eval o env) (hline : (apos.endLine == pos.line) = true) (hst : starEach [elt] env = [(false, eval elt env)])
    (h : wpAny (model prog w) A (eval o env) (fun ov s₁ => ∃ D its, ov = .ref D ∧ PlainL s₁.heap D its ∧
      wpAny (model prog w) A (eval elt env) (fun y s₂ => wpAny (model prog w) A (call (.builtin "list.append") [.ref D, y]) Q E s₂) E s₁) E s) :
    wpAny (model prog w) A (eval (.Call (.Attribute o "append" apos) [elt] [] pos) env) Q E s := by
  have ht : backTo pos (starEach [elt] env) = [(false, eval elt env)] := by rw [hst]; rfl
  exact wpAny_Call_append hbase (by rw [ht]; rfl) hline ht h
end
section
variable {w : World} {A : Around} {E : Value → Shared → Prop} {s : Shared} {h : Heap} {tk : Tok} {L fa : Nat} {g : Heap} {m mg mb : Str → Option Value} {vn vi vj vr : Option Value}
theorem p5 {Q : Flow → Shared → Prop} {nA : Nat} {us : List Value} {nums : List Int} (F : LF L h m vn vi vj vr) (hn : m "numbers" = some (.ref nA)) (hnL : h.IsList nA us.toArray) (hni : IntsAre us nums) (hlen : 4 ≤ nums.length)
    (hq : ∀ h' tk' t, LF L h' (fun y => if y = "wide" then some (.int (4 + nums.getD 0 0 % 8) t) else m y) vn vi vj vr → Kp L [] h h' → Q .next (sh s h' tk')) :
    wpAny (model pw w) A (exec (lawStmt 5) (lawEnv L fa)) Q E (sh s h tk) := by
  obtain ⟨v, hv⟩ : ∃ v, us[0]? = some v := ⟨_, List.getElem?_eq_getElem (by rw [hni.length]; omega)⟩
  obtain ⟨t0, rfl⟩ := hni.int_at 0 v hv
  refine wpAny_Assign_Name (wpAny_BinOp (r_int fun _ _ => wpAny_BinOp (Subscript_ (r_name F.ns hn (r_int fun _ _ => ?_)))))
  refine r_item hnL (by decide) (by decide) (by simpa using hv) ?_
  refine r_int fun _ _ => r_mod (by decide) fun _ _ => r_add fun t _ => l_store F fun h1 tk1 F1 k1 => hq h1 tk1 t F1 k1
theorem p6 {Q : Flow → Shared → Prop} {nA : Nat} {us : List Value} {nums : List Int} (F : LF L h m vn vi vj vr) (hn : m "numbers" = some (.ref nA)) (hnL : h.IsList nA us.toArray) (hni : IntsAre us nums) (hlen : 4 ≤ nums.length)
    (hq : ∀ h' tk' t, LF L h' (fun y => if y = "high" then some (.int (4 + nums.getD 1 0 % 8) t) else m y) vn vi vj vr → Kp L [] h h' → Q .next (sh s h' tk')) :
    wpAny (model pw w) A (exec (lawStmt 6) (lawEnv L fa)) Q E (sh s h tk) := by
  obtain ⟨v, hv⟩ : ∃ v, us[1]? = some v := ⟨_, List.getElem?_eq_getElem (by rw [hni.length]; omega)⟩
  obtain ⟨t0, rfl⟩ := hni.int_at 1 v hv
  refine wpAny_Assign_Name (wpAny_BinOp (r_int fun _ _ => wpAny_BinOp (Subscript_ (r_name F.ns hn (r_int fun _ _ => ?_)))))
  refine r_item hnL (by decide) (by decide) (by simpa using hv) ?_
  refine r_int fun _ _ => r_mod (by decide) fun _ _ => r_add fun t _ => l_store F fun h1 tk1 F1 k1 => hq h1 tk1 t F1 k1
theorem p7 {Q : Flow → Shared → Prop} (F : LF L h m vn vi vj vr)
    (hq : ∀ h' tk' (gA : Nat), LF L h' (fun y => if y = "given" then some (.ref gA) else m y) vn vi vj vr → Kp L [] h h' → PlainL h' gA #[] → h.get? gA = none → Q .next (sh s h' tk')) :
    wpAny (model pw w) A (exec (lawStmt 7) (lawEnv L fa)) Q E (sh s h tk) := by
  refine wpAny_Assign_Name (List_ (r_args (r_newListP (Nat.zero_le _) fun h1 s1 e1 => l_store (F.sub s1) fun h2 tk2 F2 k2 => ?_)))
  obtain ⟨o, n, e, r⟩ := id e1
  exact hq h2 tk2 _ F2 (s1.kp.trans k2) ⟨o, n, k2 _ _ ((F.sub s1).offList e1.isList) (by simp) e, r⟩ (fresh_none h)
theorem p8 {Q : Flow → Shared → Prop} (F : LF L h m vn vi vj vr)
    (hq : ∀ h' tk' (rA : Nat), LF L h' m vn vi vj (some (.ref rA)) → Kp L [] h h' → PlainL h' rA #[] → h.get? rA = none → Q .next (sh s h' tk')) :
    wpAny (model pw w) A (exec (lawStmt 8) (lawEnv L fa)) Q E (sh s h tk) := by
  refine wpAny_Assign_Name (List_ (r_args (r_newListP (Nat.zero_le _) fun h1 s1 e1 => l_storeR (F.sub s1) fun h2 F2 k2 => ?_)))
  obtain ⟨o, n, e, r⟩ := id e1
  exact hq h2 _ _ F2 (s1.kp.trans k2) ⟨o, n, k2 _ _ ((F.sub s1).offList e1.isList) (by simp) e, r⟩ (fresh_none h)
end
end Mine
end
section
namespace Mine
section
variable {prog : Program} {w : World} {A : Around} {E : Value → Shared → Prop} {s : Shared} {h : Heap} {tk : Tok} {env : Env}
/-- range(n) -/
theorem r_range {x : Str} {p pos : Pos} {e : Expr} {n : Nat} {mg mb : Str → Option Value} {g : Heap} (hs : Sub g h) (ng : g.Ns env.globals mg) (nb : g.Ns env.builtins mb) (m1 : mg x = none) (m2 : mb x = some (.type "range"))
    (he : ∀ Q' : Value → Shared → Prop, (∀ t tk, Q' (.int n t) (sh s h tk)) → wpAny (model prog w) A (eval e env) Q' E (sh s h tk)) (hst : starEach [e] env = [(false, eval e env)])
    (hk : env.scope.kind = .function) (hl : env.kindOf x = some .globalImplicit) (hd : (x == ("__debug__" : Str)) = false) :
    wpAny (model prog w) A (eval (.Call (.Name x p) [e] [] pos) env) (fun xv s₁ => ∃ l h1 tk1 t u v, xv = .ref l ∧ s₁ = sh s h1 tk1 ∧ Sub h h1 ∧ IsRange h1 l 0 n 1 t u v) E (sh s h tk) := by
  refine r_callT1 (T := "range") (fun Q' hq => r_builtin (hs.ns ng) m1 (hs.ns nb) m2 hq hk hl hd) (he _ fun t tk => ?_) hst
  exact call_range_1 (s := sh s h tk) ⟨_, _, _, _, _, _, rfl, rfl, Sub.push _ _, IsRange.new _ _ _ _ _ _ _⟩
end
section
variable {w : World} {A : Around} {E : Value → Shared → Prop} {s : Shared} {h : Heap} {tk : Tok} {L fa : Nat} {g : Heap} {m mg mb : Str → Option Value} {vn vi vj vr : Option Value}
theorem plain_sub {h h' : Heap} {a : Nat} {its} (x : PlainL h a its) (st : Sub h h') : PlainL h' a its := x.keeps st
theorem plain_kp {X : List Nat} {h h' : Heap} {a : Nat} {its} (x : PlainL h a its) (F : LF L h m vn vi vj vr) (k : Kp L X h h') (hX : a ∉ X) : PlainL h' a its := let ⟨o, n, e, r⟩ := x; ⟨o, n, k _ _ (F.offList (PlainL.isList ⟨o, n, e, r⟩)) hX e, r⟩
theorem LF.list_sb {h' : Heap} {a : Nat} {xs} (F : LF L h m vn vi vj vr) (hl : h.IsList a xs) (sb : Heap.SameBut a h h') : LF L h' m vn vi vj vr := by
  have o := F.offList hl
  exact ⟨ns_sb sb (show L ≠ a by omega) F.ns, cell_sb sb (show L + 1 ≠ a by omega) F.cN, cell_sb sb (show L + 1 + 1 ≠ a by omega) F.cI, cell_sb sb (show L + 1 + 1 + 1 ≠ a by omega) F.cJ, cell_sb sb (show L + 1 + 1 + 1 + 1 ≠ a by omega) F.cR⟩
/-- what is new behind a step was new ahead of it -/
theorem LF.fresh {X : List Nat} {h' : Heap} {m' vn' vi' vj' vr'} {a : Nat} (F : LF L h' m' vn' vi' vj' vr') (k : Kp L X h h') (e : h'.get? a = none) (hX : a ∉ X) : h.get? a = none := by
  cases q : h.get? a with
  | none => rfl
  | some o =>
    have on : a < L ∨ L + 4 < a := by
      obtain ⟨o1, es, n, e1, d1, _⟩ := F.ns
      obtain ⟨o2, e2, d2⟩ := F.cN
      obtain ⟨o3, e3, d3⟩ := F.cI
      obtain ⟨o4, e4, d4⟩ := F.cJ
      obtain ⟨o5, e5, d5⟩ := F.cR
      have n1 : a ≠ L := by rintro rfl; rw [e] at e1; cases e1
      have n2 : a ≠ L + 1 := by rintro rfl; rw [e] at e2; cases e2
      have n3 : a ≠ L + 1 + 1 := by rintro rfl; rw [e] at e3; cases e3
      have n4 : a ≠ L + 1 + 1 + 1 := by rintro rfl; rw [e] at e4; cases e4
      have n5 : a ≠ L + 1 + 1 + 1 + 1 := by rintro rfl; rw [e] at e5; cases e5
      omega
    rw [k _ _ on hX q] at e; cases e
theorem ne_fresh {h : Heap} {a b : Nat} {o : Obj} (e : h.get? a = none) (e' : h.get? b = some o) : a ≠ b := by rintro rfl; rw [e] at e'; cases e'
set_option maxHeartbeats 2000000 in
theorem p9_body {Q : Flow → Shared → Prop} {nA gA rA W i : Nat} {us : List Value} {gs rs : Array Value} {nums : List Int} {ti tw : Tok} (F : LF L h m vn (some (.int i ti)) vj (some (.ref rA))) (G : Gnd g L mg mb) (hs : Sub g h) (hA : A.handled = none)
    (hn : m "numbers" = some (.ref nA)) (hw : m "wide" = some (.int W tw)) (hg : m "given" = some (.ref gA)) (hnL : h.IsList nA us.toArray) (hni : IntsAre us nums) (hl0 : 0 < nums.length) (hlen : nums.length ≤ 63) (hW : W ≤ 11) (hi : i ≤ 100)
    (hnv : ∀ n ∈ nums, True) (pg : PlainL h gA gs) (pr : PlainL h rA rs) (hgr : gA ≠ rA) (zg : gs.size ≤ 100) (zr : rs.size ≤ 100) (hgn : g.get? gA = none) (hrn : g.get? rA = none) (hng : nA ≠ gA) (hnr : nA ≠ rA)
    (hq : ∀ h' tk' (a b : Nat) vn, LF L h' m vn (some (.int i ti)) vj (some (.ref rA)) → Kp L [gA, rA] h h' → PlainL h' gA (gs.push (.ref a)) → PlainL h' rA (rs.push (.ref b)) → IRow h' a W (givB nums i) → BRow h' b W (regB nums i) →
      h.get? a = none → h.get? b = none → Q .next (sh s h' tk')) :
    wpAny (model pw w) A (execs (forBody (lawStmt 9)) (lawEnv L fa)) Q E (sh s h tk) := by
  have hul : us.length = nums.length := hni.length
  -- number
  refine wpAny_execs_cons (wpAny_Assign_Name ?_)
  refine wpAny_BinOp (wpAny_BinOp (Subscript_ (r_name F.ns hn (wpAny_BinOp (r_cell F.cI ?_)))))
  refine r_call1 (fun Q' hq => r_builtin (hs.ns G.ng) G.nLen (hs.ns G.nb) G.bLen hq) (r_name F.ns hn ?_)
  refine r_len hnL (by rw [List.size_toArray]; omega) fun _ _ => ?_
  rw [List.size_toArray, hul]
  refine r_mod (by omega) fun _ _ => ?_
  have e1 : ((i : Nat) : Int) % (nums.length : Int) = ((i % nums.length : Nat) : Int) := by omega
  rw [e1]
  have hlt := Nat.mod_lt i hl0
  obtain ⟨v, hv⟩ : ∃ v, us[i % nums.length]? = some v := ⟨_, List.getElem?_eq_getElem (by omega)⟩
  obtain ⟨t0, rfl⟩ := hni.int_at _ v hv
  refine r_item hnL (by omega) (by omega) (by rw [List.getElem?_toArray, Int.toNat_natCast]; exact hv) ?_
  refine r_cell F.cI (r_add fun _ _ => r_int fun _ _ => r_mod (by decide) fun tN _ => ?_)
  show wpAny _ _ (storeName _ _ (.int (numAt nums i) tN)) _ _ _
  refine l_storeN F fun h1 F1 k1 => ?_
  have hs1 := G.kp0 hs k1
  have pg1 := plain_kp pg F k1 (by simp)
  have pr1 := plain_kp pr F k1 (by simp)
  -- given.append
  refine wpAny_execs_cons (wpAny_Expr (r_append rfl rfl rfl (r_name F1.ns hg ⟨gA, gs, rfl, pg1, ?_⟩)))
  refine wpAny_of (r_compRange along_any (n := W) hA rfl (by decide) rfl (by decide) rfl (by omega) (fun j y _ => ∃ t, y = .int (givB nums i j) t) (fun _ _ _ _ a _ => a) (r_range hs1 G.ng G.nb G.nRange G.bRange (fun Q' hq => r_name F1.ns hw (hq _ _)) rfl rfl rfl rfl)
    (fun C j h2 m2 tk2 tj hj ns2 mx st2 => wpP_of ?elt1) fun h2 tk2 a ys za eD zD vD s2 => ?_)
  case elt1 =>
    refine wpAny_BinOp (wpAny_BinOp (r_cell (st2.cell F1.cN) (wpAny_BinOp (r_int fun _ _ => r_name ns2 mx (r_pow2 (by omega) fun _ _ => ?_)))))
    refine r_div (by exact Int.pow_pos (by decide)) (by rw [pow_log2]; omega) fun _ _ => r_int fun _ _ => r_mod (by decide) fun t _ => ?_
    exact ⟨h2, _, rfl, Sub.refl _, t, rfl⟩
  refine list_append_plainL (s := sh s h2 tk2) (plain_sub pg1 s2) (fun h3 pg3 sb3 => ?_) (by have : sizeLine = 2 ^ 24 := rfl; omega)
  have gl2 := (plain_sub pg1 s2).isList
  have F2 := F1.sub s2
  have F3 := F2.list_sb gl2 sb3
  have nag : a ≠ gA := by obtain ⟨o, n, e, _⟩ := pg1; exact ne_fresh za e
  have nar : a ≠ rA := by obtain ⟨o, n, e, _⟩ := pr1; exact ne_fresh za e
  have s2k : ∀ b o, b ≠ gA → h1.get? b = some o → h3.get? b = some o := fun b o hb e => (sb3.2 b hb).trans (s2 b o e)
  have hs3 : Sub g h3 := fun b o e => s2k b o (fun q => by rw [q, hgn] at e; cases e) (hs1 b o e)
  have pr3 : PlainL h3 rA rs := by obtain ⟨o, n, e, r⟩ := pr1; exact ⟨o, n, s2k _ _ (Ne.symm hgr) e, r⟩
  have row3 : IRow h3 a W (givB nums i) := ⟨ys, by obtain ⟨o, e, r⟩ := eD; exact ⟨o, (sb3.2 a nag).trans e, r⟩, zD, vD⟩
  have k13 : Kp L [gA, rA] h1 h3 := fun b o hb hX e => s2k b o (fun q => hX (by simp [q])) e
  have k03 : Kp L [gA, rA] h h3 := k1.nil.trans k13
  -- region.append
  refine wpAny_execs_cons (wpAny_Expr (r_append rfl rfl rfl (r_cell F3.cR ⟨rA, rs, rfl, pr3, ?_⟩)))
  refine wpAny_of (r_compRange along_any (n := W) hA rfl (by decide) rfl (by decide) rfl (by omega) (fun j y _ => y = .bool (regB nums i j)) (fun _ _ _ _ a _ => a) (r_range hs3 G.ng G.nb G.nRange G.bRange (fun Q' hq => r_name F3.ns hw (hq _ _)) rfl rfl rfl rfl)
    (fun C j h4 m4 tk4 tj hj ns4 mx st4 => wpP_of ?elt2) fun h4 tk4 b zs zb eE zE vE s4 => ?_)
  case elt2 =>
    refine wpAny_Compare1 (wpAny_BinOp (wpAny_BinOp (r_cell (st4.cell F3.cN) (wpAny_BinOp (r_int fun _ _ => wpAny_BinOp (r_int fun _ _ => r_name ns4 mx (r_add fun _ _ => ?_)))))))
    have e2 : (12 : Int) + (j : Int) = ((12 + j : Nat) : Int) := by omega
    rw [e2]
    refine r_pow2 (by omega) fun _ _ => ?_
    refine r_div (by exact Int.pow_pos (by decide)) (by rw [pow_log2]; omega) fun _ _ => r_int fun _ _ => r_mod (by decide) fun _ _ => r_int fun _ _ => r_eq ?_
    exact ⟨h4, _, rfl, Sub.refl _, rfl⟩
  refine list_append_plainL (s := sh s h4 tk4) (plain_sub pr3 s4) (fun h5 pr5 sb5 => ?_) (by have : sizeLine = 2 ^ 24 := rfl; omega)
  have rl4 := (plain_sub pr3 s4).isList
  have F5 := (F3.sub s4).list_sb rl4 sb5
  have nbg : b ≠ gA := by obtain ⟨o, n, e, _⟩ := pg3; exact ne_fresh zb e
  have nbr : b ≠ rA := by obtain ⟨o, n, e, _⟩ := pr3; exact ne_fresh zb e
  have s4k : ∀ b o, b ≠ rA → h3.get? b = some o → h5.get? b = some o := fun b o hb e => (sb5.2 b hb).trans (s4 b o e)
  refine wpAny_execs_nil ?_
  refine hq h5 tk4 a b _ F5 (k03.trans fun b o hb hX e => s4k b o (fun q => hX (by simp [q])) e) ?_ pr5 (row3.mono fun o e => s4k _ _ nar e) ⟨zs, ?_, zE, vE⟩ (F1.fresh k1 za (by simp)) (F3.fresh k03 zb (by simp [nbg, nbr]))
  · obtain ⟨o, n, e, r⟩ := pg3
    exact ⟨o, n, s4k _ _ hgr e, r⟩
  · obtain ⟨o, e, r⟩ := eE
    exact ⟨o, (sb5.2 b nbr).trans e, r⟩
end
end Mine
end
section
namespace Mine
theorem kp_iter {L : Nat} {X : List Nat} {h h1 h2 : Heap} {I : Nat} (zI : h.get? I = none) (k : Kp L X h h1) (k2 : ∀ b o, b ≠ I → h1.get? b = some o → h2.get? b = some o) : Kp L X h h2 := fun b o hb hX e =>
  k2 b o (fun q => by rw [q, zI] at e; cases e) (k b o hb hX e)
section
variable {w : World} {A : Around} {E : Value → Shared → Prop} {s : Shared} {h : Heap} {tk : Tok} {L fa : Nat} {g : Heap} {m mg mb : Str → Option Value} {vn vi vj vr : Option Value}
theorem LF.iter {h1 h2 : Heap} {m' vn' vi' vj' vr'} {I : Nat} (F : LF L h m vn vi vj vr) (zI : h.get? I = none) (F1 : LF L h1 m' vn' vi' vj' vr') (k2 : ∀ b o, b ≠ I → h1.get? b = some o → h2.get? b = some o) : LF L h2 m' vn' vi' vj' vr' := by
  have nL : I ≠ L := by obtain ⟨o, es, n, e, _⟩ := F.ns; exact ne_fresh zI e
  have n1 : I ≠ L + 1 := by obtain ⟨o, e, _⟩ := F.cN; exact ne_fresh zI e
  have n2 : I ≠ L + 1 + 1 := by obtain ⟨o, e, _⟩ := F.cI; exact ne_fresh zI e
  have n3 : I ≠ L + 1 + 1 + 1 := by obtain ⟨o, e, _⟩ := F.cJ; exact ne_fresh zI e
  have n4 : I ≠ L + 1 + 1 + 1 + 1 := by obtain ⟨o, e, _⟩ := F.cR; exact ne_fresh zI e
  have c : ∀ {a : Nat} {v}, I ≠ a → h1.IsCell a v → h2.IsCell a v := fun ha x => let ⟨o, e, r⟩ := x; ⟨o, k2 _ _ (Ne.symm ha) e, r⟩
  exact ⟨let ⟨o, es, n, e, r⟩ := F1.ns; ⟨o, es, n, k2 _ _ (Ne.symm nL) e, r⟩, c n1 F1.cN, c n2 F1.cI, c n3 F1.cJ, c n4 F1.cR⟩
/-- the iterator stands off the frame -/
theorem LF.offNew {I : Nat} (F : LF L h m vn vi vj vr) (zI : h.get? I = none) : I < L ∨ L + 4 < I := by
  have nL : I ≠ L := by obtain ⟨o, es, n, e, _⟩ := F.ns; exact ne_fresh zI e
  have n1 : I ≠ L + 1 := by obtain ⟨o, e, _⟩ := F.cN; exact ne_fresh zI e
  have n2 : I ≠ L + 1 + 1 := by obtain ⟨o, e, _⟩ := F.cI; exact ne_fresh zI e
  have n3 : I ≠ L + 1 + 1 + 1 := by obtain ⟨o, e, _⟩ := F.cJ; exact ne_fresh zI e
  have n4 : I ≠ L + 1 + 1 + 1 + 1 := by obtain ⟨o, e, _⟩ := F.cR; exact ne_fresh zI e
  omega
/-- the rows made so far: addresses gs, rs -/
structure Rows (h0 h : Heap) (gA rA W n : Nat) (nums : List Int) (gs rs : List Nat) : Prop where
  pg : PlainL h gA (gs.map Value.ref).toArray
  pr : PlainL h rA (rs.map Value.ref).toArray
  lg : gs.length = n
  lr : rs.length = n
  ig : ∀ k < n, IRow h (gs.getD k 0) W (givB nums k)
  br : ∀ k < n, BRow h (rs.getD k 0) W (regB nums k)
  ng : ∀ k < n, h0.get? (gs.getD k 0) = none
  nr : ∀ k < n, h0.get? (rs.getD k 0) = none
theorem getD_snoc {l : List Nat} {a k : Nat} : (l ++ [a]).getD k 0 = if k = l.length then a else l.getD k 0 := by
  simp only [List.getD_eq_getElem?_getD, List.getElem?_append]
  by_cases h1 : k < l.length
  · rw [if_pos h1, if_neg (by omega)]
  · rw [if_neg h1]
    by_cases h2 : k = l.length
    · subst h2; simp
    · rw [if_neg h2]
      have : l[k]? = none := List.getElem?_eq_none (by omega)
      rw [this, List.getElem?_eq_none (by simp; omega)]
theorem Rows.keep {h0 h h' : Heap} {gA rA W n nums gs rs} (R : Rows h0 h gA rA W n nums gs rs) (k : ∀ a xs o, h.IsList a xs → h.get? a = some o → h'.get? a = some o) : Rows h0 h' gA rA W n nums gs rs := by
  refine ⟨?_, ?_, R.lg, R.lr, fun j hj => ?_, fun j hj => ?_, R.ng, R.nr⟩
  · obtain ⟨o, q, e, r⟩ := R.pg; exact ⟨o, q, k _ _ _ (PlainL.isList ⟨o, q, e, r⟩) e, r⟩
  · obtain ⟨o, q, e, r⟩ := R.pr; exact ⟨o, q, k _ _ _ (PlainL.isList ⟨o, q, e, r⟩) e, r⟩
  · obtain ⟨vs, l, z⟩ := R.ig j hj; exact ⟨vs, let ⟨o, e, r⟩ := l; ⟨o, k _ _ _ l e, r⟩, z⟩
  · obtain ⟨vs, l, z⟩ := R.br j hj; exact ⟨vs, let ⟨o, e, r⟩ := l; ⟨o, k _ _ _ l e, r⟩, z⟩
set_option maxHeartbeats 2000000 in
theorem p9 {Q : Flow → Shared → Prop} {nA gA rA W H : Nat} {us : List Value} {nums : List Int} {tw th : Tok} (F : LF L h m vn vi vj (some (.ref rA))) (G : Gnd g L mg mb) (hs : Sub g h) (hA : A.handled = none)
    (hn : m "numbers" = some (.ref nA)) (hw : m "wide" = some (.int W tw)) (hh : m "high" = some (.int H th)) (hg : m "given" = some (.ref gA)) (hnL : h.IsList nA us.toArray) (hni : IntsAre us nums) (hl0 : 0 < nums.length) (hlen : nums.length ≤ 63) (hW : W ≤ 11) (hH : H ≤ 11)
    (pg : PlainL h gA #[]) (pr : PlainL h rA #[]) (hgr : gA ≠ rA) (hgn : g.get? gA = none) (hrn : g.get? rA = none) (hng : nA ≠ gA) (hnr : nA ≠ rA)
    (hq : ∀ h' tk' vn vi gs rs, LF L h' m vn vi vj (some (.ref rA)) → Kp L [gA, rA] h h' → Rows h h' gA rA W H nums gs rs → Q .next (sh s h' tk')) :
    wpAny (model pw w) A (exec (lawStmt 9) (lawEnv L fa)) Q E (sh s h tk) := by
  have gX : ∀ x ∈ [gA, rA], g.get? x = none := by
    intro x hx
    rcases List.mem_cons.mp hx with rfl | hx
    · exact hgn
    · rcases List.mem_cons.mp hx with rfl | hx
      · exact hrn
      · cases hx
  refine for_range (n := H) (by omega) hA (fun i h' => ∃ vn vi gs rs, LF L h' m vn vi vj (some (.ref rA)) ∧ Kp L [gA, rA] h h' ∧ Rows h h' gA rA W i nums gs rs)
    (r_range hs G.ng G.nb G.nRange G.bRange (fun Q' hq => r_name F.ns hh (hq _ _)) rfl rfl rfl rfl)
    ⟨vn, vi, [], [], F, Kp.refl, ⟨pg, pr, rfl, rfl, fun _ h => absurd h (Nat.not_lt_zero _), fun _ h => absurd h (Nat.not_lt_zero _), fun _ h => absurd h (Nat.not_lt_zero _), fun _ h => absurd h (Nat.not_lt_zero _)⟩⟩
    (fun i h1 h2 ⟨a, b, gs, rs, F1, k1, R1⟩ st => ⟨a, b, gs, rs, F1.sub st, k1.trans st.kp, R1.keep fun _ _ _ _ e => st _ _ e⟩)
    (fun i h1 h2 I x l st zI ⟨a, b, gs, rs, F1, k1, R1⟩ it k2 => ⟨a, b, gs, rs, F.iter zI F1 k2, kp_iter zI k1 k2, R1.keep fun c xs o hl e => k2 _ _ (fun q => by
      subst q
      obtain ⟨o', e', _, n', d'⟩ := hl
      rw [it] at e'; cases e'; cases d') e⟩) ?_ (fun h' tk' ⟨a, b, gs, rs, F1, k1, R1⟩ => hq h' tk' a b gs rs F1 k1 R1)
  rintro i h1 tk1 t I hi ⟨a1, b1, gs, rs, F1, k1, R1⟩ zI
  refine wpAny_assign_Name (l_storeI F1 fun h2 F2 k2 => ?_)
  have k02 : Kp L [gA, rA] h h2 := k1.trans k2.nil
  have R2 := R1.keep (h' := h2) fun c xs o hl e => k2 _ _ (F1.offList hl) (by simp) e
  have nIg : I ≠ gA := by obtain ⟨o, n, e, _⟩ := pg; exact ne_fresh zI e
  have nIr : I ≠ rA := by obtain ⟨o, n, e, _⟩ := pr; exact ne_fresh zI e
  refine p9_body F2 G (G.kp hs k02 gX) hA hn hw hg (k02.list hnL (F.offList hnL) (by simp [hng, hnr])) hni hl0 hlen hW (by omega) (fun _ _ => trivial) R2.pg R2.pr hgr (by simp [R2.lg]; omega) (by simp [R2.lr]; omega) hgn hrn hng hnr ?_
  intro h3 tk3 a b vn3 F3 k3 pg3 pr3 ig br za zb
  have offI := F.offNew zI
  refine ⟨h3, tk3, rfl, ⟨vn3, _, gs ++ [a], rs ++ [b], F3, k02.trans k3, ?_⟩, fun o e => k3 _ _ offI (by simp [nIg, nIr]) (k2 _ _ offI (by simp) e)⟩
  have nX : ∀ {c : Nat}, h.get? c = none → c ∉ [gA, rA] := fun {c} zc q => by
    rcases List.mem_cons.mp q with rfl | q
    · obtain ⟨o, n, e, _⟩ := pg; rw [zc] at e; cases e
    · rcases List.mem_cons.mp q with rfl | q
      · obtain ⟨o, n, e, _⟩ := pr; rw [zc] at e; cases e
      · cases q
  refine ⟨by simpa using pg3, by simpa using pr3, by simp [R2.lg], by simp [R2.lr], fun k hk => ?_, fun k hk => ?_, fun k hk => ?_, fun k hk => ?_⟩
  · rw [getD_snoc, R2.lg]
    by_cases e : k = i
    · rw [if_pos e, e]; exact ig
    · rw [if_neg e]
      obtain ⟨vs, l, z⟩ := R2.ig k (by omega)
      exact ⟨vs, k3.list l (F2.offList l) (nX (R2.ng k (by omega))), z⟩
  · rw [getD_snoc, R2.lr]
    by_cases e : k = i
    · rw [if_pos e, e]; exact br
    · rw [if_neg e]
      obtain ⟨vs, l, z⟩ := R2.br k (by omega)
      exact ⟨vs, k3.list l (F2.offList l) (nX (R2.nr k (by omega))), z⟩
  · rw [getD_snoc, R2.lg]
    by_cases e : k = i
    · rw [if_pos e]
      refine F2.fresh k02 za (fun q => ?_)
      rcases List.mem_cons.mp q with rfl | q
      · obtain ⟨o, n, e, _⟩ := R2.pg; rw [za] at e; cases e
      · rcases List.mem_cons.mp q with rfl | q
        · obtain ⟨o, n, e, _⟩ := R2.pr; rw [za] at e; cases e
        · cases q
    · rw [if_neg e]; exact R2.ng k (by omega)
  · rw [getD_snoc, R2.lr]
    by_cases e : k = i
    · rw [if_pos e]
      refine F2.fresh k02 zb (fun q => ?_)
      rcases List.mem_cons.mp q with rfl | q
      · obtain ⟨o, n, e, _⟩ := R2.pg; rw [zb] at e; cases e
      · rcases List.mem_cons.mp q with rfl | q
        · obtain ⟨o, n, e, _⟩ := R2.pr; rw [zb] at e; cases e
        · cases q
    · rw [if_neg e]; exact R2.nr k (by omega)
end
end Mine
end
section
namespace Mine
/-- the series of masks -/
def serOf (nums : List Int) : List Nat := ((nums.drop 2).take 3).map fun n => (n % 12).toNat
theorem ser_lt {nums : List Int} {k : Nat} (h : k ∈ serOf nums) : k < 12 := by
  unfold serOf at h
  obtain ⟨n, _, rfl⟩ := List.mem_map.mp h
  omega
theorem ser_len {nums : List Int} : (serOf nums).length ≤ 3 := by unfold serOf; rw [List.length_map, List.length_take]; omega
section
variable {w : World} {A : Around} {E : Value → Shared → Prop} {s : Shared} {h : Heap} {tk : Tok} {L fa : Nat} {g : Heap} {m mg mb : Str → Option Value} {vn vi vj vr : Option Value}
theorem LF.outer {h' : Heap} {m'} (F : LF L h m vn vi vj vr) (k : ∀ b o, b ≠ L → h.get? b = some o → h'.get? b = some o) (n : h'.Ns L m') : LF L h' m' vn vi vj vr := by
  have c : ∀ {a : Nat} {v}, a ≠ L → h.IsCell a v → h'.IsCell a v := fun ha x => let ⟨o, e, r⟩ := x; ⟨o, k _ _ ha e, r⟩
  exact ⟨n, c (by omega) F.cN, c (by omega) F.cI, c (by omega) F.cJ, c (by omega) F.cR⟩
set_option maxHeartbeats 1000000 in
theorem p10 {Q : Flow → Shared → Prop} {nA : Nat} {us : List Value} {nums : List Int} (F : LF L h m vn vi vj vr) (hA : A.handled = none) (hn : m "numbers" = some (.ref nA)) (hnL : h.IsList nA us.toArray) (hni : IntsAre us nums) (hlen : nums.length ≤ 63)
    (hq : ∀ h' tk' (sA : Nat) ys, LF L h' (fun y => if y = "series" then some (.ref sA) else m y) vn vi vj vr → Kp L [] h h' → h'.IsList sA ys → ys.size = (serOf nums).length → (∀ (i : Nat) y, ys[i]? = some y → ∃ t, y = .int ((serOf nums).getD i 0 : Nat) t) → h.get? sA = none → Q .next (sh s h' tk')) :
    wpAny (model pw w) A (exec (lawStmt 10) (lawEnv L fa)) Q E (sh s h tk) := by
  have hi2 := kmk_run hni (show (0 : Int) ≤ 2 by decide) (show (0 : Int) ≤ 5 by decide)
  have hser : (nums.drop (2 : Int).toNat).take (min (5 : Int).toNat nums.length - (2 : Int).toNat) = (nums.drop 2).take 3 := by
    show (nums.drop 2).take (min 5 nums.length - 2) = _
    by_cases hl : 5 ≤ nums.length
    · rw [Nat.min_eq_left hl]
    · rw [Nat.min_eq_right (by omega), List.take_of_length_le (by rw [List.length_drop]; omega), List.take_of_length_le (by rw [List.length_drop]; omega)]
  rw [hser] at hi2
  have hul : us.length = nums.length := hni.length
  have hz := hi2.length
  refine wpAny_of (x_compList along_any (items := slicePick us.toArray (some 2) (some 5) none) rfl rfl rfl hA rfl (by decide) rfl (by decide) rfl ?sz (fun i y _ => ∃ t, y = .int ((serOf nums).getD i 0 : Nat) t) (fun _ _ _ _ a _ => a) (fun _ _ => True) F.ns ?iter (fun C i v h' m' tk' ys hi ns mx st _ => wpP_of ?elt) ?fin)
  case sz =>
    have : (slicePick us.toArray (some 2) (some 5) none).size ≤ 3 := by
      rw [← Array.length_toList, hz, List.length_take]; omega
    have : sizeLine = 2 ^ 24 := rfl
    omega
  case iter =>
    refine Subscript_ (r_name F.ns hn ?_)
    refine r_mkSlice (wpAny_evalPart_some (r_int fun _ _ => wpAny_evalPart_some (r_int fun _ _ h1 s1 e1 => ?_)))
    refine r_slice (s1.list hnL) e1 (.int _ _) (.int _ _) (by rw [List.size_toArray]; have : sizeLine = 2 ^ 24 := rfl; omega) fun h2 s2 e2 => ?_
    exact ⟨_, h2, _, rfl, rfl, s1.trans s2, e2⟩
  case elt =>
    obtain ⟨t0, rfl⟩ := hi2.int_at i v (by simpa using hi)
    refine wpAny_BinOp (r_name ns mx (r_int fun _ _ => r_mod (by decide) fun t _ => ⟨h', _, rfl, Sub.refl _, ⟨t, ?_⟩, fun _ _ _ => trivial⟩))
    have hlt : i < ((nums.drop 2).take 3).length := by
      have := (Array.getElem?_eq_some_iff.mp hi).1
      rw [← hz]; simpa using this
    have : (serOf nums).getD i 0 = (((nums.drop 2).take 3).getD i 0 % 12).toNat := by
      unfold serOf
      simp only [List.getD_eq_getElem?_getD, List.getElem?_map, List.getElem?_eq_getElem hlt, Option.map_some, Option.getD_some]
    rw [this, Int.toNat_of_nonneg (by omega)]
  case fin =>
    intro h' tk' D ys zD hD hsz hv _ hk ns
    refine hq h' tk' D ys (F.outer hk ns) (fun b o hb _ e => hk b o (show b ≠ L by omega) e) hD ?_ hv zD
    rw [hsz, ← Array.length_toList, hz]; unfold serOf; rw [List.length_map]
end
end Mine
end
section
namespace Mine
def baObj (bs : Array UInt8) : Obj := { cls := .type "bytearray", data := .bytearray bs }
def BAt (h : Heap) (b : Nat) (bs : Array UInt8) : Prop := h.get? b = some (baObj bs)
theorem ba_release : typeLookup (.type "bytearray") "__release_buffer__" = pure (some (.builtin "bytearray.__release_buffer__")) := by rw [typeLookup_type, builtinLookup_eq_fast]; kernel_rfl
theorem ba_ends : "bytearray.__release_buffer__".endsWith ("." ++ "__release_buffer__") = true := by decide +kernel
theorem ba_drop : "bytearray.__release_buffer__".dropRight ("__release_buffer__".length + 1) = "bytearray" := by decide +kernel
theorem ba_bind (v : Value) : Builtin.Bytes.bindOptional "bytearray.__init__" "bytearray" ["source", "encoding", "errors"] [v] [] = pure [some v, none, none] := by kernel_rfl
section
variable {α : Type} {P : Ctx → Prop} {prog : Program} {w : World} {A : Around} {E : Value → Shared → Prop} {s : Shared} {R : Result → Shared → Prop}
theorem codeP_builtin (al : Along P) {id : String} {args : Args} {b : Builtin} (hb : entryFor table id = some b)
    (h : wpP P (model prog w) (A.under (.builtin id args)) (b args)
      (fun fin s' => match fin with | .done f => R (.ok f) s' | .again c' => (c'.quiet = true ∧ holds? c' = false) ∧ codeP P (model prog w) A c' R s') (fun e s' => R (.error e) s') s) :
    codeP P (model prog w) A (.builtin id args) R s := by
  refine codeP_of_tree al ?_
  show wpP P _ _ (match entryFor table id with | some b => b args | none => unsupported ((withoutEnding? id "#data").getD id)) _ _ s
  rw [hb]; exact h
theorem wpP_eq {M : Model} {t : Sem α} {a : α} {Q : α → Shared → Prop} (e : t = pure a) (h : Q a s) : wpP P M A t Q E s := wpP_of (wpAny_of_eq e h)
theorem if_f {M : Model} {c : Bool} {a b : Sem α} {Q : α → Shared → Prop} (hc : c = false) (h : wpP P M A b Q E s) : wpP P M A (if c = true then a else b) Q E s := by subst hc; exact h
theorem if_t {M : Model} {c : Bool} {a b : Sem α} {Q : α → Shared → Prop} (hc : c = true) (h : wpP P M A a Q E s) : wpP P M A (if c = true then a else b) Q E s := by subst hc; exact h
theorem code_ba_new (a : Value) {Q₁ : Value → Shared → Prop}
    (h : Q₁ (.ref s.heap.objs.size) { s with heap := s.heap.push (baObj #[]) }) :
    codeAny (model prog w) A (.call (.builtin "bytearray.__new__") ⟨[.type "bytearray", a], []⟩) (wants Q₁ E) s := by
  refine codeAny_of_tree ?_
  show wpAny _ A.in1 (do checkBuiltinCall "bytearray.__new__" ⟨[.type "bytearray", a], []⟩; again (.builtin "bytearray.__new__" ⟨[.type "bytearray", a], []⟩)) _ _ s
  refine wpAny_bind (wpAny_of_eq (ba_newCall a) (wpAny_pure ⟨plainId_quiet ba_plain_new _, codeAny_builtin_stack ba_entry_new rfl fun p st => ?_⟩))
  rw [Around.under_plainId ba_plain_new _]
  have hsub := ba_sub
  have hown := ba_owner_new
  obtain ⟨hp, g, d, tk, os⟩ := s
  simp only [hown]
  wp_walk
  exact h
theorem ba_type {h : Heap} {b : Nat} {bs} {s : Shared} (e : BAt h b bs) (hs : s.heap = h) : s.TypeIs (.ref b) "bytearray" := by
  subst hs
  exact ⟨_, e, rfl⟩
theorem ba_write {M : Model} {b : Nat} {bs : Array UInt8} {f : Array UInt8 → Array UInt8} {Q : Unit → Shared → Prop} {h : Heap} {tk : Tok} (e : BAt h b bs) (hz : (f bs).size ≤ sizeLine)
    (hq : ∀ h', BAt h' b (f bs) → Heap.SameBut b h h' → Q () (sh s h' tk)) : wpAny M A (Builtin.Bytes.write (.ref b) f) Q E (sh s h tk) := by
  show wpAny _ _ (updateBytearray b f) _ _ _
  unfold updateBytearray
  refine wpAny_bind (wpAny_load (s := sh s h tk) e ?_)
  show wpAny _ _ (update b (Obj.mapBytearray f) >>= fun _ => lookBehind b) _ _ _
  refine wpAny_bind (wpAny_update (s := sh s h tk) e ?_)
  have e2 : (h.update b (Obj.mapBytearray f)).get? b = some (baObj (f bs)) := Heap.get?_update_self (Obj.mapBytearray f) e rfl
  refine wpAny_lookBehind (s := sh s (h.update b (Obj.mapBytearray f)) tk) e2 ?_ (hq _ e2 (Heap.SameBut.update ..))
  show (if (f bs).size > sizeLine then some "bytearray:memory" else none) = none
  rw [if_neg (by omega)]
end
end Mine
end
section
namespace Mine
def bytesOf (n : Nat) (f : Nat → Int) : Array UInt8 := ((List.range n).map fun j => (f j).toNat.toUInt8).toArray
theorem take_all {p : Value → Bool} : ∀ {xs : List Value}, (∀ v ∈ xs, p v = true) → xs.takeWhile p = xs
  | [], _ => rfl
  | x :: xs, h => by rw [List.takeWhile_cons, if_pos (h x (.head _)), take_all fun v hv => h v (.tail _ hv)]
theorem row_list {n : Nat} {f : Nat → Int} {vs : Array Value} (hz : vs.size = n) (hv : ∀ (j : Nat) v, vs[j]? = some v → ∃ t, v = Value.int (f j) t) : ∃ tok : Nat → Tok, vs = ((List.range n).map fun j => Value.int (f j) (tok j)).toArray := by
  have hv' : ∀ j, ∃ t, ∀ v, vs[j]? = some v → v = Value.int (f j) t := fun j => by
    cases e : vs[j]? with
    | none => exact ⟨0, fun v q => nomatch q⟩
    | some v => obtain ⟨t, ht⟩ := hv j v e; exact ⟨t, fun v' q => by cases q; exact ht⟩
  refine ⟨fun j => (hv' j).choose, ?_⟩
  apply Array.ext'
  apply List.ext_getElem?
  intro j
  rw [Array.getElem?_toList]
  cases e : vs[j]? with
  | none =>
    have : n ≤ j := by rw [← hz]; exact Array.getElem?_eq_none_iff.mp e
    simp [this]
  | some v =>
    have hj : j < n := by rw [← hz]; exact (Array.getElem?_eq_some_iff.mp e).1
    simp [hj, (hv' j).choose_spec v e]
section
variable {prog : Program} {w : World} {A : Around} {E : Value → Shared → Prop} {s : Shared} {R : Result → Shared → Prop} {h : Heap} {tk : Tok}
theorem ba_initTree {b l n : Nat} {f : Nat → Int} {bs : Array UInt8} {Q : Fin → Shared → Prop} (hb : BAt h b bs) (hbl : b ≠ l) (hl : IRow h l n f) (hf : ∀ j, 0 ≤ f j ∧ f j < 256) (hn : n ≤ 1000)
    (hq : ∀ h', BAt h' b (bytesOf n f) → Heap.SameBut b h h' → Q (.done (.ret .none)) (sh s h' tk)) :
    wpF (model prog w) A (Builtin.«bytearray.__init__» ⟨[.ref b, .ref l], []⟩) Q E (sh s h tk) := by
  obtain ⟨vs, hL, hz, hv⟩ := hl
  have hT : (sh s h tk).TypeIs (.ref b) "bytearray" := ba_type hb rfl
  unfold Builtin.«bytearray.__init__»
  -- ownRelease
  refine wpP_bind (wpP_of ?_)
  show wpAny _ _ (Builtin.Bytes.slotIsOwn (.ref b) "__release_buffer__" >>= fun x => pure !x) _ _ _
  refine wpAny_bind ?_
  unfold Builtin.Bytes.slotIsOwn
  refine wpAny_bind (wpAny_specialOf hT ba_release ?_)
  dsimp only
  refine bm_if_false (by rw [ba_ends]; rfl) ?_
  rw [ba_drop]
  refine wpAny_isInstance hT ba_sub (wpAny_pure ?_)
  refine if_f rfl ?_
  refine wpP_bind (wpP_eq (ba_bind _) ?_)
  dsimp only
  refine wpP_bind (wpP_eq (a := ()) rfl ?_)
  refine wpP_bind (wpP_eq (a := ()) rfl ?_)
  refine wpP_bind ?_
  show wpF _ _ (Builtin.Bytes.exported (.ref b) >>= _) _ _ _
  refine wpP_bind (wpF_exported ?_)
  show wpF _ _ (Builtin.Bytes.exportsOf (.ref b) >>= fun x => pure (decide (x > 0))) _ _ _
  refine wpP_bind (wpP_of (wpAny_bind (wpAny_load (s := sh s h tk) hb (wpAny_pure ?_))))
  refine wpP_pure (if_f rfl ?_)
  refine wpP_bind (wpP_of (ba_write hb (Nat.zero_le _) fun h1 b1 sb1 => ?_))
  obtain ⟨ol, hol, hoc, nl, hod⟩ := id hL
  have hol1 : h1.get? l = some ol := (sb1.2 l (Ne.symm hbl)).trans hol
  have hT1 : (sh s h1 tk).TypeIs (.ref l) "list" := ⟨ol, hol1, hoc⟩
  show wpF _ _ (asStr? (.ref l) >>= _) _ _ _
  refine wpP_bind (wpP_of ?_)
  show wpAny _ _ (load l >>= _) _ _ _
  refine wpAny_bind (wpAny_load (s := sh s h1 tk) hol1 ?_)
  rw [hod]
  refine wpAny_pure ?_
  refine if_f rfl ?_
  refine wpP_bind (wpP_eq (a := ()) rfl ?_)
  refine wpP_bind (wpP_of (wpAny_specialOf hT1 F.bm_no_index ?_))
  refine if_f rfl ?_
  refine wpP_bind (wpP_of ?_)
  unfold Builtin.Bytes.buffer?
  refine wpAny_bind (wpAny_specialOf hT1 F.bm_no_buffer ?_)
  refine wpAny_bind (wpAny_specialOf hT1 F.bm_no_buffer ?_)
  refine wpAny_pure ?_
  dsimp only
  refine wpP_bind (wpP_of (wpAny_typeOf hT1 ?_))
  refine if_t (by decide +kernel) ?_
  refine wpP_bind (wpP_of ?_)
  show wpAny _ _ (load l >>= _) _ _ _
  refine wpAny_bind (wpAny_load (s := sh s h1 tk) hol1 ?_)
  rw [hod]
  refine wpAny_pure ?_
  obtain ⟨tok, rfl⟩ := row_list hz hv
  dsimp only
  rw [take_all (by
    intro v hv
    obtain ⟨j, _, rfl⟩ : ∃ a, a < n ∧ Value.int (f a) (tok a) = v := by simpa using hv
    simp [hf j])]
  have hnone : (((List.range n).map fun j => Value.int (f j) (tok j)).toArray)[((List.range n).map fun j => Value.int (f j) (tok j)).toArray.toList.length]? = none := by simp
  rw [hnone]
  dsimp only
  refine wpP_bind (wpP_of (wpAny_rule ?_))
  have hbs : ∀ q : Value → Option UInt8, (∀ i t, q (.int i t) = some i.toNat.toUInt8) → (List.filterMap q ((List.range n).map fun j => Value.int (f j) (tok j))).toArray = bytesOf n f := fun q hq => by
    unfold bytesOf
    rw [List.filterMap_map, ← List.filterMap_eq_map]
    congr 2
    funext j
    exact hq _ _
  rw [hbs _ fun _ _ => rfl]
  refine wpP_bind (wpP_of (ba_write b1 (by unfold bytesOf; rw [List.size_toArray, List.length_map, List.length_range]; have : sizeLine = 2 ^ 24 := rfl; omega) fun h2 b2 sb2 => ?_))
  refine wpP_pure (hq h2 b2 (sb1.trans sb2))
theorem ba_make {l n : Nat} {f : Nat → Int} {Q : Value → Shared → Prop} (hl : IRow h l n f) (hf : ∀ j, 0 ≤ f j ∧ f j < 256) (hn : n ≤ 1000)
    (hq : ∀ h', BAt h' h.objs.size (bytesOf n f) → Sub h h' → Q (.ref h.objs.size) (sh s h' tk)) :
    wpF (model prog w) A (call (.type "bytearray") [.ref l]) Q E (sh s h tk) := by
  refine wpP_call along_free (codeP_of_tree along_free ?_)
  show wpP _ _ _ (callAny (.type "bytearray") _) _ _ _
  refine wpP_pure ⟨⟨Code.quiet_builtin _ (by decide +kernel), by show holdIds.contains "type.__call__" = false; decide +kernel⟩, codeP_builtin along_free F.entry_type_call ?_⟩
  rw [Around.under_plain (weight_type_call_type "bytearray" [.ref l] []) rfl]
  unfold Builtin.«type.__call__»
  dsimp only
  refine if_f ba_called.notType ?_
  refine if_f ba_called.canCreate ?_
  refine wpP_bind (wpP_eq (ba_typeCall _) ?_)
  refine wpP_bind (wpP_eq ba_mro ?_)
  refine if_f rfl ?_
  refine wpP_bind (wpP_eq ba_called.made ?_)
  dsimp only
  refine wpP_bind (wpP_pure ?_)
  have hlt : l < h.objs.size := by obtain ⟨vs, ⟨o, e, _⟩, _⟩ := hl; exact Heap.lt_size e
  refine wpP_bind (wpP_of (wpAny_holding (wpAny_call (code_ba_new (s := sh s h tk) _ ?_))))
  have b1 : BAt (h.push (baObj #[])) h.objs.size #[] := Heap.get?_push_size _ rfl
  have hl1 : IRow (h.push (baObj #[])) l n f := hl.mono fun o e => Heap.get?_push_of_some _ e
  have s1 : Sub h (h.push (baObj #[])) := Sub.push _ _
  have zb : h.get? h.objs.size = none := fresh_none h
  generalize h.objs.size = b at b1 hlt hq zb
  show wpP _ _ _ _ _ _ (sh s (h.push (baObj #[])) tk)
  generalize h.push (baObj #[]) = h1 at b1 hl1 s1
  have hT : (sh s h1 tk).TypeIs (.ref b) "bytearray" := ba_type b1 rfl
  refine wpP_bind (wpP_of (wpAny_isInstance hT ba_sub ?_))
  refine if_f rfl ?_
  refine wpP_bind (wpP_holding ?_)
  unfold callSpecial?
  refine wpP_bind (wpP_of (wpAny_specialOf hT ba_slot_init.lookup ?_))
  dsimp only
  refine wpP_holding (wpP_bind (wpP_eq (ba_slot_init.bind _) (wpP_bind ?_)))
  refine wpP_call along_free (codeP_of_tree along_free ?_)
  show wpP _ _ _ (checkBuiltinCall "bytearray.__init__" ⟨[.ref b, .ref l], []⟩ >>= fun _ => again (.builtin "bytearray.__init__" ⟨[.ref b, .ref l], []⟩)) _ _ _
  refine wpP_bind (wpP_of (ba_slot_init.check _ _ _ _ _ _ _ _ hT (ba_args_init _ _) ?_))
  refine wpP_pure ⟨⟨plainId_quiet ba_slot_init.plain _, by show holdIds.contains "bytearray.__init__" = false; decide +kernel⟩, codeP_builtin along_free ba_entry_init ?_⟩
  refine ba_initTree b1 (Nat.ne_of_gt hlt) hl1 hf hn fun h2 b2 sb2 => ?_
  show wpP _ _ _ _ _ _ (sh s h2 tk)
  refine wpP_pure (if_f (by decide) (wpP_pure (hq h2 b2 fun c o e => ?_)))
  exact (sb2.2 c (fun q => by rw [q, zb] at e; cases e)).trans (s1 c o e)
end
end Mine
end
section
namespace Mine
section
variable {P : Ctx → Prop} {prog : Program} {w : World} {A : Around} {E : Value → Shared → Prop} {s : Shared} {h : Heap} {tk : Tok} {env : Env} {Q : Value → Shared → Prop}
theorem r_callT1P {x : Str} {p pos : Pos} {e : Expr} {T : String} {s : Shared} (hf : ∀ Q' : Value → Shared → Prop, Q' (.type T) s → wpAny (model prog w) A (eval (.Name x p) env) Q' E s)
    (ha : wpAny (model prog w) A (eval e env) (fun v s' => wpP P (model prog w) A (call (.type T) [v]) Q E s') E s)
    (hs : starEach [e] env = [(false, eval e env)] := by rfl) : wpP P (model prog w) A (eval (.Call (.Name x p) [e] [] pos) env) Q E s := by
  show wpP P _ A (do callWith pos (← eval (.Name x p) env) [] (backTo pos (starEach [e] env)) (backToKw pos (keywordEach [] env))) Q E s
  refine wpP_bind (wpP_of (hf _ ?_))
  rw [hs]
  show wpP P _ A (callWith pos (.type T) [] [(false, _)] []) Q E s
  unfold callWith
  refine wpP_bind (wpP_holding (wpP_of (Calls.evalArgs_plain (Calls.spliced_cons (wpAny_mono ha (fun v s' h' => Calls.spliced_nil ?_) fun _ _ x => x)))))
  refine wpP_bind (wpP_of (wpAny_standAt ?_))
  refine wpP_bind (wpP_of (wpAny_pure ?_))
  exact wpP_bind (wpP_mono h' (fun r s₂ hr => wpP_of (wpAny_bind (wpAny_holding (wpAny_point (wpAny_pure hr))))) fun _ _ x => x)
end
theorem givB_range (nums : List Int) (i j : Nat) : 0 ≤ givB nums i j ∧ givB nums i j < 256 := by unfold givB; omega
theorem BAt.isBA {h h' : Heap} {b bs} (x : BAt h b bs) (k : BA h h') : BAt h' b bs := k b _ _ _ x rfl
/-- the picture's rows at ps -/
structure Pic (h0 h : Heap) (pA W H : Nat) (f : Nat → Nat → Int) (ps : List Nat) : Prop where
  pp : h.IsList pA (ps.map Value.ref).toArray
  lp : ps.length = H
  bp : ∀ k < H, BAt h (ps.getD k 0) (bytesOf W (f k))
  dp : ∀ i j, i < j → j < H → ps.getD i 0 ≠ ps.getD j 0
  np : ∀ k < H, h0.get? (ps.getD k 0) = none
theorem refs_of {ys : Array Value} {n : Nat} (hz : ys.size = n) (hv : ∀ (i : Nat) y, ys[i]? = some y → ∃ b : Nat, y = Value.ref b) : ∃ ps : List Nat, ps.length = n ∧ ys = (ps.map Value.ref).toArray := by
  have hv' : ∀ j : Nat, ∃ b : Nat, ∀ v, ys[j]? = some v → v = Value.ref b := fun j => by
    cases e : ys[j]? with
    | none => exact ⟨0, fun v q => nomatch q⟩
    | some v => obtain ⟨t, ht⟩ := hv j v e; exact ⟨t, fun v' q => by cases q; exact ht⟩
  refine ⟨(List.range n).map fun j => (hv' j).choose, by simp, ?_⟩
  apply Array.ext'
  apply List.ext_getElem?
  intro j
  rw [Array.getElem?_toList]
  cases e : ys[j]? with
  | none =>
    have : n ≤ j := by rw [← hz]; exact Array.getElem?_eq_none_iff.mp e
    simp [this]
  | some v =>
    have hj : j < n := by rw [← hz]; exact (Array.getElem?_eq_some_iff.mp e).1
    simp [hj, (hv' j).choose_spec v e]
theorem refs_at {ps : List Nat} {k : Nat} (h : k < ps.length) : ((ps.map Value.ref).toArray)[k]? = some (Value.ref (ps.getD k 0)) := by
  simp [List.getD_eq_getElem?_getD, h]
section
variable {w : World} {A : Around} {E : Value → Shared → Prop} {s : Shared} {h : Heap} {tk : Tok} {L fa : Nat} {g : Heap} {m mg mb : Str → Option Value} {vn vi vj vr : Option Value}
set_option maxHeartbeats 1000000 in
theorem p11 {Q : Flow → Shared → Prop} {gA W H : Nat} {nums : List Int} {gs : List Nat} (F : LF L h m vn vi vj vr) (G : Gnd g L mg mb) (hs : Sub g h) (hA : A.handled = none) (hg : m "given" = some (.ref gA)) (pg : h.IsList gA (gs.map Value.ref).toArray) (lg : gs.length = H) (ig : ∀ k < H, IRow h (gs.getD k 0) W (givB nums k))
    (hW : W ≤ 11) (hH : H ≤ 11)
    (hq : ∀ h' tk' (pA : Nat) ps, LF L h' (fun y => if y = "picture" then some (.ref pA) else m y) vn vi vj vr → Kp L [] h h' → Pic h h' pA W H (givB nums) ps → h.get? pA = none → Q .next (sh s h' tk')) :
    wpF (model pw w) A (exec (lawStmt 11) (lawEnv L fa)) Q E (sh s h tk) := by
  refine x_compList along_free (items := (gs.map Value.ref).toArray) rfl rfl rfl hA rfl (by decide) rfl (by decide) rfl ?sz (fun i y h' => ∃ b : Nat, y = .ref b ∧ BAt h' b (bytesOf W (givB nums i)) ∧ h.get? b = none) (fun i y h1 h2 ⟨b, e, x, z⟩ k => ⟨b, e, x.isBA k, z⟩) (fun a b => a ≠ b) F.ns ?iter (fun C i v h' m' tk' ys hi ns mx st hys => ?elt) ?fin
  case sz => rw [List.size_toArray, List.length_map, lg]; have : sizeLine = 2 ^ 24 := rfl; omega
  case iter => exact r_name F.ns hg ⟨_, h, tk, rfl, rfl, Sub.refl _, pg⟩
  case elt =>
    have hiH : i < H := by have := (Array.getElem?_eq_some_iff.mp hi).1; rw [List.size_toArray, List.length_map, lg] at this; exact this
    rw [refs_at (by omega)] at hi
    cases hi
    refine r_callT1P (T := "bytearray") (fun Q' hq => r_builtin ((hs.trans st).ns G.ng) G.nBytes ((hs.trans st).ns G.nb) G.bBytes hq) (r_name ns mx ?_)
    refine ba_make ((ig i hiH).mono fun o e => st _ _ e) (givB_range nums i) (by omega) fun h2 b2 s2 => ?_
    refine ⟨h2, _, rfl, s2, ⟨_, rfl, b2, fresh_sub st (fresh_none h')⟩, fun j z hz => ?_⟩
    obtain ⟨b, rfl, hb, _⟩ := hys j z hz
    intro q
    injection q with q
    rw [BAt, q, fresh_none h'] at hb
    cases hb
  case fin =>
    intro h' tk' D ys zD hD hsz hv hrel hk ns
    replace hsz : ys.size = H := by rw [hsz, List.size_toArray, List.length_map, lg]
    obtain ⟨ps, lp, rfl⟩ := refs_of hsz fun i y e => let ⟨b, q, _⟩ := hv i y e; ⟨b, q⟩
    refine hq h' tk' D ps (F.outer hk ns) (fun b o hb _ e => hk b o (show b ≠ L by omega) e) ⟨hD, lp, fun k hk => ?_, fun i j ij hj => ?_, fun k hk => ?_⟩ zD
    · obtain ⟨b, q, x, _⟩ := hv k _ (refs_at (by omega)); cases q; exact x
    · exact fun q => hrel i j _ _ ij (refs_at (by omega)) (refs_at (by omega)) (by rw [q])
    · obtain ⟨b, q, _, z⟩ := hv k _ (refs_at (by omega)); cases q; exact z
end
end Mine
end
section
namespace Mine
theorem int_index : typeLookup (.type "int") "__index__" = pure (some (.builtin "int.__index__")) := by rw [typeLookup_type, builtinLookup_eq_fast]; kernel_rfl
theorem xor_diff : reflectedDiffers (.type "int") (.type "bool") "xor" = pure true := by
  unfold reflectedDiffers
  show (typeLookup (.type "bool") (dunderR "xor") >>= fun rb => typeLookup (.type "int") (dunderR "xor") >>= fun ra => pure (rb.isSome && rb != ra)) = pure true
  rw [typeLookup_type, typeLookup_type, builtinLookup_eq_fast]; kernel_rfl
theorem xor_bits (a : Int) (b : Bool) (h0 : 0 ≤ a) (h1 : a < 2) : Builtin.bitXor a (if b = true then (1 : Int) else 0) = (a + if b = true then 1 else 0) % 2 := by
  rcases (by omega : a = 0 ∨ a = 1) with rfl | rfl <;> cases b <;> decide +kernel
section
variable {prog : Program} {w : World} {A : Around} {E : Value → Shared → Prop} {s : Shared} {h : Heap} {tk : Tok}
theorem ba_payload {M : Model} {b : Nat} {bs : Array UInt8} {Q : Array UInt8 → Shared → Prop} (e : BAt h b bs) (hq : Q bs (sh s h tk)) : wpAny M A (Builtin.Bytes.payload (.ref b)) Q E (sh s h tk) := by
  unfold Builtin.Bytes.payload Builtin.Bytes.payload?
  exact wpAny_bind (wpAny_bind (wpAny_load (s := sh s h tk) e (wpAny_pure (wpAny_pure hq))))
theorem ba_subscript {M : Model} {j : Nat} {t : Tok} {Q : Option Int → Shared → Prop} {s : Shared} (hj : (j : Int) < 2 ^ 63) (hq : Q (some (j : Int)) s) : wpAny M A (Builtin.Bytes.subscript? (.int j t)) Q E s := by
  have hT : s.TypeIs (.int (j : Int) t) "int" := typeIs_int s _ _
  have hn : (some (Value.builtin "int.__index__")).isNone = false := rfl
  have hk : asIndex (.int (j : Int) t) = pure (j : Int) := rfl
  have hf : (!Builtin.Bytes.fitsIndex (j : Int)) = false := by
    have := fitsIndex_of (k := (j : Int)) (by omega) hj
    simp only [Bool.not_eq_false']
    exact this
  unfold Builtin.Bytes.subscript?
  with_reducible refine wpAny_bind ?_
  with_reducible refine wpAny_specialOf hT int_index ?_
  with_reducible refine bm_if_false hn ?_
  with_reducible refine wpAny_bind ?_
  with_reducible refine wpAny_of_eq hk ?_
  with_reducible refine bm_if_false hf ?_
  with_reducible exact wpAny_pure hq
theorem seqIndex_nat {j n : Nat} (h : j < n) : seqIndex? (j : Int) n = some j := by
  unfold seqIndex?
  have h1 : ¬ ((j : Int) < 0) := by omega
  simp [h1, h]
theorem ba_getItem {b j : Nat} {t : Tok} {bs : Array UInt8} {x : UInt8} {Q : Value → Shared → Prop} (e : BAt h b bs) (hx : bs[j]? = some x) (hz : bs.size ≤ 1000) (hq : ∀ t tk, Q (.int x.toNat t) (sh s h tk)) :
    wpAny (model prog w) A (getItem (.ref b) (.int j t)) Q E (sh s h tk) := by
  have hT : (sh s h tk).TypeIs (.ref b) "bytearray" := ba_type e rfl
  have hj : j < bs.size := (Array.getElem?_eq_some_iff.mp hx).1
  have hj2 : (j : Int) < 2 ^ 63 := by omega
  refine wpAny_getItem_slot hT (by decide) ba_slot_getitem (wpAny_call_entry ba_slot_getitem hT ba_entry_getitem ?_ (ba_args_getitem _ _))
  unfold Builtin.«bytearray.__getitem__»
  have hsl : slotArgs "__getitem__" 1 ⟨[.ref b, .int j t], []⟩ = pure (.ref b, [.int j t]) := rfl
  with_reducible refine wpAny_bind ?_
  with_reducible refine wpAny_of_eq hsl ?_
  dsimp only
  with_reducible refine wpAny_bind ?_
  with_reducible refine ba_subscript hj2 ?_
  dsimp only
  with_reducible refine wpAny_bind ?_
  with_reducible refine ba_payload e ?_
  rw [seqIndex_nat hj]
  show wpAny _ _ (match bs[j]? with | some x => _ | none => _) _ _ _
  rw [hx]
  first
    | exact wpAny_bind (wpAny_bind (wpAny_mkInt (wpAny_pure (wpAny_pure ⟨_, rfl, hq _ _⟩))))
    | exact wpAny_bind (wpAny_mkInt (wpAny_pure ⟨_, rfl, hq _ _⟩))
theorem ba_setItem {b j : Nat} {t u : Tok} {x : Int} {bs : Array UInt8} {Q : Unit → Shared → Prop} (e : BAt h b bs) (hj : j < bs.size) (hz : bs.size ≤ 1000) (hx : 0 ≤ x ∧ x < 256) (hq : ∀ h', BAt h' b (bs.setIfInBounds j x.toNat.toUInt8) → Heap.SameBut b h h' → Q () (sh s h' tk)) :
    wpAny (model prog w) A (setItem (.ref b) (.int j t) (.int x u)) Q E (sh s h tk) := by
  have hT : (sh s h tk).TypeIs (.ref b) "bytearray" := ba_type e rfl
  have hj2 : (j : Int) < 2 ^ 63 := by omega
  unfold setItem
  try with_reducible refine wpAny_holding ?_
  refine wpAny_bind (wpAny_sequenceKey hT (by decide) ?_)
  refine wpAny_bind (wpAny_callSpecial?_slot (name := Str.ofString "__setitem__") hT ba_slot_setitem (wpAny_call_entry ba_slot_setitem hT ba_entry_setitem ?_ (ba_args_setitem _ _ _)))
  unfold Builtin.«bytearray.__setitem__»
  have hkw : (!([] : List (Str × Value)).isEmpty) = false := rfl
  with_reducible refine bm_if_false hkw ?_
  dsimp only
  with_reducible refine wpAny_bind ?_
  with_reducible refine ba_subscript hj2 ?_
  dsimp only
  have hk : asIndex (.int x u) = pure x := rfl
  have hr : (decide (x < 0) || decide (x ≥ 256)) = false := by simp only [Bool.or_eq_false_iff, decide_eq_false_iff_not]; omega
  have hw : (bs.setIfInBounds j x.toNat.toUInt8).size ≤ sizeLine := by rw [Array.size_setIfInBounds]; have : sizeLine = 2 ^ 24 := rfl; omega
  with_reducible refine wpAny_bind ?_
  unfold Builtin.Bytes.byteValue
  with_reducible refine wpAny_bind ?_
  with_reducible refine wpAny_of_eq hk ?_
  with_reducible refine bm_if_false hr ?_
  with_reducible refine wpAny_pure ?_
  with_reducible refine wpAny_bind ?_
  with_reducible refine ba_payload e ?_
  rw [seqIndex_nat hj]
  dsimp only
  with_reducible refine wpAny_bind ?_
  with_reducible refine ba_write e hw ?_
  intro h' b' sb
  first
    | exact wpAny_bind (wpAny_pure (wpAny_pure ⟨_, rfl, wpAny_pure (hq h' b' sb)⟩))
    | exact wpAny_pure ⟨_, rfl, wpAny_pure (hq h' b' sb)⟩
theorem xor_op1 {a : Int} {t : Tok} {b : Bool} {Q : Option Value → Shared → Prop} (h0 : 0 ≤ a) (h1 : a < 2) (hq : ∀ t tk, Q (some (.int ((a + if b = true then 1 else 0) % 2) t)) (sh s h tk)) :
    wpAny (model prog w) A (binaryOp1 "xor" (.int a t) (.bool b)) Q E (sh s h tk) := by
  have ha : (sh s h tk).TypeIs (.int a t) "int" := typeIs_int _ _ _
  have hb : (sh s h tk).TypeIs (.bool b) "bool" := rfl
  have hne : (Value.type "int" == Value.type "bool") = false := by decide
  simp only [binaryOp1]
  with_reducible refine wpAny_bind ?_
  with_reducible refine wpAny_typeOf ha ?_
  with_reducible refine wpAny_bind ?_
  with_reducible refine wpAny_typeOf hb ?_
  with_reducible refine wpAny_bind ?_
  with_reducible refine wpAny_of_eq F.fills_int_xor ?_
  simp only [hne, Bool.false_eq_true, if_false]
  with_reducible refine wpAny_bind ?_
  with_reducible refine wpAny_of_eq F.fills_bool_xor ?_
  simp only [Bool.and_self, if_true]
  with_reducible refine wpAny_bind ?_
  with_reducible refine wpAny_of_eq isSubtype_bool_int ?_
  simp only [if_true]
  with_reducible refine wpAny_bind ?_
  with_reducible refine wpAny_of_eq xor_diff ?_
  simp only [if_true]
  with_reducible refine wpAny_bind ?_
  with_reducible refine wpAny_rule ?_
  simp only [tryMethod]
  with_reducible refine wpAny_bind ?_
  with_reducible refine wpAny_bind ?_
  with_reducible refine wpAny_callSpecial?_slot hb F.slot_bool_rxor ?_
  with_reducible refine wpAny_call ?_
  with_reducible refine codeAny_call_builtin F.slot_bool_rxor.plain F.entry_bool_rxor ?_
  with_reducible refine F.slot_bool_rxor.check _ _ _ _ _ _ _ _ hb (F.args_bool_rxor_2 _ _) ?_
  have e : Builtin.«bool.__rxor__» ⟨[.bool b, .int a t], []⟩ = (do rule "bool.bitwise.as-ints"; again (.builtin "int.__xor__" ⟨[.int a t, .bool b], []⟩)) := rfl
  rw [e]
  with_reducible refine wpAny_bind ?_
  with_reducible refine wpAny_rule ?_
  refine wpAny_pure ⟨plainId_quiet F.slot_int_xor.plain _, codeAny_builtin F.entry_int_xor ?_⟩
  have e2 : Builtin.«int.__xor__» ⟨[.int a t, .bool b], []⟩ = (do ret (← mkInt (Builtin.bitXor a (if b = true then (1 : Int) else 0)))) := by cases b <;> rfl
  rw [e2, xor_bits a b h0 h1]
  with_reducible refine wpAny_bind ?_
  with_reducible refine wpAny_mkInt ?_
  exact wpAny_pure (wpAny_pure (wpAny_pure (hq _ _)))
theorem r_ixor {a : Int} {t : Tok} {b : Bool} {Q : Value → Shared → Prop} (h0 : 0 ≤ a) (h1 : a < 2) (hq : ∀ t tk, Q (.int ((a + if b = true then 1 else 0) % 2) t) (sh s h tk)) :
    wpAny (model prog w) A (inplaceOp .BitXor (.int a t) (.bool b)) Q E (sh s h tk) := by
  have ha : (sh s h tk).TypeIs (.int a t) "int" := typeIs_int _ _ _
  have hb : (sh s h tk).TypeIs (.bool b) "bool" := rfl
  unfold inplaceOp
  try with_reducible refine wpAny_holding ?_
  have hfi : fillsInplaceSlot (.type "int") "xor" false = pure false := by
    unfold fillsInplaceSlot
    show (typeLookup (.type "int") (dunderI "xor") >>= fun fi => pure (fi.isSome && !isSeqSlot fi)) = pure false
    rw [no_int_ixor]; rfl
  with_reducible refine wpAny_bind ?_
  with_reducible refine wpAny_typeOf ha ?_
  with_reducible refine wpAny_bind ?_
  have hfi' : fillsInplaceSlot (.type "int") (Operator.info .BitXor).2 (Operator.BitXor == Operator.Add) = pure false := hfi
  with_reducible refine wpAny_of_eq hfi' ?_
  have hff : false = false := rfl
  with_reducible refine bm_if_false hff ?_
  with_reducible refine wpAny_bind ?_
  show wpAny _ _ (binaryOp1 "xor" (.int a t) (.bool b)) _ _ _
  with_reducible refine xor_op1 h0 h1 ?_
  intro t tk
  exact wpAny_pure (hq t tk)
end
end Mine
end
section
namespace Mine
theorem bytes_size {n f} : (bytesOf n f).size = n := by unfold bytesOf; rw [List.size_toArray, List.length_map, List.length_range]
theorem bytes_at {n j : Nat} {f : Nat → Int} (h : j < n) : (bytesOf n f)[j]? = some (f j).toNat.toUInt8 := by unfold bytesOf; simp [h]
theorem byte_nat {x : Int} (h0 : 0 ≤ x) (h1 : x < 256) : ((x.toNat.toUInt8).toNat : Int) = x := by
  rw [UInt8.toNat_ofNat', Nat.mod_eq_of_lt (by omega)]; omega
theorem bytes_congr {n : Nat} {f f' : Nat → Int} (h : ∀ j < n, f j = f' j) : bytesOf n f = bytesOf n f' := by
  unfold bytesOf
  congr 1
  exact List.map_congr_left fun j hj => by rw [h j (List.mem_range.mp hj)]
theorem bytes_set {n j : Nat} {f : Nat → Int} {x : Int} (h : j < n) : (bytesOf n f).setIfInBounds j x.toNat.toUInt8 = bytesOf n (fun k => if k = j then x else f k) := by
  apply Array.ext'
  apply List.ext_getElem?
  intro k
  simp only [Array.getElem?_toList, Array.getElem?_setIfInBounds]
  by_cases hk : j = k
  · subst hk
    rw [if_pos rfl, if_pos (by rw [bytes_size]; exact h), bytes_at h, if_pos rfl]
  · rw [if_neg hk]
    by_cases hkn : k < n
    · rw [bytes_at hkn, bytes_at hkn, if_neg (Ne.symm hk)]
    · have e : ∀ f : Nat → Int, (bytesOf n f)[k]? = none := fun f => Array.getElem?_eq_none_iff.mpr (by rw [bytes_size]; omega)
      rw [e, e]
section
variable {prog : Program} {w : World} {A : Around} {E : Value → Shared → Prop} {s : Shared} {h : Heap} {tk : Tok}
theorem ba_len {b : Nat} {bs : Array UInt8} {Q : Value → Shared → Prop} (e : BAt h b bs) (hz : bs.size ≤ 1000) (hq : ∀ t tk, Q (.int bs.size t) (sh s h tk)) :
    wpAny (model prog w) A (call (.builtin "len") [.ref b]) Q E (sh s h tk) := by
  have hT : (sh s h tk).TypeIs (.ref b) "bytearray" := ba_type e rfl
  refine call_len_slot (n := (bs.size : Int)) hT ba_slot_len (fun Q' hq' => wpAny_call_entry ba_slot_len hT ba_entry_len ?_ (ba_args_len _)) (by omega) (by omega) (hq _ _)
  unfold Builtin.«bytearray.__len__»
  have hsl : slotArgs "__len__" 0 ⟨[.ref b], []⟩ = pure (.ref b, []) := rfl
  with_reducible refine wpAny_bind ?_
  with_reducible refine wpAny_of_eq hsl ?_
  dsimp only
  with_reducible refine wpAny_bind ?_
  with_reducible refine ba_payload e ?_
  exact wpAny_bind (wpAny_mkInt (wpAny_pure ⟨_, rfl, hq'⟩))
theorem ba_item {value slice : Expr} {b j : Nat} {u : Tok} {bs : Array UInt8} {x : UInt8} {Q : Value → Shared → Prop} (e : BAt h b bs) (hx : bs[j]? = some x) (hz : bs.size ≤ 1000) (hq : ∀ t tk, Q (.int x.toNat t) (sh s h tk))
    (hs : subscripted slice false (.ref b) (.int (j : Int) u) = operate [.ref b, .int (j : Int) u] (getItem (.ref b) (.int (j : Int) u)) := by with_unfolding_all rfl) :
    wpAny (model prog w) A (subscriptTail value slice (.ref b) (.int (j : Int) u)) Q E (sh s h tk) :=
  tail_any (s := sh s h tk) (T := "bytearray") (by exact ba_type e rfl) ba_slot_getitem.lookup (ba_getItem e hx hz hq) hs
end
/-- the names of apply_mask's frame that stay -/
structure AM (m : Str → Option Value) (pA mk lam rg W H : Nat) : Prop where
  mat : m "matrix" = some (.ref pA)
  msk : m "mask_pattern" = some (.ref mk)
  wid : ∃ t, m "width" = some (.int W t)
  hei : ∃ t, m "height" = some (.int H t)
  reg : m "is_encoding_region" = some (.ref lam)
  rng : m "width_range" = some (.ref rg)
theorem AM.set {m pA mk lam rg W H} (a : AM m pA mk lam rg W H) {x : Str} {v : Value} (h : x = "i" ∨ x = "row" ∨ x = "j") : AM (fun y => if y = x then some v else m y) pA mk lam rg W H := by
  have n : ∀ y : Str, y ≠ x → (fun y => if y = x then some v else m y) y = m y := fun y hy => if_neg hy
  rcases h with rfl | rfl | rfl <;>
  exact ⟨(n _ (by decide)).trans a.mat, (n _ (by decide)).trans a.msk, let ⟨t, e⟩ := a.wid; ⟨t, (n _ (by decide)).trans e⟩, let ⟨t, e⟩ := a.hei; ⟨t, (n _ (by decide)).trans e⟩, (n _ (by decide)).trans a.reg, (n _ (by decide)).trans a.rng⟩
/-- kept off C and the picture's rows -/
def KA (C : Nat) (ps : List Nat) (h h' : Heap) : Prop := ∀ b o, b ≠ C → b ∉ ps → h.get? b = some o → h'.get? b = some o
theorem KA.refl {C ps h} : KA C ps h h := fun _ _ _ _ e => e
theorem KA.trans {C ps h h' h''} (a : KA C ps h h') (b : KA C ps h' h'') : KA C ps h h'' := fun x o hx hp e => b x o hx hp (a x o hx hp e)
theorem Sub.ka {C ps h h'} (a : Sub h h') : KA C ps h h' := fun x o _ _ e => a x o e
theorem KA.sb {C ps h h'} (a : Heap.SameBut C h h') : KA C ps h h' := fun x o hx _ e => (a.2 x hx).trans e
def Bits (h : Heap) (ps : List Nat) (W H : Nat) (F : Nat → Nat → Int) : Prop := ∀ k < H, BAt h (ps.getD k 0) (bytesOf W (F k))
theorem Bits.keep {h h' ps W H F} (b : Bits h ps W H F) (k : BA h h') : Bits h' ps W H F := fun i hi => (b i hi).isBA k
theorem Bits.congr {h ps W H F F'} (b : Bits h ps W H F) (e : ∀ k < H, ∀ j < W, F k j = F' k j) : Bits h ps W H F' := fun i hi => by rw [← bytes_congr (e i hi)]; exact b i hi
theorem ba_ns {h h' : Heap} {C : Nat} {m} (sb : Heap.SameBut C h h') (ns : h.Ns C m) : BA h h' := fun b o bs e a d => (sb.2 b (fun q => by
  subst q
  obtain ⟨o', es, ep, a', d', _⟩ := ns
  rw [a] at a'; cases a'; rw [d] at d'; cases d')).trans a
theorem mem_getD {ps : List Nat} {k H : Nat} (l : ps.length = H) (h : k < H) : ps.getD k 0 ∈ ps := by
  rw [List.getD_eq_getElem?_getD, List.getElem?_eq_getElem (by omega)]
  exact List.getElem_mem _
theorem getD_of_mem {ps : List Nat} {b H : Nat} (l : ps.length = H) (h : b ∈ ps) : ∃ k < H, ps.getD k 0 = b := by
  obtain ⟨k, hk, rfl⟩ := List.getElem_of_mem h
  exact ⟨k, by omega, by rw [List.getD_eq_getElem?_getD, List.getElem?_eq_getElem hk]; rfl⟩
theorem Bits.notMem {h ps W H F} {b : Nat} {o : Obj} (x : Bits h ps W H F) (l : ps.length = H) (e : h.get? b = some o) (d : ∀ bs n, o.data ≠ .bytearray bs n) : b ∉ ps := fun q => by
  obtain ⟨k, hk, rfl⟩ := getD_of_mem l q
  have := x k hk
  rw [BAt, e] at this
  cases this
  exact d _ _ rfl
end Mine
end
section
namespace Mine
def applyStmt (k : Nat) : Stmt := (bodyOf applyDef).getD k default
def innerFor : Stmt := (forBody (applyStmt 1)).getD 1 default
abbrev apEnv (C : Nat) (c : Nat) : Env := newEnv (scopeOf applyDef) C mainGlobals [] (Str.ofString "apply_mask" ++ ".<locals>.") (some 21) (.ref c) none builtinsNs
/-- what lam(i, j) answers, from every heap that keeps h off X -/
def RegFn (w : World) (s : Shared) (A : Around) (C : Nat) (ps : List Nat) (h : Heap) (lam W H : Nat) (reg : Nat → Nat → Bool) : Prop :=
  ∀ h1, KA C ps h h1 → FnAt lam h1 ∧ ∀ tk1 i j ti tj (R : Result → Shared → Prop), i < H → j < W → (∀ h' tk', Sub h1 h' → R (.ok (.ret (.bool (reg i j)))) (sh s h' tk')) →
    codeAny (model pw w) A (.call (.ref lam) ⟨[.int i ti, .int j tj], []⟩) R (sh s h1 tk1)
theorem RegFn.ka {w s A C ps h h' lam W H reg} (r : RegFn w s A C ps h lam W H reg) (k : KA C ps h h') : RegFn w s A C ps h' lam W H reg := fun h1 k1 => r h1 (k.trans k1)
def mixF (f f' : Nat → Nat → Int) (i j : Nat) : Nat → Nat → Int := fun k l => if k < i ∨ (k = i ∧ l < j) then f' k l else f k l
def turnB (f : Nat → Nat → Int) (reg : Nat → Nat → Bool) (kd : Nat) : Nat → Nat → Int := fun k l => if reg k l then (f k l + if maskB kd k l = true then 1 else 0) % 2 else f k l
theorem bits_small {n : Nat} (h : n ≤ 1000) : Builtin.Int.intBits (n : Int) ≤ 2 ^ 20 := by
  unfold Builtin.Int.intBits
  split
  · omega
  · have : ((n : Int).natAbs).log2 ≤ n := by rw [Int.natAbs_natCast]; exact Nat.log2_le_self n
    omega
section
variable {w : World} {A : Around} {E : Value → Shared → Prop} {s : Shared} {h : Heap} {tk : Tok} {C c : Nat} {m : Str → Option Value}
set_option maxHeartbeats 2000000 in
theorem inner_body {Q : Flow → Shared → Prop} {pA mk lam rg W H kd i j : Nat} {ti tj : Tok} {ps : List Nat} {reg : Nat → Nat → Bool} {F : Nat → Nat → Int}
    (ns : h.Ns C m) (am : AM m pA mk lam rg W H) (hi : m "i" = some (.int i ti)) (hj : m "j" = some (.int j tj)) (hr : m "row" = some (.ref (ps.getD i 0))) (iH : i < H) (jW : j < W) (hW : W ≤ 11) (hH : H ≤ 11)
    (B : Bits h ps W H F) (hF : 0 ≤ F i j ∧ F i j < 2) (lp : ps.length = H) (dp : ∀ a b, a < H → b < H → ps.getD a 0 = ps.getD b 0 → a = b) (hroom : A.depth < recursionLimit) (hlim : h.NoLimit)
    (rf : RegFn w s A C ps h lam W H reg) (mf : MaskFn h mk kd) (hkd : kd < 8)
    (hq : ∀ h' tk', h'.Ns C m → KA C ps h h' → Bits h' ps W H (fun k l => if k = i ∧ l = j then turnB F reg kd k l else F k l) → (∀ b o, b ∉ ps → h.get? b = some o → h'.get? b = some o) → Q .next (sh s h' tk')) :
    wpAny (model pw w) A (execs (forBody innerFor) (apEnv C c)) Q E (sh s h tk) := by
  refine wpAny_execs_cons (wpAny_If (wpAny_isTrue_value ?_ rfl))
  obtain ⟨fl, rc⟩ := rf h KA.refl
  refine r_callF (f := lam) (fun Q' hq => r_name ns am.reg hq) fl ?_
  refine r_argN (r_name ns hi (r_argN (r_name ns hj (r_args ⟨fl, ?_⟩))))
  refine rc _ i j _ _ _ iH jW fun h1 tk1 s1 => ?_
  refine r_truthy ?_
  have B1 := B.keep s1.ba
  cases hreg : reg i j with
  | false =>
    rw [if_neg (by decide)]
    refine wpAny_execs_nil (wpAny_execs_nil (hq h1 tk1 (s1.ns ns) s1.ka (B1.congr fun k hk l hl => ?_) fun b o _ e => s1 b o e))
    split
    · rename_i q; obtain ⟨rfl, rfl⟩ := q; unfold turnB; rw [hreg]; rfl
    · rfl
  | true =>
    rw [if_pos rfl]
    have hrow : BAt h1 (ps.getD i 0) (bytesOf W (F i)) := B1 i iH
    refine wpAny_execs_cons (wpAny_AugAssign_SubscriptAny ?_)
    refine r_name (s1.ns ns) hr (r_name (s1.ns ns) hj ?_)
    refine ba_getItem hrow (bytes_at jW) (by rw [bytes_size]; omega) fun _ _ => ?_
    rw [byte_nat hF.1 (by omega)]
    have mf1 := mf.sub s1
    refine r_callF (f := mk) (fun Q' hq => r_name (s1.ns ns) am.msk hq) mf1.fnAt ?_
    refine r_argN (r_name (s1.ns ns) hi (r_argN (r_name (s1.ns ns) hj (r_args ⟨mf1.fnAt, ?_⟩))))
    refine mask_code mf1 hkd hroom (s1.nolimit hlim) (bits_small (by omega)) (bits_small (by omega)) fun h2 tk2 s2 => ?_
    refine r_ixor hF.1 hF.2 fun _ _ => ?_
    have B2 := B1.keep s2.ba
    refine ba_setItem (B2 i iH) (by rw [bytes_size]; exact jW) (by rw [bytes_size]; omega) (by omega) fun h3 b3 sb3 => ?_
    rw [bytes_set jW] at b3
    have s12 := s1.trans s2
    have nC : C ≠ ps.getD i 0 := fun q => by
      obtain ⟨o, es, n, e, d, _⟩ := s12.ns ns
      have := B2 i iH
      rw [BAt, ← q, e] at this
      cases this
      cases d
    have kk : ∀ b o, b ∉ ps → h.get? b = some o → h3.get? b = some o := fun b o hb e => (sb3.2 b (fun q => hb (q ▸ mem_getD lp iH))).trans (s12 b o e)
    refine wpAny_execs_nil (wpAny_execs_nil (hq h3 _ (ns_sb sb3 nC (s12.ns ns)) (fun b o _ hb e => kk b o hb e) (fun k hk => ?_) kk))
    by_cases q : k = i
    · subst q
      rw [bytes_congr (f' := fun l => if l = j then (F k j + if maskB kd (k : Int) (j : Int) = true then 1 else 0) % 2 else F k l)]
      · exact b3
      · intro l hl
        by_cases ql : l = j
        · subst ql; simp [turnB, hreg]
        · simp [ql]
    · rw [bytes_congr (f' := F k) fun l hl => if_neg (fun x => q x.1)]
      have := B2 k hk
      exact (sb3.2 _ (fun x => q (dp _ _ hk iH x))).trans this
end
end Mine
end
section
namespace Mine
theorem KA.obj {C : Nat} {ps : List Nat} {h h' : Heap} {m W H F} {b : Nat} {o : Obj} (k : KA C ps h h') (ns : h.Ns C m) (B : Bits h ps W H F) (lp : ps.length = H) (e : h.get? b = some o) (d1 : ∀ es n, o.data ≠ .dict es n) (d2 : ∀ bs n, o.data ≠ .bytearray bs n) : h'.get? b = some o :=
  k b o (fun q => by
    subst q
    obtain ⟨o', es, n, e', d', _⟩ := ns
    rw [e] at e'; cases e'
    exact d1 _ _ d') (B.notMem lp e d2) e
theorem KA.list {C : Nat} {ps : List Nat} {h h' : Heap} {m W H F} {b : Nat} {xs} (k : KA C ps h h') (ns : h.Ns C m) (B : Bits h ps W H F) (lp : ps.length = H) (x : h.IsList b xs) : h'.IsList b xs := by
  obtain ⟨o, e, c, n, d⟩ := x
  exact ⟨o, k.obj ns B lp e (by rw [d]; nofun) (by rw [d]; nofun), c, n, d⟩
theorem KA.mask {C : Nat} {ps : List Nat} {h h' : Heap} {m W H F} {f kd : Nat} (k : KA C ps h h') (ns : h.Ns C m) (B : Bits h ps W H F) (lp : ps.length = H) (x : MaskFn h f kd) : MaskFn h' f kd := by
  obtain ⟨n, q, d, p, ct, c, o, e, r, c', o', vs, t, rc, ec, dc, v1⟩ := x
  exact ⟨n, q, d, p, ct, c, o, k.obj ns B lp e (by rw [r]; nofun) (by rw [r]; nofun), r, c', o', vs, t, rc, k.obj ns B lp ec (by rw [dc]; nofun) (by rw [dc]; nofun), dc, v1⟩
theorem mix_at {f f' : Nat → Nat → Int} {i j : Nat} : mixF f f' i j i j = f i j := by unfold mixF; rw [if_neg (by omega)]
section
variable {w : World} {A : Around} {E : Value → Shared → Prop} {s : Shared} {h : Heap} {tk : Tok} {C c : Nat} {m mg mb : Str → Option Value} {g : Heap} {L : Nat}
set_option maxHeartbeats 2000000 in
theorem inner_for {Q : Flow → Shared → Prop} {pA mk lam rg W H kd i : Nat} {ti : Tok} {ps : List Nat} {reg : Nat → Nat → Bool} {F : Nat → Nat → Int} {rt ru rv : Tok}
    (ns : h.Ns C m) (am : AM m pA mk lam rg W H) (hi : m "i" = some (.int i ti)) (hr : m "row" = some (.ref (ps.getD i 0))) (iH : i < H) (hW : W ≤ 11) (hH : H ≤ 11) (hA : A.handled = none)
    (B : Bits h ps W H (mixF F (turnB F reg kd) i 0)) (hF : ∀ i < H, ∀ j < W, 0 ≤ F i j ∧ F i j < 2) (lp : ps.length = H) (dp : ∀ a b, a < H → b < H → ps.getD a 0 = ps.getD b 0 → a = b) (hroom : A.depth < recursionLimit) (G : Gnd g L mg mb) (hs : Sub g h) (gC : g.get? C = none) (gP : ∀ p ∈ ps, g.get? p = none)
    (rf : RegFn w s A C ps h lam W H reg) (mf : MaskFn h mk kd) (hkd : kd < 8) (hrg : IsRange h rg 0 W 1 rt ru rv)
    (hq : ∀ h' tk' m', h'.Ns C m' → AM m' pA mk lam rg W H → KA C ps h h' → Bits h' ps W H (mixF F (turnB F reg kd) (i + 1) 0) → Q .next (sh s h' tk')) :
    wpAny (model pw w) A (exec innerFor (apEnv C c)) Q E (sh s h tk) := by
  have offI : ∀ I, h.get? I = none → C ≠ I ∧ I ∉ ps := fun I zI => ⟨by obtain ⟨o, es, n, e, _⟩ := ns; exact Ne.symm (ne_fresh zI e), fun q => by
    obtain ⟨k, hk, rfl⟩ := getD_of_mem lp q
    have := B k hk
    rw [BAt, zI] at this; cases this⟩
  have subG : ∀ h', KA C ps h h' → Sub g h' := fun h' k b o e => k b o (fun q => by rw [q, gC] at e; cases e) (fun q => by rw [gP b q] at e; cases e) (hs b o e)
  refine for_range (n := W) (by omega) hA (fun j h' => ∃ m', h'.Ns C m' ∧ AM m' pA mk lam rg W H ∧ m' "i" = some (.int i ti) ∧ m' "row" = some (.ref (ps.getD i 0)) ∧ KA C ps h h' ∧ Bits h' ps W H (mixF F (turnB F reg kd) i j))
    (r_name ns am.rng ⟨_, h, tk, _, _, _, rfl, rfl, Sub.refl _, hrg⟩)
    ⟨m, ns, am, hi, hr, KA.refl, B⟩
    (fun j h1 h2 ⟨m', a, b, c, d, e, f⟩ st => ⟨m', st.ns a, b, c, d, e.trans st.ka, f.keep st.ba⟩)
    (fun j h1 h2 I x l st zI ⟨m', a, b, c, d, e, f⟩ it k2 => ⟨m', let ⟨o, es, n, e', r⟩ := a; ⟨o, es, n, k2 _ _ (offI I zI).1 e', r⟩, b, c, d, fun y o h1 h2 h3 => k2 _ _ (fun q => by rw [q, zI] at h3; cases h3) (e y o h1 h2 h3), fun k hk => k2 _ _ (fun q => (offI I zI).2 (q ▸ mem_getD lp hk)) (f k hk)⟩)
    ?_ (fun h' tk' ⟨m', a, b, c, d, e, f⟩ => hq h' tk' m' a b e (f.congr fun k hk l hl => by unfold mixF; by_cases q : k < i ∨ (k = i ∧ l < W); rw [if_pos q, if_pos (by omega)]; rw [if_neg q, if_neg (by omega)]))
  rintro j h1 tk1 tj I hj ⟨m', a, b, c, d, e, f⟩ zI
  refine wpAny_assign_Name (r_store (s := s) (h := h1) a (fun h2 tk2 ns2 sb2 => ?_))
  have k2 : KA C ps h h2 := e.trans (KA.sb sb2)
  have n1 : ∀ y : Str, y ≠ "j" → ∀ {v}, m' y = some v → (fun y : Str => if y = "j" then some (Value.int (j : Int) tj) else m' y) y = some v := fun y hy v hv => (if_neg hy).trans hv
  refine inner_body (F := mixF F (turnB F reg kd) i j) (i := i) (j := j) (tj := tj) ns2 (b.set (.inr (.inr rfl))) (n1 _ (by decide) c) (if_pos rfl) (n1 _ (by decide) d) iH hj hW hH (f.keep (ba_ns sb2 a)) (by rw [mix_at]; exact hF i iH j hj) lp dp hroom ((subG h2 k2).nolimit G.lim) (rf.ka k2) (k2.mask ns B lp mf) hkd ?_
  intro h3 tk3 ns3 k3 B3 kk
  refine ⟨h3, tk3, rfl, ⟨_, ns3, b.set (.inr (.inr rfl)), n1 _ (by decide) c, n1 _ (by decide) d, k2.trans k3, B3.congr fun k hk l hl => ?_⟩, fun o ho => kk _ _ (offI I zI).2 ((sb2.2 I (Ne.symm (offI I zI).1)).trans ho)⟩
  by_cases q : k = i ∧ l = j
  · obtain ⟨rfl, rfl⟩ := q
    rw [if_pos ⟨rfl, rfl⟩]
    have e1 : turnB (mixF F (turnB F reg kd) k l) reg kd k l = turnB F reg kd k l := by unfold turnB; rw [mix_at]
    rw [e1]; unfold mixF; rw [if_pos (by omega)]
  · rw [if_neg q]; unfold mixF
    by_cases q2 : k < i ∨ (k = i ∧ l < j)
    · rw [if_pos q2, if_pos (by omega)]
    · rw [if_neg q2, if_neg (by omega)]
end
end Mine
end
section
namespace Mine
theorem KA.range {C : Nat} {ps : List Nat} {h h' : Heap} {m W H F} {b : Nat} {x l st : Int} {t u v : Tok} (k : KA C ps h h') (ns : h.Ns C m) (B : Bits h ps W H F) (lp : ps.length = H) (r : IsRange h b x l st t u v) : IsRange h' b x l st t u v := by
  unfold IsRange at *
  exact k.obj ns B lp r (by nofun) (by nofun)
section
variable {w : World} {A : Around} {E : Value → Shared → Prop} {s : Shared} {h : Heap} {tk : Tok} {C c : Nat} {m mg mb : Str → Option Value} {g : Heap} {L : Nat}
set_option maxHeartbeats 2000000 in
theorem outer_for {Q : Flow → Shared → Prop} {pA mk lam rg W H kd : Nat} {ps : List Nat} {reg : Nat → Nat → Bool} {F : Nat → Nat → Int} {rt ru rv : Tok}
    (ns : h.Ns C m) (am : AM m pA mk lam rg W H) (hW : W ≤ 11) (hH : H ≤ 11) (hA : A.handled = none)
    (B : Bits h ps W H F) (hp : h.IsList pA (ps.map Value.ref).toArray) (hF : ∀ i < H, ∀ j < W, 0 ≤ F i j ∧ F i j < 2) (lp : ps.length = H) (dp : ∀ a b, a < H → b < H → ps.getD a 0 = ps.getD b 0 → a = b) (hroom : A.depth < recursionLimit) (G : Gnd g L mg mb) (hs : Sub g h) (gC : g.get? C = none) (gP : ∀ p ∈ ps, g.get? p = none)
    (rf : RegFn w s A C ps h lam W H reg) (mf : MaskFn h mk kd) (hkd : kd < 8) (hrg : IsRange h rg 0 W 1 rt ru rv)
    (hq : ∀ h' tk', KA C ps h h' → Bits h' ps W H (turnB F reg kd) → Q .next (sh s h' tk')) :
    wpAny (model pw w) A (exec (applyStmt 1) (apEnv C c)) Q E (sh s h tk) := by
  have offI : ∀ I, h.get? I = none → C ≠ I ∧ I ∉ ps := fun I zI => ⟨by obtain ⟨o, es, n, e, _⟩ := ns; exact Ne.symm (ne_fresh zI e), fun q => by
    obtain ⟨k, hk, rfl⟩ := getD_of_mem lp q
    have := B k hk
    rw [BAt, zI] at this; cases this⟩
  have subG : ∀ h', KA C ps h h' → Sub g h' := fun h' k b o e => k b o (fun q => by rw [q, gC] at e; cases e) (fun q => by rw [gP b q] at e; cases e) (hs b o e)
  obtain ⟨th, hei⟩ := am.hei
  refine for_range (n := H) (by omega) hA (fun i h' => ∃ m', h'.Ns C m' ∧ AM m' pA mk lam rg W H ∧ KA C ps h h' ∧ Bits h' ps W H (mixF F (turnB F reg kd) i 0))
    (r_range hs G.ng G.nb G.nRange G.bRange (fun Q' hq => r_name ns hei (hq _ _)) rfl rfl rfl rfl)
    ⟨m, ns, am, KA.refl, B.congr fun k _ l _ => by unfold mixF; rw [if_neg (by omega)]⟩
    (fun j h1 h2 ⟨m', a, b, e, f⟩ st => ⟨m', st.ns a, b, e.trans st.ka, f.keep st.ba⟩)
    (fun j h1 h2 I x l st zI ⟨m', a, b, e, f⟩ it k2 => ⟨m', let ⟨o, es, n, e', r⟩ := a; ⟨o, es, n, k2 _ _ (offI I zI).1 e', r⟩, b, fun y o h1 h2 h3 => k2 _ _ (fun q => by rw [q, zI] at h3; cases h3) (e y o h1 h2 h3), fun k hk => k2 _ _ (fun q => (offI I zI).2 (q ▸ mem_getD lp hk)) (f k hk)⟩)
    ?_ (fun h' tk' ⟨m', a, b, e, f⟩ => hq h' tk' e (f.congr fun k hk l hl => by unfold mixF; rw [if_pos (by omega)]))
  rintro i h1 tk1 ti I hi ⟨m', a, b, e, f⟩ zI
  refine wpAny_assign_Name (r_store (s := s) (h := h1) a (fun h2 tk2 ns2 sb2 => ?_))
  have k2 : KA C ps h h2 := e.trans (KA.sb sb2)
  have b2 := b.set (x := "i") (v := .int (i : Int) ti) (.inl rfl)
  -- row = matrix[i]
  refine wpAny_execs_cons (wpAny_Assign_Name (Subscript_ (r_name ns2 b2.mat (r_name ns2 (if_pos rfl) ?_))))
  refine r_item (k2.list ns B lp hp) (by omega) (by omega) (by rw [Int.toNat_natCast]; exact refs_at (by omega)) ?_
  refine r_store (s := s) (h := h2) ns2 (fun h3 tk3 ns3 sb3 => ?_)
  have k3 : KA C ps h h3 := k2.trans (KA.sb sb3)
  have B3 : Bits h3 ps W H (mixF F (turnB F reg kd) i 0) := (f.keep (ba_ns sb2 a)).keep (ba_ns sb3 ns2)
  refine wpAny_execs_cons ?_
  refine inner_for (i := i) (ti := ti) ns3 (b2.set (.inr (.inl rfl))) ((if_neg (by decide)).trans (if_pos rfl)) (if_pos rfl) hi hW hH hA B3 hF lp dp hroom G (subG h3 k3) gC gP (rf.ka k3) (k3.mask ns B lp mf) hkd (k3.range ns B lp hrg) ?_
  intro h4 tk4 m4 ns4 am4 k4 B4
  refine wpAny_execs_nil ⟨h4, tk4, rfl, ⟨m4, ns4, am4, k3.trans k4, B4⟩, fun o ho => ?_⟩
  have nI := Ne.symm (offI I zI).1
  exact k4 _ _ nI (offI I zI).2 ((sb3.2 I nI).trans ((sb2.2 I nI).trans ho))
set_option maxHeartbeats 2000000 in
/-- apply_mask(picture, mask, W, H, lam) -/
theorem apply_code {R : Result → Shared → Prop} {pA mk lam W H kd : Nat} {ps : List Nat} {reg : Nat → Nat → Bool} {F : Nat → Nat → Int} {tw th : Tok}
    (hW : W ≤ 11) (hH : H ≤ 11) (hA : A.handled = none)
    (B : Bits h ps W H F) (hp : h.IsList pA (ps.map Value.ref).toArray) (hF : ∀ i < H, ∀ j < W, 0 ≤ F i j ∧ F i j < 2) (lp : ps.length = H) (dp : ∀ a b, a < H → b < H → ps.getD a 0 = ps.getD b 0 → a = b) (hroom : A.depth + 1 < recursionLimit) (G : Gnd g L mg mb) (hs : Sub g h) (gP : ∀ p ∈ ps, g.get? p = none)
    (rf : ∀ A' : Around, A'.depth = A.depth + 1 → RegFn w s A' h.objs.size ps h lam W H reg) (mf : MaskFn h mk kd) (hkd : kd < 8)
    (hR : ∀ h' tk', (∀ b o, b ∉ ps → h.get? b = some o → h'.get? b = some o) → Bits h' ps W H (turnB F reg kd) → R (.ok (.ret .none)) (sh s h' tk')) :
    codeAny (model pw w) A (.call (.ref 21) ⟨[.ref pA, .ref mk, .int W tw, .int H th, .ref lam], []⟩) R (sh s h tk) := by
  obtain ⟨name, doc, pm, ct, c, o, ho, hd, hcd⟩ := G.apply
  have hsc : (scopeOf applyDef).names.lookup (Str.ofString "matrix") = some .local ∧ (scopeOf applyDef).names.lookup (Str.ofString "mask_pattern") = some .local ∧ (scopeOf applyDef).names.lookup (Str.ofString "width") = some .local ∧ (scopeOf applyDef).names.lookup (Str.ofString "height") = some .local ∧ (scopeOf applyDef).names.lookup (Str.ofString "is_encoding_region") = some .local := by decide
  refine codeAny_call_def (binds := [(Str.ofString "matrix", .ref pA), (Str.ofString "mask_pattern", .ref mk), (Str.ofString "width", .int W tw), (Str.ofString "height", .int H th), (Str.ofString "is_encoding_region", .ref lam)]) (by omega) (hs _ _ ho) hd (hs.nolimit G.lim) (hs.codeRec hcd) rfl (BindsTo.of_eq rfl)
    (show ∀ x ∈ (scopeOf applyDef).names, x.2 ≠ .cell by decide) ?_ ?_
  · intro x hx
    rcases List.mem_cons.mp hx with rfl | hx
    · exact hsc.1
    rcases List.mem_cons.mp hx with rfl | hx
    · exact hsc.2.1
    exact bnd3 (P := fun x => (scopeOf applyDef).names.lookup x.1 = some .local) hsc.2.2.1 hsc.2.2.2.1 hsc.2.2.2.2 x hx
  intro h₀ hns hkp
  refine wpAny_mono (E := fun _ _ => False) (Q := fun f s' => R (.ok (.ret (match f with | .ret v => v | _ => .none))) s') ?_ (fun _ _ x => x) (fun _ _ x => x.elim)
  have hkp' : Sub h h₀ := hkp
  have zC : h.get? h.objs.size = none := fresh_none h
  have rf' := fun A' hA' => rf A' hA'
  clear rf
  show wpAny (model pw w) (A.deeper (apEnv h.objs.size c)) (execs _ (apEnv h.objs.size c)) _ _ _
  have hgC : g.get? h.objs.size = none := by
    cases q : g.get? h.objs.size with
    | none => rfl
    | some o => have := hs _ _ q; rw [zC] at this; cases this
  generalize hLL : h.objs.size = C at hns zC rf' hgC ⊢
  have rf'' := rf' (A.deeper (apEnv C c)) rfl
  generalize hAA : A.deeper (apEnv C c) = A' at rf''
  have hA' : A'.handled = none := by rw [← hAA]; exact hA
  have hr' : A'.depth < recursionLimit := by rw [← hAA]; exact hroom
  refine wpAny_execs_cons (wpAny_Assign_Name ?_)
  refine wpAny_mono (r_range (n := W) (hs.trans hkp') G.ng G.nb G.nRange G.bRange (fun Q' hq => r_name hns (v := .int W tw) rfl (hq _ _)) rfl rfl rfl rfl) (fun xv s₁ h₁ => ?_) fun _ _ x => x
  obtain ⟨rg, h1, tk1, t, u, v, rfl, rfl, s1, L1⟩ := h₁
  refine r_store (s := s) (h := h1) (s1.ns hns) (fun h2 tk2 ns2 sb2 => ?_)
  replace sb2 : Heap.SameBut C h1 h2 := sb2
  have s01 : Sub h h1 := hkp'.trans s1
  have kk2 : ∀ b o, h.get? b = some o → h2.get? b = some o := fun b o e => (sb2.2 b (fun q => by rw [q, zC] at e; cases e)).trans (s01 b o e)
  have s02 : Sub h h2 := kk2
  have hrg2 : IsRange h2 rg 0 W 1 t u v := by
    refine (sb2.2 rg (fun q => ?_)).trans L1
    obtain ⟨o', es, n', e', d', _⟩ := s1.ns hns
    rw [IsRange, q] at L1
    rw [L1] at e'; cases e'; cases d'
  refine wpAny_execs_cons ?_
  refine outer_for (F := F) (rg := rg) (reg := reg) ns2 ⟨rfl, rfl, ⟨tw, rfl⟩, ⟨th, rfl⟩, rfl, rfl⟩ hW hH hA' (B.keep s02.ba) (s02.list hp) hF lp dp hr' G (hs.trans s02) hgC gP (rf''.ka s02.ka) (mf.sub s02) hkd hrg2 ?_
  intro h3 tk3 k3 B3
  refine wpAny_execs_nil (hR h3 tk3 (fun b o hb e => k3 b o (fun q => by rw [q, zC] at e; cases e) hb (s02 b o e)) B3)
end
end Mine
end
section
namespace Mine
def callArgs : Stmt → List Expr
  | .Expr (.Call _ as _ _) _ => as
  | _ => []
def lamE : Expr := (callArgs ((forBody (lawStmt 12)).getD 0 default)).getD 4 default
def lamParams : Arguments := match lamE with | .Lambda p _ _ _ => p | _ => default
def lamBody : Expr := match lamE with | .Lambda _ b _ _ => b | _ => default
def lamScope : Scope := match lamE with | .Lambda _ _ s _ => s | _ => default
def lamPos : Pos := match lamE with | .Lambda _ _ _ p => p | _ => default
theorem lamE_eq : lamE = .Lambda lamParams lamBody lamScope lamPos := rfl
def lamQ : Str := (lawEnv 0 0).qual ++ "<lambda>"
def LamFn (h : Heap) (f L : Nat) : Prop := ∃ pm c' ctv, h.get? f = some (kla_obj "<lambda>" lamQ lamParams lamBody lamScope [(Str.ofString "region", L + 1 + 1 + 1 + 1)] pm c' ctv) ∧ h.CodeRec (.ref c') lamQ
def Tab46 (h : Heap) : Prop := h.get? 46 = some (tabObj #[]) ∨ ∃ c' : Nat, h.get? 46 = some (tabObj #[rawInt lamPos.line, rawInt lamPos.col, .ref c']) ∧ h.CodeRec (.ref c') lamQ ∧ c' ≠ 46
theorem LamFn.fnAt {h f L} (x : LamFn h f L) : FnAt f h := by
  obtain ⟨pm, c', ctv, e, _⟩ := x
  exact ⟨_, _, _, _, e⟩
section
variable {w : World} {A : Around} {E : Value → Shared → Prop} {s : Shared} {h : Heap} {tk : Tok} {L fa : Nat} {g : Heap} {m mg mb : Str → Option Value} {vn vi vj vr : Option Value}
theorem lam_make {Q : Value → Shared → Prop} (G : Gnd g L mg mb) (hs : Sub g h) (T : Tab46 h)
    (hq : ∀ h' tk' f, (∀ b o, b ≠ 46 → h.get? b = some o → h'.get? b = some o) → Tab46 h' → LamFn h' f L → Q (.ref f) (sh s h' tk')) :
    wpAny (model pw w) A (eval lamE (lawEnv L fa)) Q E (sh s h tk) := by
  rw [lamE_eq]
  have hgP : mainGlobals ≠ 46 := by
    intro q
    obtain ⟨o, es, ep, e, _⟩ := G.ng
    rw [q, G.t46] at e; cases e
  refine kla_eval rfl ?_
  rcases T with T | ⟨c', T, cr, hc'⟩
  · refine kla_makeFunction (s := sh s h tk) (clos := [(Str.ofString "region", L + 1 + 1 + 1 + 1)]) rfl rfl (hs.ns G.ng) rfl (G.c48.keeps hs) T trivial rfl hgP (G.builtinsAt hs G.t46) fun c' ctv h' tk' hx hge hlt hrec htb => ?_
    have h46 : 46 < h.objs.size := Heap.lt_size T
    have s1 : Sub h' (h'.push (kla_obj "<lambda>" lamQ lamParams lamBody lamScope [(Str.ofString "region", L + 1 + 1 + 1 + 1)] ((mg "__name__").getD .none) c' ctv)) := Sub.push _ _
    refine hq _ tk' _ (fun b o hb e => s1 _ _ (hx b o hb e)) (.inr ⟨c', s1 _ _ htb, s1.codeRec hrec, ?_⟩) ⟨_, c', ctv, Heap.get?_push_size _ rfl, s1.codeRec hrec⟩
    have hge' : h.objs.size ≤ c' := hge
    exact fun q => by rw [q] at hge'; omega
  · refine kla_makeFunctionHit (s := sh s h tk) (cv := .ref c') (clos := [(Str.ofString "region", L + 1 + 1 + 1 + 1)]) rfl rfl (hs.ns G.ng) rfl (G.c48.keeps hs) T trivial rfl (G.builtinsAt hs G.t46) fun ctv h' tk' hk hsz => ?_
    have hk' : Sub h h' := hk
    have s1 : Sub h' (h'.push (kla_obj "<lambda>" lamQ lamParams lamBody lamScope [(Str.ofString "region", L + 1 + 1 + 1 + 1)] ((mg "__name__").getD .none) c' ctv)) := Sub.push _ _
    have s2 := hk'.trans s1
    exact hq _ tk' _ (fun b o _ e => s2 _ _ e) (.inr ⟨c', s2 _ _ T, s2.codeRec cr, hc'⟩) ⟨_, c', ctv, Heap.get?_push_size _ rfl, s2.codeRec cr⟩
theorem lam_code {R : Result → Shared → Prop} {f i j rA W H : Nat} {ti tj : Tok} {rs : List Nat} {reg : Nat → Nat → Bool} (lf : LamFn h f L) (hroom : A.depth < recursionLimit) (hlim : h.NoLimit)
    (hc : h.IsCell (L + 1 + 1 + 1 + 1) (some (.ref rA))) (pr : h.IsList rA (rs.map Value.ref).toArray) (lr : rs.length = H) (br : ∀ k < H, BRow h (rs.getD k 0) W (reg k)) (iH : i < H) (jW : j < W) (hW : W ≤ 11) (hH : H ≤ 11)
    (hR : ∀ h' tk', Sub h h' → R (.ok (.ret (.bool (reg i j)))) (sh s h' tk')) :
    codeAny (model pw w) A (.call (.ref f) ⟨[.int i ti, .int j tj], []⟩) R (sh s h tk) := by
  obtain ⟨pm, c', ctv, e, cr⟩ := lf
  refine kla_callFunE hroom e rfl rfl rfl rfl cr ?_
  refine wpAny_of_eq (a := [(Str.ofString "i", .int i ti), (Str.ofString "j", .int j tj)]) rfl ?_
  refine wpAny_newFunctionEnv (show ∀ x ∈ lamScope.names, x.2 ≠ .cell by decide) (bnd2 (show lamScope.names.lookup (Str.ofString "i") = _ by decide) (show lamScope.names.lookup (Str.ofString "j") = _ by decide)) (fun h₀ hns sb => ⟨hlim.fresh _ sb, kla_codeExpr ?_⟩) rfl
  have st : Sub h h₀ := fun b o e => (sb.2 b (Nat.ne_of_lt (Heap.lt_size e))).trans (Heap.get?_push_of_some _ e)
  refine wpAny_mono (E := fun _ _ => False) (Q := fun v s' => R (.ok (.ret v)) s') ?_ (fun _ _ x => x) (fun _ _ x => x.elim)
  obtain ⟨vs, hv, hz, hvv⟩ := br i iH
  refine Subscript_ (Subscript_ ?_)
  refine wpAny_Name (wpAny_loadName_free rfl rfl rfl (st.cell hc) ?_) (by decide)
  refine r_name (s := s) (h := h₀) hns rfl ?_
  refine r_item (st.list pr) (by omega) (by omega) (by rw [Int.toNat_natCast]; exact refs_at (by omega)) ?_
  refine r_name (s := s) (h := h₀) hns rfl ?_
  obtain ⟨v, hvj⟩ : ∃ v, vs[j]? = some v := ⟨_, Array.getElem?_eq_getElem (by omega)⟩
  refine r_item (st.list hv) (by omega) (by omega) (by rw [Int.toNat_natCast]; exact hvj) ?_
  rw [hvv j v hvj]
  exact hR h₀ _ st
end
end Mine
end
section
namespace Mine
def runF (f : Nat → Nat → Int) (reg : Nat → Nat → Bool) (l : List Nat) : Nat → Nat → Int := l.foldl (fun f k => turnB f reg (kindsL.getD k 0)) f
theorem runF_snoc {f reg l k} : runF f reg (l ++ [k]) = turnB (runF f reg l) reg (kindsL.getD k 0) := by unfold runF; rw [List.foldl_append]; rfl
theorem turn_bit {f reg k i j} (h : 0 ≤ f i j ∧ f i j < 2) : 0 ≤ turnB f reg k i j ∧ turnB f reg k i j < 2 := by unfold turnB; split <;> omega
theorem run_bit {reg i j} : ∀ {l : List Nat} {f}, (0 ≤ f i j ∧ f i j < 2) → 0 ≤ runF f reg l i j ∧ runF f reg l i j < 2
  | [], _, h => h
  | _ :: l, _, h => run_bit (l := l) (turn_bit h)
theorem take_snoc {l : List Nat} {i : Nat} (h : i < l.length) : l.take (i + 1) = l.take i ++ [l.getD i 0] := by
  rw [List.take_succ, List.getD_eq_getElem?_getD, List.getElem?_eq_getElem h]; rfl
/-- names but for one -/
def Same (x : Str) (m m' : Str → Option Value) : Prop := ∀ y, y ≠ x → m' y = m y
theorem off_list {h : Heap} {ps : List Nat} {W H F} {a : Nat} {xs} (T : Tab46 h) (B : Bits h ps W H F) (lp : ps.length = H) (x : h.IsList a xs) : a ∉ 46 :: ps := fun q => by
  obtain ⟨o, e, c, n, d⟩ := x
  rcases List.mem_cons.mp q with rfl | q
  · rcases T with T | ⟨c', T, _⟩ <;> (rw [T] at e; injection e with e; subst e; injection d)
  · exact B.notMem lp e (by rw [d]; nofun) q
theorem off_mask {h : Heap} {ps : List Nat} {W H F} (T : Tab46 h) (B : Bits h ps W H F) (lp : ps.length = H) : ∀ b ∈ 46 :: ps, ∀ o, h.get? b = some o → (∀ fd, o.data ≠ .func fd) ∧ (∀ vs q t, o.data = .fields vs → vs[1]? ≠ some (.str q t)) := fun b q o e => by
  rcases List.mem_cons.mp q with rfl | q
  · have hz : ∀ (a b : Int) (c : Value) (q : Str) (t : Tok), (#[rawInt a, rawInt b, c] : Array Value)[1]? ≠ some (.str q t) := fun a b c q t x => by simp [rawInt] at x
    have hz0 : ∀ (q : Str) (t : Tok), (#[] : Array Value)[1]? ≠ some (.str q t) := fun q t x => by simp at x
    rcases T with T | ⟨c', T, _⟩
    · rw [T] at e
      injection e with e
      subst e
      exact ⟨fun _ d => by injection d, fun vs q t d => by injection d with d; subst d; exact hz0 q t⟩
    · rw [T] at e
      injection e with e
      subst e
      exact ⟨fun _ d => by injection d, fun vs q t d => by injection d with d; subst d; exact hz _ _ _ q t⟩
  · obtain ⟨k, hk, rfl⟩ := getD_of_mem lp q
    have := B k hk
    generalize bytesOf W (F k) = bs at this
    rw [BAt, e] at this
    injection this with this
    subst this
    exact ⟨fun _ d => by injection d, fun vs q t d => by injection d⟩
theorem Tab46.kp {h h' : Heap} {L : Nat} {m vn vi vj vr} (T : Tab46 h) (F : LF L h m vn vi vj vr) (k : Kp L [] h h') : Tab46 h' := by
  have k46 : ∀ ps, h.get? 46 = some (tabObj ps) → h'.get? 46 = some (tabObj ps) := fun ps e => k _ _ (F.off e (fun _ _ d => by injection d) (fun _ d => by injection d)) (by simp) e
  rcases T with T | ⟨c', T, ⟨c2, o, vs, t, rc, ec, dc, v1⟩, n⟩
  · exact .inl (k46 _ T)
  · refine .inr ⟨c', k46 _ T, ?_, n⟩
    exact ⟨c2, o, vs, t, rc, k _ _ (F.off ec (by rw [dc]; nofun) (by rw [dc]; nofun)) (by simp) ec, dc, v1⟩
theorem Tab46.keep {h h' : Heap} (T : Tab46 h) (k : ∀ b o, (∀ es n, o.data ≠ .dict es n) → (∀ v, o.data ≠ .cell v) → (∀ bs n, o.data ≠ .bytearray bs n) → h.get? b = some o → h'.get? b = some o) : Tab46 h' := by
  have k46 : ∀ ps, h.get? 46 = some (tabObj ps) → h'.get? 46 = some (tabObj ps) := fun ps e => k _ _ (fun _ _ d => by injection d) (fun _ d => by injection d) (fun _ _ d => by injection d) e
  rcases T with T | ⟨c', T, ⟨c2, o, vs, t, rc, ec, dc, v1⟩, n⟩
  · exact .inl (k46 _ T)
  · refine .inr ⟨c', k46 _ T, ?_, n⟩
    exact ⟨c2, o, vs, t, rc, k _ _ (by rw [dc]; nofun) (by rw [dc]; nofun) (by rw [dc]; nofun) ec, dc, v1⟩
theorem Tab46.sub {h h' : Heap} (T : Tab46 h) (k : Sub h h') : Tab46 h' := T.keep fun b o _ _ _ e => k b o e
theorem Bits.kp {h h' : Heap} {L : Nat} {m vn vi vj vr ps W H F} (B : Bits h ps W H F) (LFr : LF L h m vn vi vj vr) (k : Kp L [] h h') : Bits h' ps W H F := fun i hi => k _ _ (LFr.off (B i hi) (by nofun) (by nofun)) (by simp) (B i hi)
theorem LamFn.ka {C : Nat} {ps : List Nat} {h h' : Heap} {W H F} {f L : Nat} (k : KA C ps h h') (zC : h.get? C = none) (B : Bits h ps W H F) (lp : ps.length = H) (x : LamFn h f L) : LamFn h' f L := by
  have kk : ∀ b o, (∀ bs n, o.data ≠ .bytearray bs n) → h.get? b = some o → h'.get? b = some o := fun b o d e => k b o (fun q => by rw [q, zC] at e; cases e) (B.notMem lp e d) e
  obtain ⟨pm, c', ctv, e, c2, o, vs, t, rc, ec, dc, v1⟩ := x
  exact ⟨pm, c', ctv, kk _ _ (by nofun) e, c2, o, vs, t, rc, kk _ _ (by rw [dc]; nofun) ec, dc, v1⟩
end Mine
end
section
namespace Mine
theorem Tab46.keep2 {h h' : Heap} (T : Tab46 h) (k46 : ∀ o, h.get? 46 = some o → h'.get? 46 = some o) (kc : ∀ b o vs q t, h.get? b = some o → o.data = .fields vs → vs[1]? = some (.str q t) → h'.get? b = some o) : Tab46 h' := by
  rcases T with T | ⟨c', T, ⟨c2, o, vs, t, rc, ec, dc, v1⟩, n⟩
  · exact .inl (k46 _ T)
  · refine .inr ⟨c', k46 _ T, ?_, n⟩
    exact ⟨c2, o, vs, t, rc, kc _ _ _ _ _ ec dc v1, dc, v1⟩
theorem Tab46.at {h : Heap} (T : Tab46 h) : ∃ ps, h.get? 46 = some (tabObj ps) := by
  rcases T with T | ⟨c', T, _⟩
  · exact ⟨_, T⟩
  · exact ⟨_, T⟩
theorem LF.bytes {L : Nat} {h h' : Heap} {m vn vi vj vr} {ps : List Nat} {W H F} (Fr : LF L h m vn vi vj vr) (B : Bits h ps W H F) (lp : ps.length = H) (k : ∀ b o, b ∉ ps → h.get? b = some o → h'.get? b = some o) : LF L h' m vn vi vj vr := by
  have c : ∀ {a : Nat} {v}, h.IsCell a v → h'.IsCell a v := fun x => let ⟨o, e, r⟩ := x; ⟨o, k _ _ (B.notMem lp e (fun _ _ d => by rw [r] at d; cases d)) e, r⟩
  refine ⟨?_, c Fr.cN, c Fr.cI, c Fr.cJ, c Fr.cR⟩
  obtain ⟨o, es, n, e, d, r⟩ := Fr.ns
  exact ⟨o, es, n, k _ _ (B.notMem lp e (fun _ _ q => by rw [d] at q; cases q)) e, d, r⟩
theorem LF.k46 {L : Nat} {h h' : Heap} {m vn vi vj vr} (F : LF L h m vn vi vj vr) (k : ∀ b o, b ≠ 46 → h.get? b = some o → h'.get? b = some o) (hL : 46 < L) : LF L h' m vn vi vj vr := by
  have c : ∀ {a : Nat} {v}, L < a → h.IsCell a v → h'.IsCell a v := fun {a v} ha x => let ⟨o, e, r⟩ := x; ⟨o, k _ _ (by show (a : Nat) ≠ 46; omega) e, r⟩
  refine ⟨?_, c (by omega) F.cN, c (by omega) F.cI, c (by omega) F.cJ, c (by omega) F.cR⟩
  obtain ⟨o, es, n, e, r⟩ := F.ns
  exact ⟨o, es, n, k _ _ (by show L ≠ 46; omega) e, r⟩
section
variable {w : World} {A : Around} {E : Value → Shared → Prop} {s : Shared} {h : Heap} {tk : Tok} {L fa : Nat} {g : Heap} {m mg mb : Str → Option Value} {vn vi vj vr : Option Value}
theorem reg_fn {A' : Around} {f rA W H : Nat} {ps rs : List Nat} {reg : Nat → Nat → Bool} {Fb : Nat → Nat → Int} (G : Gnd g L mg mb) (hs : Sub g h) (gP : ∀ p ∈ ps, g.get? p = none) (B : Bits h ps W H Fb) (lp : ps.length = H) (lf : LamFn h f L) (hroom : A'.depth < recursionLimit)
    (hc : h.IsCell (L + 1 + 1 + 1 + 1) (some (.ref rA))) (pr : h.IsList rA (rs.map Value.ref).toArray) (lr : rs.length = H) (br : ∀ k < H, BRow h (rs.getD k 0) W (reg k)) (hW : W ≤ 11) (hH : H ≤ 11) :
    RegFn w s A' h.objs.size ps h f W H reg := by
  intro h1 k1
  have zC := fresh_none h
  have kk : ∀ b o, (∀ bs n, o.data ≠ .bytearray bs n) → h.get? b = some o → h1.get? b = some o := fun b o d e => k1 b o (fun q => by rw [q, zC] at e; cases e) (B.notMem lp e d) e
  have lf1 := LamFn.ka k1 zC B lp lf
  have kl : ∀ {a xs}, h.IsList a xs → h1.IsList a xs := fun x => let ⟨o, e, c, n, d⟩ := x; ⟨o, kk _ _ (fun _ _ q => by rw [d] at q; cases q) e, c, n, d⟩
  have hs1 : Sub g h1 := fun b o e => k1 b o (fun q => by have := hs b o e; rw [q, zC] at this; cases this) (fun q => by rw [gP b q] at e; cases e) (hs b o e)
  refine ⟨lf1.fnAt, fun tk1 i j ti tj R hi hj hR => ?_⟩
  refine lam_code lf1 hroom (hs1.nolimit G.lim) ?_ (kl pr) lr (fun k hk => ?_) hi hj hW hH hR
  · obtain ⟨o, e, r⟩ := hc
    exact ⟨o, kk _ _ (fun _ _ q => by rw [r] at q; cases q) e, r⟩
  · obtain ⟨vs, l, z⟩ := br k hk
    exact ⟨vs, kl l, z⟩
theorem Gnd.apply_at (G : Gnd g L mg mb) (hs : Sub g h) : FnAt 21 h := by
  obtain ⟨name, doc, pm, ct, c, ⟨oc, od, dd, sl⟩, ho, hd, hcd⟩ := G.apply
  simp only at hd; subst hd
  exact ⟨oc, od, _, sl, hs _ _ ho⟩
set_option maxHeartbeats 4000000 in
theorem p12_body {Q : Flow → Shared → Prop} {pA mA rA W H kk : Nat} {fs ps rs : List Nat} {reg : Nat → Nat → Bool} {Fb : Nat → Nat → Int} {tw th tk0 : Tok}
    (F : LF L h m vn vi vj (some (.ref rA))) (G : Gnd g L mg mb) (hs : Sub g h) (hA : A.handled = none) (hroom : A.depth + 1 < recursionLimit) (hL : 46 < L) (T : Tab46 h)
    (hwh : m "which" = some (.int (kk : Nat) tk0)) (hpn : m "picture" = some (.ref pA)) (hm : m "masks" = some (.ref mA)) (hw : m "wide" = some (.int W tw)) (hh : m "high" = some (.int H th)) (hk12 : kk < 12)
    (hmL : h.IsList mA (fs.map Value.ref).toArray) (hfl : fs.length = 12) (hfm : ∀ k < 12, MaskFn h (fs.getD k 0) (kindsL.getD k 0))
    (pr : h.IsList rA (rs.map Value.ref).toArray) (lr : rs.length = H) (br : ∀ k < H, BRow h (rs.getD k 0) W (reg k)) (hW : W ≤ 11) (hH : H ≤ 11)
    (B : Bits h ps W H Fb) (hp : h.IsList pA (ps.map Value.ref).toArray) (hF : ∀ i < H, ∀ j < W, 0 ≤ Fb i j ∧ Fb i j < 2) (lp : ps.length = H) (dp : ∀ a b, a < H → b < H → ps.getD a 0 = ps.getD b 0 → a = b) (gP : ∀ p ∈ ps, g.get? p = none)
    (hq : ∀ h' tk', LF L h' m vn vi vj (some (.ref rA)) → (∀ b o, b ≠ 46 → b ∉ ps → h.get? b = some o → h'.get? b = some o) → Tab46 h' → Bits h' ps W H (turnB Fb reg (kindsL.getD kk 0)) → Q .next (sh s h' tk')) :
    wpAny (model pw w) A (execs (forBody (lawStmt 12)) (lawEnv L fa)) Q E (sh s h tk) := by
  refine wpAny_execs_cons (wpAny_Expr ?_)
  refine r_callF (f := 21) (fun Q' hq => r_global (hs.ns G.ng) G.gA hq) (G.apply_at hs) ?_
  refine r_argN (r_name F.ns hpn ?_)
  refine r_arg (Subscript_ (r_name F.ns hm (r_name F.ns hwh (r_item hmL (by omega) (by omega) (by rw [Int.toNat_natCast]; exact refs_at (by omega)) ?_))))
  refine r_argN (r_name F.ns hw (r_argN (r_name F.ns hh ?_)))
  refine r_arg (lam_make G hs T fun h1 tk1 f k1 T1 lf1 => r_args ?_)
  have hs1 : Sub g h1 := fun b o e => k1 b o (fun q => by rw [q, G.t46] at e; cases e) (hs b o e)
  obtain ⟨pt, e46⟩ := T.at
  have nl : ∀ {a xs}, h.IsList a xs → h1.IsList a xs := fun {a xs} x => let ⟨o, e, c, n, d⟩ := x; ⟨o, k1 _ _ (not_at e e46 (by rw [d]; exact fun q => by injection q)) e, c, n, d⟩
  have B1 : Bits h1 ps W H Fb := fun k hk => k1 _ _ (not_at (B k hk) e46 (fun q => by injection q)) (B k hk)
  have F1 := F.k46 k1 hL
  have mf1 : MaskFn h1 (fs.getD kk 0) (kindsL.getD kk 0) := (hfm kk hk12).kp F (X := [46]) (fun b o _ hX e => k1 b o (by simpa using hX) e) fun b hb o e => by
    refine off_mask T B lp b ?_ o e
    rcases List.mem_cons.mp hb with rfl | hb
    · exact .head _
    · cases hb
  refine ⟨G.apply_at hs1, ?_⟩
  refine apply_code (F := Fb) (reg := reg) hW hH hA B1 (nl hp) hF lp dp hroom G hs1 gP (fun A' hA' => reg_fn G hs1 gP B1 lp lf1 (by omega) F1.cR (nl pr) lr (fun k hk => ?_) hW hH) mf1 (kinds_lt kk hk12) fun h2 tk2 k2 B2 => ?_
  · obtain ⟨vs, l, z⟩ := br k hk
    exact ⟨vs, nl l, z⟩
  · have T2 : Tab46 h2 := T1.keep2 (fun o e => k2 _ _ (fun q => by
      obtain ⟨pt1, e1⟩ := T1.at
      exact B1.notMem lp e1 (fun _ _ d => by injection d) q) e) (fun b o vs q t e d _ => k2 _ _ (B1.notMem lp e (fun _ _ x => by rw [d] at x; injection x)) e)
    refine wpAny_execs_nil (hq h2 tk2 (F1.bytes B1 lp k2) (fun b o b1 b2 e => k2 _ _ b2 (k1 _ _ b1 e)) T2 B2)
end
end Mine
end
section
namespace Mine
theorem Same.set {x : Str} {m m' : Str → Option Value} {v : Value} (s : Same x m m') : Same x m (fun y => if y = x then some v else m' y) := fun y hy => (if_neg hy).trans (s y hy)
section
variable {w : World} {A : Around} {E : Value → Shared → Prop} {s : Shared} {h : Heap} {tk : Tok} {L fa : Nat} {g : Heap} {m mg mb : Str → Option Value} {vn vi vj vr : Option Value}
set_option maxHeartbeats 4000000 in
theorem p12 {Q : Flow → Shared → Prop} {sA pA mA rA W H : Nat} {fs ps rs ser : List Nat} {ys : Array Value} {reg : Nat → Nat → Bool} {Fb : Nat → Nat → Int} {tw th : Tok}
    (F : LF L h m vn vi vj (some (.ref rA))) (G : Gnd g L mg mb) (hs : Sub g h) (hA : A.handled = none) (hroom : A.depth + 1 < recursionLimit) (hL : 46 < L) (T : Tab46 h)
    (hse : m "series" = some (.ref sA)) (hsL : h.IsList sA ys) (zs : ys.size = ser.length) (vs : ∀ (i : Nat) y, ys[i]? = some y → ∃ t, y = .int (ser.getD i 0 : Nat) t) (hser : ∀ k ∈ ser, k < 12)
    (hpn : m "picture" = some (.ref pA)) (hm : m "masks" = some (.ref mA)) (hw : m "wide" = some (.int W tw)) (hh : m "high" = some (.int H th))
    (hmL : h.IsList mA (fs.map Value.ref).toArray) (hfl : fs.length = 12) (hfm : ∀ k < 12, MaskFn h (fs.getD k 0) (kindsL.getD k 0))
    (pr : h.IsList rA (rs.map Value.ref).toArray) (lr : rs.length = H) (br : ∀ k < H, BRow h (rs.getD k 0) W (reg k)) (hW : W ≤ 11) (hH : H ≤ 11)
    (B : Bits h ps W H Fb) (hp : h.IsList pA (ps.map Value.ref).toArray) (hF : ∀ i < H, ∀ j < W, 0 ≤ Fb i j ∧ Fb i j < 2) (lp : ps.length = H) (dp : ∀ a b, a < H → b < H → ps.getD a 0 = ps.getD b 0 → a = b) (gP : ∀ p ∈ ps, g.get? p = none)
    (hq : ∀ h' tk' m', LF L h' m' vn vi vj (some (.ref rA)) → Same "which" m m' → Kp L (46 :: ps) h h' → Tab46 h' → Bits h' ps W H (runF Fb reg ser) → Q .next (sh s h' tk')) :
    wpAny (model pw w) A (exec (lawStmt 12) (lawEnv L fa)) Q E (sh s h tk) := by
  have gX : ∀ x ∈ 46 :: ps, g.get? x = none := fun x hx => by
    rcases List.mem_cons.mp hx with rfl | hx
    · exact G.t46
    · exact gP x hx
  obtain ⟨pt, e46⟩ := T.at
  have offP : ∀ I, h.get? I = none → I ≠ 46 ∧ I ∉ ps := fun I zI => ⟨ne_fresh zI e46, fun q => by
    obtain ⟨k, hk, rfl⟩ := getD_of_mem lp q
    have := B k hk
    rw [BAt, zI] at this; cases this⟩
  have kl : ∀ {h1 : Heap} {a : Nat} {xs}, Kp L (46 :: ps) h h1 → h.IsList a xs → h1.IsList a xs := fun k x => k.list x (F.offList x) (off_list T B lp x)
  refine for_list (items := ys) hA (fun i h' => ∃ m', LF L h' m' vn vi vj (some (.ref rA)) ∧ Same "which" m m' ∧ Kp L (46 :: ps) h h' ∧ Tab46 h' ∧ Bits h' ps W H (runF Fb reg (ser.take i)))
    (r_name F.ns hse ⟨sA, h, tk, rfl, rfl, Sub.refl _, fun i h2 ⟨_, _, _, k, _⟩ => kl k hsL⟩)
    ⟨m, F, fun _ _ => rfl, Kp.refl, T, B⟩
    (fun i h1 h2 ⟨m', a, b, c, d, e⟩ st => ⟨m', a.sub st, b, c.trans st.kp, d.sub st, e.keep st.ba⟩)
    (fun i h1 h2 I l k zI ⟨m', a, b, c, d, e⟩ it k2 => ⟨m', F.iter zI a k2, b, kp_iter zI c k2, d.keep2 (fun o x => k2 _ _ (Ne.symm (offP I zI).1) x) (fun b o vs q t x dd v1 => k2 _ _ (fun y => by
      subst y
      obtain ⟨o', e', _, d'⟩ := it
      rw [e'] at x; injection x with x; subst x
      rw [d'] at dd; injection dd with dd; subst dd
      simp at v1) x), fun k hk => k2 _ _ (fun q => (offP I zI).2 (q ▸ mem_getD lp hk)) (e k hk)⟩)
    ?_ (fun h' tk' ⟨m', a, b, c, d, e⟩ => hq h' tk' m' a b c d (by rw [zs, List.take_length] at e; exact e))
  rintro i v h1 tk1 I hv ⟨m', F1, sm, k1, T1, B1⟩ zI
  have hi : i < ser.length := by rw [← zs]; exact (Array.getElem?_eq_some_iff.mp hv).1
  obtain ⟨t, rfl⟩ := vs i v hv
  have hk12 : ser.getD i 0 < 12 := hser _ (mem_getD rfl hi)
  refine wpAny_assign_Name (l_store F1 fun h2 tk2 F2 k2 => ?_)
  have k02 : Kp L (46 :: ps) h h2 := k1.trans k2.nil
  have T2 := T1.kp F1 k2
  have B2 := B1.kp F1 k2
  have nm : ∀ y : Str, y ≠ "which" → ∀ {v}, m y = some v → (fun y : Str => if y = Str.ofString "which" then some (Value.int (ser.getD i 0 : Nat) t) else m' y) y = some v := fun y hy v hv => (if_neg hy).trans ((sm y hy).trans hv)
  refine p12_body (kk := ser.getD i 0) (tk0 := t) (Fb := runF Fb reg (ser.take i)) (reg := reg) F2 G (G.kp hs k02 gX) hA hroom hL T2 (if_pos rfl) (nm _ (by decide) hpn) (nm _ (by decide) hm) (nm _ (by decide) hw) (nm _ (by decide) hh) hk12
    (kl k02 hmL) hfl (fun k hk => (hfm k hk).kp F k02 (off_mask T B lp)) (kl k02 pr) lr (fun k hk => ?_) hW hH B2 (kl k02 hp) (fun a ha b hb => run_bit (hF a ha b hb)) lp dp gP ?_
  · obtain ⟨us, l, z⟩ := br k hk
    exact ⟨us, kl k02 l, z⟩
  intro h3 tk3 F3 k3 T3 B3
  refine ⟨h3, tk3, rfl, ⟨_, F3, sm.set, k02.trans fun b o hb hX e => k3 b o (fun q => hX (by simp [q])) (fun q => hX (by simp [q])) e, T3, ?_⟩, fun o e => ?_⟩
  · rw [take_snoc hi, runF_snoc]; exact B3
  · have o1 := F.offNew zI
    exact k3 _ _ (offP I zI).1 (offP I zI).2 (k2 _ _ o1 (by simp) e)
end
end Mine
end
section
namespace Mine
/-- how often the series is dark at a place -/
def cnt (l : List Nat) (i j : Nat) : Int := l.foldl (fun n k => n + if maskB (kindsL.getD k 0) (i : Int) (j : Int) = true then 1 else 0) 0
theorem cnt_snoc {l : List Nat} {k i j : Nat} : cnt (l ++ [k]) i j = cnt l i j + if maskB (kindsL.getD k 0) (i : Int) (j : Int) = true then 1 else 0 := by unfold cnt; rw [List.foldl_append]; rfl
theorem snoc_ind {P : List Nat → Prop} (h0 : P []) (h1 : ∀ l k, P l → P (l ++ [k])) : ∀ l, P l := fun l => by
  have : ∀ l : List Nat, P l.reverse := fun l => by
    induction l with
    | nil => exact h0
    | cons a l ih => rw [List.reverse_cons]; exact h1 _ _ ih
  have := this l.reverse
  rwa [List.reverse_reverse] at this
theorem run_eq {f : Nat → Nat → Int} {reg i j} (hf : 0 ≤ f i j ∧ f i j < 2) : ∀ l, runF f reg l i j = (f i j + if reg i j = true then cnt l i j else 0) % 2 := by
  refine snoc_ind ?_ fun l k ih => ?_
  · show f i j = (f i j + if reg i j = true then 0 else 0) % 2
    split <;> omega
  · rw [runF_snoc, cnt_snoc]
    unfold turnB
    rw [ih]
    by_cases h : reg i j = true
    · simp only [h, if_true]; omega
    · simp only [h, if_false]; simp
theorem cnt_nonneg {i j} : ∀ l, 0 ≤ cnt l i j := snoc_ind (by show (0 : Int) ≤ 0; omega) fun l k ih => by rw [cnt_snoc]; split <;> omega
def Same2 (m m' : Str → Option Value) : Prop := ∀ y : Str, y ≠ "which" → y ≠ "times" → m' y = m y
theorem Same2.refl {m} : Same2 m m := fun _ _ _ => rfl
theorem Same2.trans {m m' m''} (a : Same2 m m') (b : Same2 m' m'') : Same2 m m'' := fun y h1 h2 => (b y h1 h2).trans (a y h1 h2)
theorem Same2.w {m m' : Str → Option Value} {v : Value} (s : Same2 m m') : Same2 m (fun y => if y = "which" then some v else m' y) := fun y h1 h2 => (if_neg h1).trans (s y h1 h2)
theorem Same2.t {m m' : Str → Option Value} {v : Value} (s : Same2 m m') : Same2 m (fun y => if y = "times" then some v else m' y) := fun y h1 h2 => (if_neg h2).trans (s y h1 h2)
end Mine
end
section
namespace Mine
def chkFor : Stmt := (forBody (lawStmt 13)).getD 0 default
def whichFor : Stmt := match (forBody chkFor).getD 1 default with | .If _ b _ _ => b.getD 0 default | _ => default
section
variable {w : World} {A : Around} {E : Value → Shared → Prop} {s : Shared} {h : Heap} {tk : Tok} {L fa : Nat} {g : Heap} {m mg mb : Str → Option Value} {vn vi vj vr : Option Value}
set_option maxHeartbeats 2000000 in
theorem which_for {Q : Flow → Shared → Prop} {sA kA i j : Nat} {ser : List Nat} {ys : Array Value} {ws : List Value} {ti tj t0 : Tok}
    (F : LF L h m vn (some (.int i ti)) (some (.int j tj)) vr) (G : Gnd g L mg mb) (hs : Sub g h) (hA : A.handled = none) (hroom : A.depth < recursionLimit)
    (hse : m "series" = some (.ref sA)) (hsL : h.IsList sA ys) (zs : ys.size = ser.length) (vs : ∀ (i : Nat) y, ys[i]? = some y → ∃ t, y = .int (ser.getD i 0 : Nat) t) (hser : ∀ k ∈ ser, k < 12)
    (hk : m "kinds" = some (.ref kA)) (hkL : h.IsList kA ws.toArray) (hki : IntsAre ws (kindsL.map Int.ofNat)) (ht : m "times" = some (.int 0 t0))
    (hq : ∀ h' tk' m' t, LF L h' m' vn (some (.int i ti)) (some (.int j tj)) vr → Same2 m m' → Kp L [] h h' → m' "times" = some (.int (cnt ser i j) t) → Q .next (sh s h' tk')) :
    wpAny (model pw w) A (exec whichFor (lawEnv L fa)) Q E (sh s h tk) := by
  have wl : ws.length = 12 := by rw [hki.length]; rfl
  have kl : ∀ {h1 : Heap} {a : Nat} {xs}, Kp L [] h h1 → h.IsList a xs → h1.IsList a xs := fun k x => k.list x (F.offList x) (by simp)
  refine for_list (items := ys) hA (fun n h' => ∃ m' t, LF L h' m' vn (some (.int i ti)) (some (.int j tj)) vr ∧ Same2 m m' ∧ Kp L [] h h' ∧ m' "times" = some (.int (cnt (ser.take n) i j) t))
    (r_name F.ns hse ⟨sA, h, tk, rfl, rfl, Sub.refl _, fun i h2 ⟨_, _, _, _, k, _⟩ => kl k hsL⟩)
    ⟨m, t0, F, Same2.refl, Kp.refl, ht⟩
    (fun i h1 h2 ⟨m', t, a, b, c, d⟩ st => ⟨m', t, a.sub st, b, c.trans st.kp, d⟩)
    (fun i h1 h2 I l k zI ⟨m', t, a, b, c, d⟩ it k2 => ⟨m', t, F.iter zI a k2, b, kp_iter zI c k2, d⟩)
    ?_ (fun h' tk' ⟨m', t, a, b, c, d⟩ => hq h' tk' m' t a b c (by rw [zs, List.take_length] at d; exact d))
  rintro n v h1 tk1 I hv ⟨m', t, F1, sm, k1, ht1⟩ zI
  have hn : n < ser.length := by rw [← zs]; exact (Array.getElem?_eq_some_iff.mp hv).1
  obtain ⟨tv, rfl⟩ := vs n v hv
  have hk12 : ser.getD n 0 < 12 := hser _ (mem_getD rfl hn)
  refine wpAny_assign_Name (l_store F1 fun h2 tk2 F2 k2 => ?_)
  have k02 : Kp L [] h h2 := k1.trans k2
  have hs2 := G.kp0 hs k02
  have e1 : (fun y : Str => if y = Str.ofString "which" then some (Value.int (ser.getD n 0 : Nat) tv) else m' y) "kinds" = some (.ref kA) := (if_neg (by decide)).trans ((sm _ (by decide) (by decide)).trans hk)
  have e2 : (fun y : Str => if y = Str.ofString "which" then some (Value.int (ser.getD n 0 : Nat) tv) else m' y) "times" = some (.int (cnt (ser.take n) i j) t) := (if_neg (by decide)).trans ht1
  refine wpAny_execs_cons (wpAny_If (wpAny_isTrue_value ?_ rfl))
  refine r_callF (f := 44) (fun Q' hq => r_global (hs2.ns G.ng) G.gD hq) (G.dark.sub hs2).fnAt ?_
  obtain ⟨v, hv2⟩ : ∃ v, ws[ser.getD n 0]? = some v := ⟨_, List.getElem?_eq_getElem (by omega)⟩
  obtain ⟨tq, rfl⟩ := hki.int_at _ _ hv2
  have hkd : ∀ i < 12, (kindsL.map Int.ofNat).getD i 0 = ((kindsL.getD i 0 : Nat) : Int) := by decide
  refine r_arg (Subscript_ (r_name F2.ns e1 (r_name F2.ns (if_pos rfl) (r_item (kl k02 hkL) (by omega) (by omega) (by rw [Int.toNat_natCast, List.getElem?_toArray]; exact hv2) ?_))))
  refine r_argN (r_cell F2.cI (r_argN (r_cell F2.cJ (r_args ⟨(G.dark.sub hs2).fnAt, ?_⟩))))
  rw [hkd _ hk12]
  refine dark_code (G.dark.sub hs2) (kinds_lt _ hk12) hroom (hs2.nolimit G.lim) (hs2.ns G.ng) (hs2.ns G.nb) (G.tiles.sub hs2) G.gT G.nLen G.bLen fun h3 tk3 s3 => ?_
  rw [dark_mask _ (kinds_lt _ hk12)]
  refine r_truthy ?_
  have F3 := F2.sub s3
  have k03 : Kp L [] h h3 := k02.trans s3.kp
  have oI := F.offNew zI
  have cs := cnt_snoc (l := ser.take n) (k := ser.getD n 0) (i := i) (j := j)
  rw [← take_snoc hn] at cs
  cases hm : maskB (kindsL.getD (ser.getD n 0) 0) (i : Int) (j : Int) with
  | false =>
    rw [if_neg (by decide)]
    rw [hm, if_neg (by decide), Int.add_zero] at cs
    refine wpAny_execs_nil (wpAny_execs_nil ⟨h3, _, rfl, ⟨_, t, F3, sm.w, k03, by rw [cs]; exact e2⟩, fun o e => s3 _ _ (k2 _ _ oI (by simp) e)⟩)
  | true =>
    rw [if_pos rfl]
    rw [hm, if_pos rfl] at cs
    refine wpAny_execs_cons (wpAny_AugAssign_Name (wpAny_loadName_local rfl rfl F3.ns e2 ?_))
    refine r_int fun _ _ => iadd_int ?_
    refine l_store F3 fun h4 tk4 F4 k4 => ?_
    refine wpAny_execs_nil (wpAny_execs_nil ⟨h4, tk4, rfl, ⟨_, _, F4, sm.w.t, k03.trans k4, (if_pos rfl).trans (by rw [cs])⟩, fun o e => k4 _ _ oI (by simp) (s3 _ _ (k2 _ _ oI (by simp) e))⟩)
end
end Mine
end
section
namespace Mine
/-- all that the check reads -/
structure Chk (L : Nat) (h : Heap) (m : Str → Option Value) (sA kA gA rA pA W H : Nat) (nums : List Int) (ser gs rs ps : List Nat) (ys : Array Value) (ws : List Value) : Prop where
  hse : m "series" = some (.ref sA)
  hk : m "kinds" = some (.ref kA)
  hg : m "given" = some (.ref gA)
  hp : m "picture" = some (.ref pA)
  hw : ∃ t, m "wide" = some (.int W t)
  hh : ∃ t, m "high" = some (.int H t)
  sL : h.IsList sA ys
  kL : h.IsList kA ws.toArray
  gL : h.IsList gA (gs.map Value.ref).toArray
  rL : h.IsList rA (rs.map Value.ref).toArray
  pL : h.IsList pA (ps.map Value.ref).toArray
  lg : gs.length = H
  lr : rs.length = H
  lp : ps.length = H
  ig : ∀ k < H, IRow h (gs.getD k 0) W (givB nums k)
  br : ∀ k < H, BRow h (rs.getD k 0) W (regB nums k)
  B : Bits h ps W H (runF (givB nums) (regB nums) ser)
  zs : ys.size = ser.length
  vs : ∀ (i : Nat) y, ys[i]? = some y → ∃ t, y = .int (ser.getD i 0 : Nat) t
  hser : ∀ k ∈ ser, k < 12
  hki : IntsAre ws (kindsL.map Int.ofNat)
theorem Chk.kp {L h h' m sA kA gA rA pA W H nums ser gs rs ps ys ws vn vi vj vr} (c : Chk L h m sA kA gA rA pA W H nums ser gs rs ps ys ws) (F : LF L h m vn vi vj vr) (k : Kp L [] h h') : Chk L h' m sA kA gA rA pA W H nums ser gs rs ps ys ws := by
  have kl : ∀ {a : Nat} {xs}, h.IsList a xs → h'.IsList a xs := fun x => k.list x (F.offList x) (by simp)
  exact ⟨c.hse, c.hk, c.hg, c.hp, c.hw, c.hh, kl c.sL, kl c.kL, kl c.gL, kl c.rL, kl c.pL, c.lg, c.lr, c.lp, fun k hk => let ⟨vs, l, z⟩ := c.ig k hk; ⟨vs, kl l, z⟩, fun k hk => let ⟨vs, l, z⟩ := c.br k hk; ⟨vs, kl l, z⟩, c.B.kp F k, c.zs, c.vs, c.hser, c.hki⟩
theorem Chk.same {L h m m' sA kA gA rA pA W H nums ser gs rs ps ys ws} (c : Chk L h m sA kA gA rA pA W H nums ser gs rs ps ys ws) (s : Same2 m m') : Chk L h m' sA kA gA rA pA W H nums ser gs rs ps ys ws :=
  ⟨(s _ (by decide) (by decide)).trans c.hse, (s _ (by decide) (by decide)).trans c.hk, (s _ (by decide) (by decide)).trans c.hg, (s _ (by decide) (by decide)).trans c.hp, let ⟨t, e⟩ := c.hw; ⟨t, (s _ (by decide) (by decide)).trans e⟩, let ⟨t, e⟩ := c.hh; ⟨t, (s _ (by decide) (by decide)).trans e⟩,
    c.sL, c.kL, c.gL, c.rL, c.pL, c.lg, c.lr, c.lp, c.ig, c.br, c.B, c.zs, c.vs, c.hser, c.hki⟩
theorem giv_bit {nums : List Int} {i j : Nat} : 0 ≤ givB nums i j ∧ givB nums i j < 2 := by unfold givB; omega
section
variable {w : World} {A : Around} {E : Value → Shared → Prop} {s : Shared} {h : Heap} {tk : Tok} {L fa : Nat} {g : Heap} {m mg mb : Str → Option Value} {vn vi vj vr : Option Value}
variable {sA kA gA rA pA W H : Nat} {nums : List Int} {ser gs rs ps : List Nat} {ys : Array Value} {ws : List Value}
set_option maxHeartbeats 2000000 in
theorem chk_tail {Q : Flow → Shared → Prop} {i j : Nat} {ti tj tt : Tok} (F : LF L h m vn (some (.int i ti)) (some (.int j tj)) (some (.ref rA))) (c : Chk L h m sA kA gA rA pA W H nums ser gs rs ps ys ws) (hW : W ≤ 11) (hH : H ≤ 11) (iH : i < H) (jW : j < W)
    (ht : m "times" = some (.int (if regB nums i j = true then cnt ser i j else 0) tt)) (hq : ∀ tk', Q .next (sh s h tk')) :
    wpAny (model pw w) A (execs ((forBody chkFor).drop 2) (lawEnv L fa)) Q E (sh s h tk) := by
  refine wpAny_execs_cons (wpAny_If (wpAny_isTrue_Compare1 ?_))
  refine Subscript_ (Subscript_ (r_name F.ns c.hp (r_cell F.cI (r_item c.pL (by omega) (by omega) (by rw [Int.toNat_natCast]; exact refs_at (by rw [c.lp]; exact iH)) ?_))))
  refine r_cell F.cJ (ba_item (c.B i iH) (bytes_at jW) (by rw [bytes_size]; omega) fun _ _ => ?_)
  have bit := run_bit (reg := regB nums) (l := ser) (giv_bit (nums := nums) (i := i) (j := j))
  rw [byte_nat bit.1 (by omega), run_eq giv_bit]
  refine wpAny_BinOp (wpAny_BinOp (Subscript_ (Subscript_ (r_name F.ns c.hg (r_cell F.cI (r_item c.gL (by omega) (by omega) (by rw [Int.toNat_natCast]; exact refs_at (by rw [c.lg]; exact iH)) ?_))))))
  obtain ⟨vs, l, z, hv⟩ := c.ig i iH
  obtain ⟨v, hvj⟩ : ∃ v, vs[j]? = some v := ⟨_, Array.getElem?_eq_getElem (by omega)⟩
  obtain ⟨t, rfl⟩ := hv j v hvj
  refine r_cell F.cJ (r_item l (by omega) (by omega) (by rw [Int.toNat_natCast]; exact hvj) ?_)
  refine r_name F.ns ht (r_add fun _ _ => r_int fun _ _ => r_mod (by decide) fun _ _ => r_ne (r_truthy ?_))
  rw [if_neg (by simp)]
  exact wpAny_execs_nil (wpAny_execs_nil (hq _))
set_option maxHeartbeats 2000000 in
theorem chk_body {Q : Flow → Shared → Prop} {i j : Nat} {ti tj : Tok} (F : LF L h m vn (some (.int i ti)) (some (.int j tj)) (some (.ref rA))) (G : Gnd g L mg mb) (hs : Sub g h) (hA : A.handled = none) (hroom : A.depth < recursionLimit)
    (c : Chk L h m sA kA gA rA pA W H nums ser gs rs ps ys ws) (hW : W ≤ 11) (hH : H ≤ 11) (iH : i < H) (jW : j < W)
    (hq : ∀ h' tk' m', LF L h' m' vn (some (.int i ti)) (some (.int j tj)) (some (.ref rA)) → Same2 m m' → Kp L [] h h' → Q .next (sh s h' tk')) :
    wpAny (model pw w) A (execs (forBody chkFor) (lawEnv L fa)) Q E (sh s h tk) := by
  refine wpAny_execs_cons (wpAny_Assign_Name (r_int fun t0 _ => l_store F fun h1 tk1 F1 k1 => ?_))
  have s1 : Same2 m _ := Same2.refl.t (v := Value.int 0 t0)
  have c1 := (c.kp F k1).same s1
  have hs1 := G.kp0 hs k1
  refine wpAny_execs_cons (wpAny_If (wpAny_isTrue_value ?_ rfl))
  refine Subscript_ (Subscript_ (r_cell F1.cR (r_cell F1.cI (r_item c1.rL (by omega) (by omega) (by rw [Int.toNat_natCast]; exact refs_at (by rw [c.lr]; exact iH)) ?_))))
  obtain ⟨vs, l, z, hv⟩ := c1.br i iH
  obtain ⟨v, hvj⟩ : ∃ v, vs[j]? = some v := ⟨_, Array.getElem?_eq_getElem (by omega)⟩
  refine r_cell F1.cJ (r_item l (by omega) (by omega) (by rw [Int.toNat_natCast]; exact hvj) ?_)
  rw [hv j v hvj]
  refine r_truthy ?_
  cases hr : regB nums i j with
  | false =>
    rw [if_neg (by decide)]
    refine wpAny_execs_nil (chk_tail F1 c1 hW hH iH jW (tt := t0) ?_ fun tk' => hq h1 tk' _ F1 s1 k1)
    rw [hr]; rfl
  | true =>
    rw [if_pos rfl]
    refine wpAny_execs_cons ?_
    refine which_for (t0 := t0) F1 G hs1 hA hroom c1.hse c1.sL c1.zs c1.vs c1.hser c1.hk c1.kL c1.hki rfl fun h2 tk2 m2 t2 F2 s2 k2 ht2 => ?_
    refine wpAny_execs_nil (chk_tail F2 ((c1.kp F1 k2).same s2) hW hH iH jW (tt := t2) ?_ fun tk' => hq h2 tk' _ F2 (s1.trans s2) (k1.trans k2))
    rw [hr, ht2]; rfl
end
end Mine
end
section
namespace Mine
section
variable {w : World} {A : Around} {E : Value → Shared → Prop} {s : Shared} {h : Heap} {tk : Tok} {L fa : Nat} {g : Heap} {m mg mb : Str → Option Value} {vn vi vj vr : Option Value}
variable {sA kA gA rA pA W H : Nat} {nums : List Int} {ser gs rs ps : List Nat} {ys : Array Value} {ws : List Value}
set_option maxHeartbeats 2000000 in
theorem chk_for {Q : Flow → Shared → Prop} {i : Nat} {ti : Tok} (F : LF L h m vn (some (.int i ti)) vj (some (.ref rA))) (G : Gnd g L mg mb) (hs : Sub g h) (hA : A.handled = none) (hroom : A.depth < recursionLimit)
    (c : Chk L h m sA kA gA rA pA W H nums ser gs rs ps ys ws) (hW : W ≤ 11) (hH : H ≤ 11) (iH : i < H)
    (hq : ∀ h' tk' m' vj', LF L h' m' vn (some (.int i ti)) vj' (some (.ref rA)) → Same2 m m' → Kp L [] h h' → Q .next (sh s h' tk')) :
    wpAny (model pw w) A (exec chkFor (lawEnv L fa)) Q E (sh s h tk) := by
  obtain ⟨tw, hw⟩ := c.hw
  refine for_range (n := W) (by omega) hA (fun j h' => ∃ m' vj', LF L h' m' vn (some (.int i ti)) vj' (some (.ref rA)) ∧ Same2 m m' ∧ Kp L [] h h')
    (r_range hs G.ng G.nb G.nRange G.bRange (fun Q' hq => r_name F.ns hw (hq _ _)) rfl rfl rfl rfl)
    ⟨m, vj, F, Same2.refl, Kp.refl⟩
    (fun j h1 h2 ⟨m', v, a, b, c⟩ st => ⟨m', v, a.sub st, b, c.trans st.kp⟩)
    (fun j h1 h2 I x l st zI ⟨m', v, a, b, c⟩ it k2 => ⟨m', v, F.iter zI a k2, b, kp_iter zI c k2⟩)
    ?_ (fun h' tk' ⟨m', v, a, b, c⟩ => hq h' tk' m' v a b c)
  rintro j h1 tk1 tj I hj ⟨m', v, F1, s1, k1⟩ zI
  refine wpAny_assign_Name (l_storeJ F1 fun h2 F2 k2 => ?_)
  have k02 := k1.trans k2
  refine chk_body F2 G (G.kp0 hs k02) hA hroom ((c.kp F k02).same s1) hW hH iH hj fun h3 tk3 m3 F3 s3 k3 => ?_
  have oI := F.offNew zI
  exact ⟨h3, tk3, rfl, ⟨m3, _, F3, s1.trans s3, k02.trans k3⟩, fun o e => k3 _ _ oI (by simp) (k2 _ _ oI (by simp) e)⟩
set_option maxHeartbeats 2000000 in
theorem p13 {Q : Flow → Shared → Prop} (F : LF L h m vn vi vj (some (.ref rA))) (G : Gnd g L mg mb) (hs : Sub g h) (hA : A.handled = none) (hroom : A.depth < recursionLimit)
    (c : Chk L h m sA kA gA rA pA W H nums ser gs rs ps ys ws) (hW : W ≤ 11) (hH : H ≤ 11)
    (hq : ∀ h' tk' m' vi' vj', LF L h' m' vn vi' vj' (some (.ref rA)) → Same2 m m' → Kp L [] h h' → Q .next (sh s h' tk')) :
    wpAny (model pw w) A (exec (lawStmt 13) (lawEnv L fa)) Q E (sh s h tk) := by
  obtain ⟨th, hh⟩ := c.hh
  refine for_range (n := H) (by omega) hA (fun j h' => ∃ m' vi' vj', LF L h' m' vn vi' vj' (some (.ref rA)) ∧ Same2 m m' ∧ Kp L [] h h')
    (r_range hs G.ng G.nb G.nRange G.bRange (fun Q' hq => r_name F.ns hh (hq _ _)) rfl rfl rfl rfl)
    ⟨m, vi, vj, F, Same2.refl, Kp.refl⟩
    (fun j h1 h2 ⟨m', v, u, a, b, c⟩ st => ⟨m', v, u, a.sub st, b, c.trans st.kp⟩)
    (fun j h1 h2 I x l st zI ⟨m', v, u, a, b, c⟩ it k2 => ⟨m', v, u, F.iter zI a k2, b, kp_iter zI c k2⟩)
    ?_ (fun h' tk' ⟨m', v, u, a, b, c⟩ => hq h' tk' m' v u a b c)
  rintro i h1 tk1 ti I hi ⟨m', v, u, F1, s1, k1⟩ zI
  refine wpAny_assign_Name (l_storeI F1 fun h2 F2 k2 => ?_)
  have k02 := k1.trans k2
  refine wpAny_execs_cons ?_
  refine chk_for F2 G (G.kp0 hs k02) hA hroom ((c.kp F k02).same s1) hW hH hi fun h3 tk3 m3 vj3 F3 s3 k3 => ?_
  have oI := F.offNew zI
  exact wpAny_execs_nil ⟨h3, tk3, rfl, ⟨m3, _, _, F3, s1.trans s3, k02.trans k3⟩, fun o e => k3 _ _ oI (by simp) (k2 _ _ oI (by simp) e)⟩
end
end Mine
end
section
namespace Mine
section
variable {w : World} {A : Around} {E : Value → Shared → Prop} {s : Shared} {h : Heap} {tk : Tok} {L fa : Nat} {g : Heap} {m mg mb : Str → Option Value} {vn vi vj vr : Option Value}
variable {sA kA gA rA pA W H : Nat} {nums : List Int} {ser gs rs ps : List Nat} {ys : Array Value} {ws : List Value}
set_option maxHeartbeats 2000000 in
theorem p14 {Q : Flow → Shared → Prop} {o23 o46 : Obj} (F : LF L h m vn vi vj vr) (G : Gnd g L mg mb) (hs : Sub g h) (hA : A.handled = none) (hu : A.units + 64 < cLine) (hL : 46 < L)
    (c : Chk L h m sA kA gA rA pA W H nums ser gs rs ps ys ws) (hW : W ≤ 11) (hH : H ≤ 11) (e23 : h.get? 23 = some o23) (e46 : h.get? 46 = some o46)
    (hq : ∀ h' tk', Sub g h' → h'.get? 23 = some o23 → h'.get? 46 = some o46 → Q (.ret (.bool true)) (sh s h' tk')) :
    wpAny (model pw w) A (exec (lawStmt 14) (lawEnv L fa)) Q E (sh s h tk) := by
  obtain ⟨tw, hw⟩ := c.hw
  obtain ⟨th, hh⟩ := c.hh
  have hsl : sizeLine = 2 ^ 24 := rfl
  refine wpAny_Return_some (wpAny_Compare1 ?_)
  refine wpAny_of (r_compList along_any (items := (ps.map Value.ref).toArray) hA rfl (by decide) rfl (by decide) rfl ?z1 (fun i y _ => ∃ t, y = .int (W : Int) t) (fun _ _ _ _ a _ => a) (r_name F.ns c.hp ⟨pA, h, _, rfl, rfl, Sub.refl _, c.pL⟩) (fun C i v h3 m3 tk3 hv ns3 mx st3 => wpP_of ?elt1) fun h1 tk1 D ys1 zD eD zD1 vD s1 => ?_)
  case z1 => rw [List.size_toArray, List.length_map, c.lp]; omega
  case elt1 =>
    have hi : i < H := by
      have := (Array.getElem?_eq_some_iff.mp hv).1
      rw [List.size_toArray, List.length_map, c.lp] at this; exact this
    rw [refs_at (by rw [c.lp]; exact hi)] at hv
    cases hv
    have hs3 := hs.trans st3
    refine r_call1 (fun Q' hq => r_builtin (hs3.ns G.ng) G.nLen (hs3.ns G.nb) G.bLen hq) (r_name ns3 mx ?_)
    refine ba_len ((c.B i hi).isBA st3.ba) (by rw [bytes_size]; omega) fun t tk' => ?_
    rw [bytes_size]
    exact ⟨h3, tk', rfl, Sub.refl _, t, rfl⟩
  have F1 := F.sub s1
  refine wpAny_BinOp (List_ (r_argN (r_name F1.ns hw (r_args ?_))))
  refine wpAny_newList (s := sh s h1 tk1) ?_ (by show 1 ≤ sizeLine; omega)
  have s2 : Sub h1 (h1.push { cls := .type "list", data := .seq #[Value.int (W : Int) tw] }) := Sub.push _ _
  have hnew : (h1.push { cls := .type "list", data := .seq #[Value.int (W : Int) tw] }).get? h1.objs.size = some { cls := .type "list", dict := none, data := .seq #[Value.int (W : Int) tw], slots := #[] } := Heap.get?_push_size _ rfl
  show wpAny _ _ _ _ _ (sh s (h1.push { cls := .type "list", data := .seq #[Value.int (W : Int) tw] }) tk1)
  generalize h1.push { cls := .type "list", data := .seq #[Value.int (W : Int) tw] } = h2 at s2 hnew ⊢
  have F2 := F1.sub s2
  refine r_name F2.ns hh ?_
  have hs2 := (hs.trans s1).trans s2
  obtain ⟨oD, eoD, cD, nD, dD⟩ := id eD
  have hDL : D ≠ L := by obtain ⟨o, es, n, e, _⟩ := F.ns; exact ne_fresh zD e
  have gD : g.get? D = none := by
    cases q : g.get? D with
    | none => rfl
    | some o => have := hs _ _ q; rw [zD] at this; cases this
  have N : News g L h2 [(D, oD), (23, o23), (46, o46)] := fun p hp => by
    rcases List.mem_cons.mp hp with rfl | hp
    · exact ⟨s2 _ _ eoD, hDL, gD⟩
    rcases List.mem_cons.mp hp with rfl | hp
    · exact ⟨s2 _ _ (s1 _ _ e23), show (23 : Nat) ≠ L by omega, G.t23⟩
    rcases List.mem_cons.mp hp with rfl | hp
    · exact ⟨s2 _ _ (s1 _ _ e46), show (46 : Nat) ≠ L by omega, G.t46⟩
    · cases hp
  refine mul_list_carried (s := sh s h2 tk1) (ds := [.int (W : Int)]) ⟨F2.ns, hs2, G.small⟩ N hnew rfl (.cons (.int _ _) .nil) (by omega) (by omega) (by simp; omega) fun h4 F4 N4 z4 e4 _ => ?_
  have n1 := N4 _ (.head _)
  have n2 := N4 _ (.tail _ (.head _))
  have n3 := N4 _ (.tail _ (.tail _ (.head _)))
  rw [Int.toNat_natCast, lm_rep_flat_one] at e4
  refine r_eqSame (ds := List.replicate H (PyData.int (W : Int))) (vs := ys1) ⟨oD, n1.1, cD, nD, dD⟩ e4 ?_ ?_ ?_ ?_ ?_ hu (hq h4 _ F4.keep n2.1 n3.1)
  · rw [List.length_replicate]; rw [zD1, List.size_toArray, List.length_map, c.lp]
  · simp
  · intro d hd; rw [List.eq_of_mem_replicate hd]; rfl
  · intro i v d a b
    obtain ⟨t, rfl⟩ := vD i v a
    rw [List.eq_of_mem_replicate (List.mem_of_getElem? b)]
    exact .int _ _
  · intro i v d a b
    rw [List.eq_of_mem_replicate (List.mem_of_getElem? b)]
    have : v = Value.int (W : Int) tw := by
      simp only [List.getElem?_toArray] at a
      exact List.eq_of_mem_replicate (List.mem_of_getElem? a)
    rw [this]; exact .int _ _
end
end Mine
end
section
namespace Mine
section
variable {P : Ctx → Prop} {M : Model} {A : Around} {E : Value → Shared → Prop} {s : Shared} {env : Env}
theorem wpP_execs_cons {st rest} {Q : Flow → Shared → Prop}
    (h : wpP P M A (exec st env) (fun f s' => match f with | .next => wpP P M A (execs rest env) Q E s' | f => Q f s') E s) :
    wpP P M A (execs (st :: rest) env) Q E s := fun Γ p hΓ hf => by
  rw [execs_cons, Sem.wp_bind']
  refine Sem.wp_mono M Γ _ (fun f p' s' h' => ?_) (fun _ _ _ h' => h') _ _ (h Γ p hΓ hf)
  cases f <;> first | exact h' Γ p' hΓ hf | exact h'
end
theorem law_body_eq : bodyOf lawDef = [lawStmt 0, lawStmt 1, lawStmt 2, lawStmt 3, lawStmt 4, lawStmt 5, lawStmt 6, lawStmt 7, lawStmt 8, lawStmt 9, lawStmt 10, lawStmt 11, lawStmt 12, lawStmt 13, lawStmt 14] := rfl
end Mine
end
section
namespace Mine
section
variable {P : Ctx → Prop} {prog : Program} {w : World} {A : Around} {s : Shared} {R : Result → Shared → Prop}
theorem codeP_func (al : Along P) {body env}
    (h : wpP P (model prog w) (A.deeper env) (execs body env) (fun f s' => R (.ok (.ret (match f with | .ret v => v | _ => .none))) s') (fun _ _ => False) s) :
    codeP P (model prog w) A (.func body env) R s := by
  refine codeP_of_tree al ?_
  show wpP P _ (A.deeper env) (do point; match ← (execs body env).onRaise (leaving env) with | .ret v => ret v | _ => ret .none) _ _ s
  refine wpP_bind (wpP_of (wpAny_point (show wpP P _ _ _ _ _ _ from wpP_bind (wpP_onRaise (wpP_mono h (fun f s' h' => ?_) fun _ _ h' => h')))))
  cases f <;> exact wpP_pure h'
theorem codeP_call_cells (al : Along P) {a : Addr} {o : Obj} {fd : FuncData} {body : List Stmt} {vals : List Value} {binds : List (Str × Value)}
    (hroom : A.depth < recursionLimit) (ho : s.heap.get? a = some o) (hdata : o.data = .func fd) (hlim : s.heap.NoLimit) (hcd : s.heap.CodeRec fd.code fd.qualname)
    (hbody : fd.body = .stmts body) (hbind : bindArgs fd ⟨vals, []⟩ = pure binds) (hclo : fd.closure = [])
    (hkind : ∀ x ∈ binds, fd.scope.names.lookup x.1 = some .local ∨ (fd.scope.names.lookup x.1 = some .cell ∧ ((cellsFrom (s.heap.objs.size + 1) fd.scope.names []).lookup x.1).isSome = true))
    (h : ∀ s₁, InCallC s (callEnvC fd s.heap.objs.size a).locals (bindL (callEnvC fd s.heap.objs.size a).kindOf binds fun _ => none) (callEnvC fd s.heap.objs.size a).cells
        (bindC (callEnvC fd s.heap.objs.size a).kindOf binds fun _ => none) s₁ →
      wpP P (model prog w) (A.deeper (callEnvC fd s.heap.objs.size a)) (execs body (callEnvC fd s.heap.objs.size a)) (fun f s' => R (.ok (.ret (match f with | .ret v => v | _ => .none))) s') (fun _ _ => False) s₁)
    (hco : fd.scope.isCoroutine = false := by rfl) (hgen : fd.scope.isGenerator = false := by rfl) (hk : fd.scope.kind = .function := by rfl) :
    codeP P (model prog w) A (.call (.ref a) ⟨vals, []⟩) R s := by
  refine codeP_of_tree al (wpP_of ?_)
  show wpAny _ A.in1 (callAny (.ref a) ⟨vals, []⟩) _ _ s
  simp only [callAny]
  refine wpAny_bind (wpAny_load ho ?_)
  obtain ⟨c, oc, vs, tq, hc, hoc, hdc, hq⟩ := hcd
  simp only [hdata, callFunction, hco, hgen, hbody, hc]
  refine wpAny_bind (m := field (.ref c) 1) (wpAny_field hoc hdc hq (wpAny_bind (wpAny_pure ?_)))
  rw [hbind, hclo]
  refine wpAny_bind (wpAny_pure (wpAny_bind (wpAny_newFunctionEnv_cells hk hkind fun env he s' x => wpAny_bind (wpAny_enterFrame (hlim.keeps x.toInCall.keep) hroom (wpAny_pure ?_)))))
  subst he
  refine ⟨⟨rfl, rfl⟩, codeP_func al ?_⟩
  rw [← hc]
  have := h s'
  unfold callEnvC at this
  exact this x
end
end Mine
end
section
namespace Mine
section
variable {w : World} {A : Around} {s : Shared} {h : Heap} {tk : Tok} {L fa : Nat} {g : Heap} {m mg mb : Str → Option Value}
set_option maxHeartbeats 4000000 in
theorem law_end {Q : Flow → Shared → Prop} {E : Value → Shared → Prop} {vn vi vj : Option Value} {nA mA kA gA rA W H : Nat} {us ws : List Value} {nums : List Int} {fs gs rs : List Nat} {p23 : Array Value} {tw th : Tok} (F : LF L h m vn vi vj (some (.ref rA))) (G : Gnd g L mg mb) (hs : Sub g h) (hnL : h.IsList nA us.toArray) (hni : IntsAre us nums) (hl : nums.length ≤ 63 ∧ 4 ≤ nums.length)
    (r1 : m "numbers" = some (.ref nA)) (r2 : m "masks" = some (.ref mA)) (r3 : m "kinds" = some (.ref kA)) (r4 : m "wide" = some (.int (W : Int) tw)) (r5 : m "high" = some (.int (H : Int) th)) (r6 : m "given" = some (.ref gA)) (hmL : h.IsList mA (fs.map Value.ref).toArray) (hfl : fs.length = 12) (hfm : ∀ k < 12, MaskFn h (fs.getD k 0) (kindsL.getD k 0)) (hkL : h.IsList kA ws.toArray) (hki : IntsAre ws (kindsL.map Int.ofNat))
    (gL : h.IsList gA (gs.map Value.ref).toArray) (rL : h.IsList rA (rs.map Value.ref).toArray) (lg : gs.length = H) (lr : rs.length = H) (ig : ∀ k < H, IRow h (gs.getD k 0) W (givB nums k)) (br : ∀ k < H, BRow h (rs.getD k 0) W (regB nums k)) (hW : W ≤ 11) (hH : H ≤ 11)
    (hA : A.handled = none) (hroom : A.depth + 1 < recursionLimit) (hu : A.units + 64 < cLine) (hL : 46 < L) (e23 : h.get? 23 = some (tabObj p23)) (e46 : h.get? 46 = some (tabObj #[]))
    (hq : ∀ h' tk' p23 p46, Sub g h' → h'.get? 23 = some (tabObj p23) → h'.get? 46 = some (tabObj p46) → Q (.ret (.bool true)) (sh s h' tk')) :
    wpF (model pw w) A (execs [lawStmt 10, lawStmt 11, lawStmt 12, lawStmt 13, lawStmt 14] (lawEnv L fa)) Q E (sh s h tk) := by
  have hr0 : A.depth < recursionLimit := by omega
  have h23L : 23 < L := by omega
  have set : ∀ {m : Str → Option Value} {x : Str} {v : Value} (y : Str) {u}, y ≠ x → m y = some u → (fun z => if z = x then some v else m z) y = some u := fun y _ hy e => (if_neg hy).trans e
  -- 10
  with_reducible refine wpP_execs_cons ?_
  with_reducible refine wpP_of ?_
  with_reducible refine p10 F hA r1 hnL hni hl.1 ?_
  intro h1 tk1 sA ys F1 k1 sL zs vs zsA
  dsimp only
  have kl1 : ∀ {b : Nat} {xs}, h.IsList b xs → h1.IsList b xs := fun x => k1.list x (F.offList x) (by simp)
  have hs1 := G.kp0 hs k1
  have a2 := set (x := "series") (v := .ref sA) "masks" (by decide) r2
  have a3 := set (x := "series") (v := .ref sA) "kinds" (by decide) r3
  have a4 := set (x := "series") (v := .ref sA) "wide" (by decide) r4
  have a5 := set (x := "series") (v := .ref sA) "high" (by decide) r5
  have a6 := set (x := "series") (v := .ref sA) "given" (by decide) r6
  have a7 : (fun y : Str => if y = "series" then some (Value.ref sA) else m y) "series" = some (.ref sA) := if_pos rfl
  generalize (fun y : Str => if y = "series" then some (Value.ref sA) else m y) = m1 at F1 a2 a3 a4 a5 a6 a7
  have ig1 : ∀ k < H, IRow h1 (gs.getD k 0) W (givB nums k) := fun k hk => let ⟨vs, l, z⟩ := ig k hk; ⟨vs, kl1 l, z⟩
  have gL1 := kl1 gL
  -- 11
  with_reducible refine wpP_execs_cons ?_
  with_reducible refine p11 F1 G hs1 hA a6 gL1 lg ig1 hW hH ?_
  intro h2 tk2 pA ps F2 k2 P2 zpA
  dsimp only
  have k02 : Kp L [] h h2 := k1.trans k2
  have kl2 : ∀ {b : Nat} {xs}, h.IsList b xs → h2.IsList b xs := fun x => k02.list x (F.offList x) (by simp)
  have hs2 := G.kp0 hs k02
  have b2 := set (x := "picture") (v := .ref pA) "masks" (by decide) a2
  have b3 := set (x := "picture") (v := .ref pA) "kinds" (by decide) a3
  have b4 := set (x := "picture") (v := .ref pA) "wide" (by decide) a4
  have b5 := set (x := "picture") (v := .ref pA) "high" (by decide) a5
  have b6 := set (x := "picture") (v := .ref pA) "given" (by decide) a6
  have b7 := set (x := "picture") (v := .ref pA) "series" (by decide) a7
  have b8 : (fun y : Str => if y = "picture" then some (Value.ref pA) else m1 y) "picture" = some (.ref pA) := if_pos rfl
  generalize (fun y : Str => if y = "picture" then some (Value.ref pA) else m1 y) = m2 at F2 b2 b3 b4 b5 b6 b7 b8
  have sL2 := k2.list sL (F1.offList sL) (by simp)
  have T2 : Tab46 h2 := .inl (k02 _ _ (.inl hL) (by simp) e46)
  have e232 := k02 _ _ (.inl h23L) (by simp) e23
  have hfm2 : ∀ k < 12, MaskFn h2 (fs.getD k 0) (kindsL.getD k 0) := fun k hk => (hfm k hk).kp0 F k02
  have B2 : Bits h2 ps W H (givB nums) := P2.bp
  have br2 : ∀ k < H, BRow h2 (rs.getD k 0) W (regB nums k) := fun k hk => let ⟨vs, l, z⟩ := br k hk; ⟨vs, kl2 l, z⟩
  have ig2 : ∀ k < H, IRow h2 (gs.getD k 0) W (givB nums k) := fun k hk => let ⟨vs, l, z⟩ := ig k hk; ⟨vs, kl2 l, z⟩
  have dp : ∀ a b, a < H → b < H → ps.getD a 0 = ps.getD b 0 → a = b := fun a b ha hb e => by
    rcases Nat.lt_trichotomy a b with q | q | q
    · exact absurd e (P2.dp a b q hb)
    · exact q
    · exact absurd e.symm (P2.dp b a q ha)
  have gP : ∀ p ∈ ps, g.get? p = none := fun p hp => by
    obtain ⟨k, hk, rfl⟩ := getD_of_mem P2.lp hp
    cases q : g.get? (ps.getD k 0) with
    | none => rfl
    | some o => have := hs1 _ _ q; rw [P2.np k hk] at this; cases this
  have hF : ∀ i < H, ∀ j < W, 0 ≤ givB nums i j ∧ givB nums i j < 2 := fun i _ j _ => giv_bit
  have hser : ∀ k ∈ serOf nums, k < 12 := fun k hk => ser_lt hk
  have mL2 := kl2 hmL
  have rL2 := kl2 rL
  have kL2 := kl2 hkL
  have gL2 := kl2 gL
  -- 12
  with_reducible refine wpP_execs_cons ?_
  with_reducible refine wpP_of ?_
  with_reducible refine p12 F2 G hs2 hA hroom hL T2 b7 sL2 zs vs hser b8 b2 b4 b5 mL2 hfl hfm2 rL2 lr br2 hW hH B2 P2.pp hF P2.lp dp gP ?_
  intro h3 tk3 m3 F3 sm3 k3 T3 B3
  dsimp only
  have kl3 : ∀ {b : Nat} {xs}, h2.IsList b xs → h3.IsList b xs := fun x => k3.list x (F2.offList x) (off_list T2 B2 P2.lp x)
  have hs3 := G.kp hs2 k3 (fun x hx => by
    rcases List.mem_cons.mp hx with rfl | hx
    · exact G.t46
    · exact gP x hx)
  have c3 : Chk L h3 m3 sA kA gA rA pA W H nums (serOf nums) gs rs ps ys ws :=
    ⟨(sm3 _ (by decide)).trans b7, (sm3 _ (by decide)).trans b3, (sm3 _ (by decide)).trans b6, (sm3 _ (by decide)).trans b8, ⟨tw, (sm3 _ (by decide)).trans b4⟩, ⟨th, (sm3 _ (by decide)).trans b5⟩,
      kl3 sL2, kl3 kL2, kl3 gL2, kl3 rL2, kl3 P2.pp, lg, lr, P2.lp, fun k hk => let ⟨vs, l, z⟩ := ig2 k hk; ⟨vs, kl3 l, z⟩, fun k hk => let ⟨vs, l, z⟩ := br2 k hk; ⟨vs, kl3 l, z⟩, B3, zs, vs, hser, hki⟩
  have e233 : h3.get? 23 = some (tabObj p23) := k3 _ _ (.inl h23L) (fun q => by
    rcases List.mem_cons.mp q with q | q
    · cases q
    · exact B2.notMem P2.lp e232 (fun _ _ d => by injection d) q) e232
  obtain ⟨p46, e463⟩ := T3.at
  -- 13
  with_reducible refine wpP_execs_cons ?_
  with_reducible refine wpP_of ?_
  with_reducible refine p13 F3 G hs3 hA hr0 c3 hW hH ?_
  intro h4 tk4 m4 vi4 vj4 F4 sm4 k4
  dsimp only
  have hs4 := G.kp0 hs3 k4
  have e234 := k4 _ _ (.inl h23L) (by simp) e233
  have e464 := k4 _ _ (.inl hL) (by simp) e463
  -- 14
  with_reducible refine wpP_execs_cons ?_
  with_reducible refine wpP_of ?_
  with_reducible refine p14 F4 G hs4 hA hu hL ((c3.kp F3 k4).same sm4) hW hH e234 e464 ?_
  intro h5 tk5 s5 e235 e465
  exact hq h5 tk5 p23 p46 s5 e235 e465
set_option maxHeartbeats 4000000 in
theorem law_tail {Q : Flow → Shared → Prop} {E : Value → Shared → Prop} {vn vi vj : Option Value} {nA mA kA : Nat} {us ws : List Value} {nums : List Int} {fs : List Nat} {p23 : Array Value} (F : LF L h m vn vi vj none) (G : Gnd g L mg mb) (hs : Sub g h) (hnL : h.IsList nA us.toArray) (hni : IntsAre us nums) (hl : nums.length ≤ 63 ∧ 4 ≤ nums.length)
    (r1 : m "numbers" = some (.ref nA)) (r2 : m "masks" = some (.ref mA)) (r3 : m "kinds" = some (.ref kA)) (hmL : h.IsList mA (fs.map Value.ref).toArray) (hfl : fs.length = 12) (hfm : ∀ k < 12, MaskFn h (fs.getD k 0) (kindsL.getD k 0)) (hkL : h.IsList kA ws.toArray) (hki : IntsAre ws (kindsL.map Int.ofNat))
    (hA : A.handled = none) (hroom : A.depth + 1 < recursionLimit) (hu : A.units + 64 < cLine) (hL : 46 < L) (e23 : h.get? 23 = some (tabObj p23)) (e46 : h.get? 46 = some (tabObj #[]))
    (hq : ∀ h' tk' p23 p46, Sub g h' → h'.get? 23 = some (tabObj p23) → h'.get? 46 = some (tabObj p46) → Q (.ret (.bool true)) (sh s h' tk')) :
    wpF (model pw w) A (execs [lawStmt 5, lawStmt 6, lawStmt 7, lawStmt 8, lawStmt 9, lawStmt 10, lawStmt 11, lawStmt 12, lawStmt 13, lawStmt 14] (lawEnv L fa)) Q E (sh s h tk) := by
  have hr0 : A.depth < recursionLimit := by omega
  have h23L : 23 < L := by omega
  obtain ⟨W, hW⟩ : ∃ W : Nat, (4 + nums.getD 0 0 % 8 : Int) = (W : Int) := ⟨(4 + nums.getD 0 0 % 8).toNat, by omega⟩
  obtain ⟨H, hH⟩ : ∃ H : Nat, (4 + nums.getD 1 0 % 8 : Int) = (H : Int) := ⟨(4 + nums.getD 1 0 % 8).toNat, by omega⟩
  have hW11 : W ≤ 11 := by omega
  have hH11 : H ≤ 11 := by omega
  have set : ∀ {m : Str → Option Value} {x : Str} {v : Value} (y : Str) {u}, y ≠ x → m y = some u → (fun z => if z = x then some v else m z) y = some u := fun y _ hy e => (if_neg hy).trans e
  -- 5
  with_reducible refine wpP_execs_cons ?_
  with_reducible refine wpP_of ?_
  with_reducible refine p5 F r1 hnL hni hl.2 ?_
  intro h5 tk5 tw F5 k5
  dsimp only
  rw [hW] at F5
  have kl5 : ∀ {b : Nat} {xs}, h.IsList b xs → h5.IsList b xs := fun x => k5.list x (F.offList x) (by simp)
  have a1 := set (x := "wide") (v := .int (W : Int) tw) "numbers" (by decide) r1
  have a2 := set (x := "wide") (v := .int (W : Int) tw) "masks" (by decide) r2
  have a3 := set (x := "wide") (v := .int (W : Int) tw) "kinds" (by decide) r3
  have a4 : (fun y : Str => if y = "wide" then some (Value.int (W : Int) tw) else m y) "wide" = some (.int (W : Int) tw) := if_pos rfl
  generalize (fun y : Str => if y = "wide" then some (Value.int (W : Int) tw) else m y) = m5 at F5 a1 a2 a3 a4
  -- 6
  with_reducible refine wpP_execs_cons ?_
  with_reducible refine wpP_of ?_
  with_reducible refine p6 F5 a1 (kl5 hnL) hni hl.2 ?_
  intro h6 tk6 th F6 k6
  dsimp only
  rw [hH] at F6
  have k06 : Kp L [] h h6 := k5.trans k6
  have b1 := set (x := "high") (v := .int (H : Int) th) "numbers" (by decide) a1
  have b2 := set (x := "high") (v := .int (H : Int) th) "masks" (by decide) a2
  have b3 := set (x := "high") (v := .int (H : Int) th) "kinds" (by decide) a3
  have b4 := set (x := "high") (v := .int (H : Int) th) "wide" (by decide) a4
  have b5 : (fun y : Str => if y = "high" then some (Value.int (H : Int) th) else m5 y) "high" = some (.int (H : Int) th) := if_pos rfl
  generalize (fun y : Str => if y = "high" then some (Value.int (H : Int) th) else m5 y) = m6 at F6 b1 b2 b3 b4 b5
  -- 7
  with_reducible refine wpP_execs_cons ?_
  with_reducible refine wpP_of ?_
  with_reducible refine p7 F6 ?_
  intro h7 tk7 gA F7 k7 pg zg
  dsimp only
  have k07 : Kp L [] h h7 := k06.trans k7
  have c1 := set (x := "given") (v := .ref gA) "numbers" (by decide) b1
  have c2 := set (x := "given") (v := .ref gA) "masks" (by decide) b2
  have c3 := set (x := "given") (v := .ref gA) "kinds" (by decide) b3
  have c4 := set (x := "given") (v := .ref gA) "wide" (by decide) b4
  have c5 := set (x := "given") (v := .ref gA) "high" (by decide) b5
  have c6 : (fun y : Str => if y = "given" then some (Value.ref gA) else m6 y) "given" = some (.ref gA) := if_pos rfl
  generalize (fun y : Str => if y = "given" then some (Value.ref gA) else m6 y) = m7 at F7 c1 c2 c3 c4 c5 c6
  -- 8
  with_reducible refine wpP_execs_cons ?_
  with_reducible refine wpP_of ?_
  with_reducible refine p8 F7 ?_
  intro h8 tk8 rA F8 k8 pr zr
  dsimp only
  have k08 : Kp L [] h h8 := k07.trans k8
  have kl8 : ∀ {b : Nat} {xs}, h.IsList b xs → h8.IsList b xs := fun x => k08.list x (F.offList x) (by simp)
  have hs8 := G.kp0 hs k08
  have zg0 : h.get? gA = none := F6.fresh k06 zg (by simp)
  have zr0 : h.get? rA = none := F7.fresh k07 zr (by simp)
  have gz : ∀ {b : Nat}, h.get? b = none → g.get? b = none := fun {b} z => by
    cases q : g.get? b with
    | none => rfl
    | some o => have := hs _ _ q; rw [z] at this; cases this
  have pg8 : PlainL h8 gA #[] := plain_kp pg F7 k8 (by simp)
  have hgr : gA ≠ rA := by
    obtain ⟨o, n, e, _⟩ := pg
    exact (ne_fresh zr e).symm
  have nz : ∀ {b c : Nat} {xs}, h.IsList b xs → h.get? c = none → b ≠ c := fun {b c xs} x z => by
    obtain ⟨o, e, _⟩ := x
    exact (ne_fresh z e).symm
  -- 9
  have l0 : 0 < nums.length := by omega
  with_reducible refine wpP_execs_cons ?_
  with_reducible refine wpP_of ?_
  with_reducible refine p9 F8 G hs8 hA c1 c4 c5 c6 (kl8 hnL) hni l0 hl.1 hW11 hH11 pg8 pr hgr (gz zg0) (gz zr0) (nz hnL zg0) (nz hnL zr0) ?_
  intro h9 tk9 vn9 vi9 gs rs F9 k9 R9
  dsimp only
  have kX : ∀ b o, b < L ∨ L + 4 < b → h.get? b = some o → h9.get? b = some o := fun b o hb e => k9 _ _ hb (by
    intro q
    rcases List.mem_cons.mp q with rfl | q
    · rw [zg0] at e; cases e
    · rcases List.mem_cons.mp q with rfl | q
      · rw [zr0] at e; cases e
      · cases q) (k08 _ _ hb (by simp) e)
  have k09 : Kp L [] h h9 := fun b o hb _ e => kX b o hb e
  have kl9 : ∀ {b : Nat} {xs}, h.IsList b xs → h9.IsList b xs := fun x => k09.list x (F.offList x) (by simp)
  have hs9 := G.kp0 hs k09
  have hfm9 : ∀ k < 12, MaskFn h9 (fs.getD k 0) (kindsL.getD k 0) := fun k hk => (hfm k hk).kp0 F k09
  have e239 := k09 _ _ (.inl h23L) (by simp) e23
  have e469 := k09 _ _ (.inl hL) (by simp) e46
  exact law_end F9 G hs9 (kl9 hnL) hni hl c1 c2 c3 c4 c5 c6 (kl9 hmL) hfl hfm9 (kl9 hkL) hki R9.pg.isList R9.pr.isList R9.lg R9.lr R9.ig R9.br hW11 hH11 hA hroom hu hL e239 e469 hq
set_option maxHeartbeats 4000000 in
theorem law_body {Q : Flow → Shared → Prop} {E : Value → Shared → Prop} {a : Nat} {vs : List Value} {ns : List Int} (F : LF L h m none none none none) (G : Gnd g L mg mb) (hs : Sub g h) (hm : m "script" = some (.ref a)) (ha : h.IsList a vs.toArray) (hi : IntsAre vs ns) (hn : ns.length ≤ 63) (hbits : ∀ n ∈ ns, Builtin.Int.intBits n ≤ 2 ^ 20)
    (hA : A.handled = none) (hroom : A.depth + 1 < recursionLimit) (hu : A.units + 64 < cLine) (hL : 46 < L) (e23 : h.get? 23 = some (tabObj #[])) (e46 : h.get? 46 = some (tabObj #[]))
    (hq : ∀ h' tk' p23 p46, Sub g h' → h'.get? 23 = some (tabObj p23) → h'.get? 46 = some (tabObj p46) → Q (.ret (.bool true)) (sh s h' tk')) :
    wpF (model pw w) A (execs (bodyOf lawDef) (lawEnv L fa)) Q E (sh s h tk) := by
  rw [law_body_eq]
  with_reducible refine wpP_execs_cons ?_
  with_reducible refine wpP_of ?_
  with_reducible refine p0 F G hs hm ha hi hn ?_
  intro h0 tk0 nA us F0 k0 hnL hni
  dsimp only
  have hs0 := G.kp0 hs k0
  have l0 : (numsOf ns).length ≤ 63 ∧ 4 ≤ (numsOf ns).length := by
    unfold numsOf; rw [List.length_append, List.length_take, List.length_drop]; simp only [List.length_cons, List.length_nil]; omega
  have hb0 : ∀ n ∈ numsOf ns, Builtin.Int.intBits n ≤ 2 ^ 20 := fun n hn => by
    unfold numsOf at hn
    rcases List.mem_append.mp hn with hn | hn
    · exact hbits n (List.mem_of_mem_take hn)
    · have := List.mem_of_mem_drop hn
      have q : ∀ n ∈ ([0, 1, 2, 3] : List Int), Builtin.Int.intBits n ≤ 2 ^ 20 := by decide +kernel
      exact q n this
  generalize numsOf ns = nums at hni l0 hb0
  have h23L : 23 < L := by omega
  have hr0 : A.depth < recursionLimit := by omega
  have k0t : ∀ t : Nat, (t = 23 ∨ t = 46) → ∀ o, h.get? t = some o → h0.get? t = some o := fun t ht o e => k0 _ _ (.inl (by omega)) (by simp) e
  have e230 := k0t 23 (.inl rfl) _ e23
  have e460 := k0t 46 (.inr rfl) _ e46
  clear k0t
  -- 1
  with_reducible refine wpP_execs_cons ?_
  with_reducible refine wpP_of ?_
  with_reducible refine p1 F0 G hs0 h23L e230 hr0 ?_
  intro h1 tk1 mA fs p23 F1 k1 e231 hfl hmL hfm
  dsimp only
  have nX1 : ∀ {b : Nat} {xs}, h0.IsList b xs → b ∉ [23] := fun {b xs} x q => by
    obtain ⟨o, e, c, n, d⟩ := x
    have : b = 23 := by simpa using q
    subst this
    rw [e230] at e; injection e with e; subst e; injection d
  have hs1 := G.kp hs0 k1 (fun x hx => by
    have : x = 23 := by simpa using hx
    rw [this]; exact G.t23)
  have e461 : h1.get? 46 = some (tabObj #[]) := k1 _ _ (.inl hL) (by decide) e460
  have hnL1 := k1.list hnL (F0.offList hnL) (nX1 hnL)
  -- 2
  with_reducible refine wpP_execs_cons ?_
  with_reducible refine wpP_of ?_
  with_reducible refine p2 F1 ?_
  intro h2 tk2 kA ws F2 k2 hkL hki
  dsimp only
  have hs2 := G.kp0 hs1 k2
  have hnL2 := k2.list hnL1 (F1.offList hnL1) (by simp)
  have hmL2 := k2.list hmL (F1.offList hmL) (by simp)
  have hfm2 : ∀ k < 12, MaskFn h2 (fs.getD k 0) (kindsL.getD k 0) := fun k hk => (hfm k hk).kp0 F1 k2
  have e232 := k2 _ _ (.inl h23L) (by simp) e231
  have e462 := k2 _ _ (.inl hL) (by simp) e461
  generalize hm2 : (fun y : Str => if y = "kinds" then some (Value.ref kA) else if y = "masks" then some (Value.ref mA) else if y = "numbers" then some (Value.ref nA) else m y) = m2
  have q1 : m2 "numbers" = some (.ref nA) := by rw [← hm2]; rfl
  have q2 : m2 "masks" = some (.ref mA) := by rw [← hm2]; rfl
  have q3 : m2 "kinds" = some (.ref kA) := by rw [← hm2]; rfl
  have F2' : LF L h2 m2 none none none none := by rw [← hm2]; exact F2
  clear F2 hm2
  -- 3
  have hml : (fs.map Value.ref).length = 12 := by rw [List.length_map, hfl]
  with_reducible refine wpP_execs_cons ?_
  with_reducible refine wpP_of ?_
  with_reducible refine p3 F2' G hs2 q2 hmL2 hml ?_
  intro tk3
  dsimp only
  -- 4
  with_reducible refine wpP_execs_cons ?_
  with_reducible refine wpP_of ?_
  with_reducible refine p4 F2' G hs2 hA hu hr0 q2 q3 q1 hnL2 hni l0.1 hmL2 hfl hfm2 hkL hki hb0 ?_
  intro h4 tk4 m4 vn4 vi4 vj4 F4 sm4 k4
  dsimp only
  have hs4 := G.kp0 hs2 k4
  have kl4 : ∀ {b : Nat} {xs}, h2.IsList b xs → h4.IsList b xs := fun x => k4.list x (F2'.offList x) (by simp)
  have r1 : m4 "numbers" = some (.ref nA) := (sm4 _ (by decide)).trans q1
  have r2 : m4 "masks" = some (.ref mA) := (sm4 _ (by decide)).trans q2
  have r3 : m4 "kinds" = some (.ref kA) := (sm4 _ (by decide)).trans q3
  have hfm4 : ∀ k < 12, MaskFn h4 (fs.getD k 0) (kindsL.getD k 0) := fun k hk => (hfm2 k hk).kp0 F2' k4
  have nL4 := kl4 hnL2
  have mL4 := kl4 hmL2
  have kL4 := kl4 hkL
  have e234 := k4 _ _ (.inl h23L) (by simp) e232
  have e464 := k4 _ _ (.inl hL) (by simp) e462
  clear sm4 q1 q2 q3 hnL2 hmL2 hkL hfm2 e232 e462 hs2 kl4 k4 F2' hfm hmL hnL1 hnL hs1 hs0 e231 e461 e230 e460 nX1 k1 k2 F1 F0
  exact law_tail F4 G hs4 nL4 hni l0 r1 r2 r3 mL4 hfl hfm4 kL4 hki hA hroom hu hL e234 e464 hq
end
end Mine
end
section
section
open PySem.Spec
namespace Mine
theorem post_true {ns : List Int} : PySem.Challenge.rw_md0040_01.row.claim.post [ofPy (PyData.list (ns.map PyData.int))] (WData.bool true) [ofPy (PyData.list (ns.map PyData.int))] = true := by
  unfold RowW.claim OpenLaw.row
  dsimp only
  have e1 : WShape.has [] (WData.bool true) WShape.bool = true := by decide +kernel
  have e2 : W.same (WData.bool true) (WData.bool true) = true := by decide +kernel
  rw [e1, Bool.true_and]
  simp [WTm.holds, WTm.value, e2]
theorem good_true {cl : Str → Option Addr} {mean : ExcName → Option Value} {ns : List Int} {s₁ s' : Shared} (hO : OldK s₁.heap s'.heap) (hos : s'.os = s₁.os) (hg : s'.gens = #[]) :
    GoodWG PySem.Challenge.rw_md0040_01.row.claim cl mean [ofPy (PyData.list (ns.map PyData.int))] s₁ (Except.ok (Flow.ret (Value.bool true))) s' :=
  ⟨.inl ⟨_, WData.bool true, [], rfl, fun _ => rfl, .bool true, post_true, fun _ => ⟨List.nodup_nil, fun a ha => nomatch ha⟩⟩, hO, hos, .of_eq hg⟩
def tabs : List (Addr × Addr) := [(27, 23), (48, 46)]
theorem old_of {h h' : Heap} {p23 p46 : Array Value} (hT : TabsAt [(27, 23), (48, 46)] h) (k : Sub (ghostOf h [(27, 23), (48, 46)]) h') (e23 : h'.get? 23 = some (tabObj p23)) (e46 : h'.get? 46 = some (tabObj p46)) : OldK h h' := by
  have gr : ∀ b o, b ∈ [23, 46] → h.get? b = some o → isCodeTable h b ∧ o = tabObj #[] ∧ ∃ ps, h'.get? b = some (tabObj ps) := fun b o hb e => by
    rcases List.mem_cons.mp hb with rfl | hb
    · have q := hT (27, 23) (.head _)
      have e2 := q.2
      rw [e] at e2
      exact ⟨(q.1.tab q.2).isCodeTable, Option.some.inj e2, p23, e23⟩
    · rcases List.mem_cons.mp hb with rfl | hb
      · have q := hT (48, 46) (.tail _ (.head _))
        have e2 := q.2
        rw [e] at e2
        exact ⟨(q.1.tab q.2).isCodeTable, Option.some.inj e2, p46, e46⟩
      · cases hb
  have keep : ∀ b o, b ∉ [23, 46] → h.get? b = some o → h'.get? b = some o := fun b o hb e => k b o (ghost_ne e hb)
  refine ⟨fun b o e => ?_, fun b o e => ?_⟩
  · by_cases hb : b ∈ [23, 46]
    · obtain ⟨ht, rfl, ps, hP⟩ := gr b o hb e
      exact .inr (.inl ⟨ht, rfl, #[], ps, rfl, by rw [Array.empty_append]; exact hP⟩)
    · exact .inl (keep b o hb e)
  · by_cases hb : b ∈ [23, 46]
    · obtain ⟨_, _, ps, hP⟩ := gr b o hb e
      exact ⟨_, hP⟩
    · exact ⟨o, keep b o hb e⟩
/-! what the laid-out heap K says, by its own look -/
def fdAt (K : Frag) (a : Addr) : FuncData := match K.lookup a with
  | some o => (match o.data with | .func fd => fd | _ => default)
  | none => default
def dataAt (K : Frag) (a : Addr) : Option Data := (K.lookup a).map (·.data)
def codeNm (K : Frag) (c : Addr) : Option Str := match K.lookup c with
  | some o => (match o.data with
    | .fields vs => (match (vs[1]? : Option Value) with | some (.str q _) => some q | _ => none)
    | _ => none)
  | none => none
def seqAt (K : Frag) (a : Addr) : Option (Array Value) := match K.lookup a with
  | some o => (match o.data with | .seq xs _ => if o.cls == .type "list" then some xs else none | _ => none)
  | none => none
def strsV : List Value → Option (List Str)
  | [] => some []
  | .str x _ :: r => (strsV r).map (x :: ·)
  | _ => none
theorem codeNm_rec {K : Frag} {h : Heap} {c : Addr} {q : Str} (X : K.In h) (e : codeNm K c = some q) : h.CodeRec (.ref c) q := by
  unfold codeNm at e
  split at e
  · rename_i o ho
    split at e
    · rename_i vs hd
      split at e
      · rename_i q' t hv
        cases e
        exact ⟨c, o, vs, t, rfl, X _ _ ho, hd, hv⟩
      · cases e
    · cases e
  · cases e
theorem seqAt_list {K : Frag} {h : Heap} {a : Addr} {xs : Array Value} (X : K.In h) (e : seqAt K a = some xs) : h.IsList a xs := by
  unfold seqAt at e
  split at e
  · rename_i o ho
    split at e
    · rename_i ys n hd
      split at e
      · rename_i hc
        cases e
        exact ⟨o, X _ _ ho, by simpa using hc, n, hd⟩
      · cases e
    · cases e
  · cases e
theorem strsV_at : ∀ {vs : List Value} {xs : List Str}, strsV vs = some xs → vs.length = xs.length ∧ ∀ (r : Nat) (x : Str), xs[r]? = some x → ∃ t, vs[r]? = some (Value.str x t)
  | [], xs, e => by cases e; exact ⟨rfl, fun r x q => by simp at q⟩
  | v :: vs, xs, e => by
    unfold strsV at e
    split at e
    · rename_i h1; cases h1
    · rename_i y t r h1
      cases h1
      cases e2 : strsV vs with
      | none => rw [e2] at e; cases e
      | some ys =>
        rw [e2] at e; cases e
        obtain ⟨a, b⟩ := strsV_at e2
        refine ⟨by simp [a], fun r x q => ?_⟩
        cases r with
        | zero => simp at q; subst q; exact ⟨t, rfl⟩
        | succ r => exact b r x (by simpa using q)
    · cases e
theorem dataAt_get {K : Frag} {h : Heap} {a : Addr} {d : Data} (X : K.In h) (e : dataAt K a = some d) : ∃ o, h.get? a = some o ∧ o.data = d := by
  unfold dataAt at e
  cases q : K.lookup a with
  | none => rw [q] at e; cases e
  | some o => rw [q] at e; cases e; exact ⟨o, X _ _ q, rfl⟩
abbrev fnK (K : Frag) (a : Addr) (d : Stmt) (c : Addr) : FuncData := fnX (fdAt K a).name (fdAt K a).qualname (paramsOf d) (bodyOf d) (scopeOf d) [] .none .none (fdAt K a).doc (fdAt K a).pyModule none (.ref c) (fdAt K a).closureTuple
theorem row_tile {K : Frag} {h : Heap} {k : Nat} (X : K.In h) (e : ((seqAt K (29 + k)).bind fun xs => strsV xs.toList) = some (tileOf k)) : ∃ vs : List Value, h.IsList (29 + k) vs.toArray ∧ vs.length = (tileOf k).length ∧ ∀ (r : Nat) (x : Str), (tileOf k)[r]? = some x → ∃ t, vs[r]? = some (Value.str x t) := by
  cases q : seqAt K (29 + k) with
  | none => rw [q] at e; cases e
  | some xs =>
    rw [q] at e
    obtain ⟨a, b⟩ := strsV_at (show strsV xs.toList = some (tileOf k) from e)
    exact ⟨xs.toList, by simpa using seqAt_list X q, a, b⟩
end Mine
end
end
section
namespace Mine
section
variable {w : World} {s₁ : Shared} {K : Frag} {p : Program} {loose : List Str} {mean : ExcName → Option Value} {mg mb : Str → Option Value}
/-- the ground, from what the head has laid -/
theorem gnd_of (T : Top p loose mean mg mb s₁.heap) (X : K.In s₁.heap) (hT : TabsAt [(27, 23), (48, 46)] s₁.heap) (hnt : noTabs K = true)
    (f21 : dataAt K 21 = some (.func (fnK K 21 applyDef 20))) (q21 : (fdAt K 21).qualname = Str.ofString "apply_mask") (c20 : codeNm K 20 = some (Str.ofString "apply_mask"))
    (f28 : dataAt K 28 = some (.func (fnK K 28 getDef 27))) (q28 : (fdAt K 28).qualname = Str.ofString "get_data_mask_functions") (c27 : codeNm K 27 = some (Str.ofString "get_data_mask_functions"))
    (f44 : dataAt K 44 = some (.func (fnK K 44 darkDef 43))) (c43 : codeNm K 43 = some (fdAt K 44).qualname)
    (t37 : seqAt K 37 = some #[.ref 29, .ref 30, .ref 31, .ref 32, .ref 33, .ref 34, .ref 35, .ref 36]) (tr : ∀ k < 8, ((seqAt K (29 + k)).bind fun xs => strsV xs.toList) = some (tileOf k))
    (gA : nsIn K mainGlobals "apply_mask" = some (some (.ref 21))) (gG : nsIn K mainGlobals "get_data_mask_functions" = some (some (.ref 28))) (gT : nsIn K mainGlobals "_law_tiles" = some (some (.ref 37))) (gD : nsIn K mainGlobals "_law_dark" = some (some (.ref 44)))
    (nLen : nsIn K mainGlobals "len" = some none) (nList : nsIn K mainGlobals "list" = some none) (nEnum : nsIn K mainGlobals "enumerate" = some none) (nAbs : nsIn K mainGlobals "abs" = some none) (nRange : nsIn K mainGlobals "range" = some none) (nBytes : nsIn K mainGlobals "bytearray" = some none) :
    Gnd (ghostOf s₁.heap [(27, 23), (48, 46)]) s₁.heap.objs.size mg mb := by
  have XG : K.In (ghostOf s₁.heap [(27, 23), (48, 46)]) := ghost_K hT X hnt
  have TG := ghost_top hT T
  have CA := ghost_code hT
  obtain ⟨bm, ob, b1, b2, b3, b4, b5, b6⟩ := TG.bmain
  obtain ⟨o21, e21, d21⟩ := dataAt_get XG f21
  obtain ⟨o28, e28, d28⟩ := dataAt_get XG f28
  obtain ⟨o44, e44, d44⟩ := dataAt_get XG f44
  refine
    { small := Nat.le_of_eq (hideAll_size _ _)
      t23 := hideAll_none _ (by decide)
      t46 := hideAll_none _ (by decide)
      ng := TG.g
      nb := TG.b
      lim := TG.nolimit
      bm := ⟨bm, ob, b1, b2, b3, b4, b5, b6⟩
      c27 := CA.1
      c48 := CA.2.1
      tiles := ⟨seqAt_list XG t37, fun k hk => row_tile XG (tr k hk)⟩
      dark := ⟨_, _, _, _, _, 43, o44, e44, d44, codeNm_rec XG c43⟩
      maker := ⟨(fdAt K 28).name, (fdAt K 28).doc, (fdAt K 28).pyModule, (fdAt K 28).closureTuple, o28, e28, by rw [d28, ← q28], codeNm_rec XG c27⟩
      apply := ⟨(fdAt K 21).name, (fdAt K 21).doc, (fdAt K 21).pyModule, (fdAt K 21).closureTuple, 20, o21, e21, by rw [d21, ← q21], codeNm_rec XG c20⟩
      gA := mg_of X T.g gA
      gG := mg_of X T.g gG
      gT := mg_of X T.g gT
      gD := mg_of X T.g gD
      nLen := mg_none_of X T.g nLen
      nList := mg_none_of X T.g nList
      nEnum := mg_none_of X T.g nEnum
      nAbs := mg_none_of X T.g nAbs
      nRange := mg_none_of X T.g nRange
      nBytes := mg_none_of X T.g nBytes
      bLen := (T.builtins _ (by decide)).trans (by kernel_rfl)
      bList := (T.builtins _ (by decide)).trans (by kernel_rfl)
      bEnum := (T.builtins _ (by decide)).trans (by kernel_rfl)
      bAbs := (T.builtins _ (by decide)).trans (by kernel_rfl)
      bRange := (T.builtins _ (by decide)).trans (by kernel_rfl)
      bBytes := (T.builtins _ (by decide)).trans (by kernel_rfl) }
end
end Mine
end
section
namespace Mine
theorem lt8 {P : Nat → Prop} (h0 : P 0) (h1 : P 1) (h2 : P 2) (h3 : P 3) (h4 : P 4) (h5 : P 5) (h6 : P 6) (h7 : P 7) : ∀ k < 8, P k
  | 0, _ => h0
  | 1, _ => h1
  | 2, _ => h2
  | 3, _ => h3
  | 4, _ => h4
  | 5, _ => h5
  | 6, _ => h6
  | 7, _ => h7
  | k + 8, hk => absurd hk (by omega)
def lawFd (pm doc : Value) : FuncData := fnX (Str.ofString "law") (Str.ofString "law") (paramsOf lawDef) (bodyOf lawDef) (scopeOf lawDef) [] .none .none doc pm none (.ref 48) .none
section
variable {w : World} {s₁ : Shared} {mg mb : Str → Option Value}
theorem env_law {L fa : Nat} {pm doc : Value} : callEnvC (lawFd pm doc) L fa = lawEnv L fa := rfl
theorem bind_law {a : Nat} {pm doc : Value} : bindArgs (lawFd pm doc) ⟨[.ref a], []⟩ = pure [(Str.ofString "script", .ref a)] := rfl
set_option maxHeartbeats 2000000 in
theorem law_call {fa a : Nat} {o : Obj} {pm doc : Value} {vs : List Value} {ns : List Int} {Q : Value → Shared → Prop} {E : Value → Shared → Prop}
    (G : Gnd (ghostOf s₁.heap [(27, 23), (48, 46)]) s₁.heap.objs.size mg mb) (hT : TabsAt [(27, 23), (48, 46)] s₁.heap) (hlim : s₁.heap.NoLimit)
    (ho : s₁.heap.get? fa = some o) (hd : o.data = .func (lawFd pm doc)) (hcd : s₁.heap.CodeRec (.ref 48) (Str.ofString "law")) (ha : s₁.heap.IsList a vs.toArray) (hi : IntsAre vs ns) (hn : ns.length ≤ 63) (hbits : ∀ n ∈ ns, Builtin.Int.intBits n ≤ 2 ^ 20)
    (hq : ∀ h' tk', OldK s₁.heap h' → Q (.bool true) (sh s₁ h' tk')) : wpF (model pw w) callerA (call (.ref fa) [.ref a]) Q E s₁ := by
  have h46 : 46 < s₁.heap.objs.size := Heap.lt_size (hT (48, 46) (.tail _ (.head _))).2
  with_reducible refine wpP_call along_free ?_
  refine codeP_call_cells along_free (binds := [(Str.ofString "script", .ref a)]) (by decide) ho hd hlim hcd rfl bind_law rfl ?_ ?_
  · intro x hx
    rcases List.mem_cons.mp hx with rfl | hx
    · exact .inl (show (scopeOf lawDef).names.lookup (Str.ofString "script") = some .local by decide)
    · cases hx
  intro s' x
  rw [env_law] at x ⊢
  obtain ⟨⟨⟨h, tk, rfl⟩, nsx, keep, _⟩, cell, _, _⟩ := x
  generalize hL : s₁.heap.objs.size = L at *
  have keep' : Sub s₁.heap h := keep
  have F : LF L h (bindL (lawEnv L fa).kindOf [(Str.ofString "script", .ref a)] fun _ => none) none none none none :=
    ⟨nsx, cell (Str.ofString "number") (L + 1) rfl, cell (Str.ofString "i") (L + 1 + 1) rfl, cell (Str.ofString "j") (L + 1 + 1 + 1) rfl, cell (Str.ofString "region") (L + 1 + 1 + 1 + 1) rfl⟩
  have hsG : Sub (ghostOf s₁.heap [(27, 23), (48, 46)]) h := fun b o e => keep' b o (of_hideAll _ e)
  show wpP Free (model pw w) (callerA.deeper (lawEnv L fa)) (execs (bodyOf lawDef) (lawEnv L fa)) _ _ (sh s₁ h tk)
  refine wpP_mono (law_body (Q := fun f s' => wants Q E (.ok (.ret (match f with | .ret v => v | _ => .none))) s') (E := fun _ _ => False) F G hsG rfl (keep'.list ha) hi hn hbits rfl (show callerA.depth + 1 + 1 < recursionLimit by decide) (show callerA.units + 3 + 64 < cLine by decide) h46 (keep' _ _ (hT (27, 23) (.head _)).2) (keep' _ _ (hT (48, 46) (.tail _ (.head _))).2) ?_) (fun _ _ q => q) fun _ _ q => q
  intro h' tk' p23 p46 s5 e23 e46
  exact hq h' tk' (old_of hT s5 e23 e46)
end
end Mine
end
section
set_option maxHeartbeats 8000000
namespace MineTop
theorem PySem.W.holds_open {r : OpenRow} {q : Program} {loose : List Str} {Xt : Shared → Bool} {XP : (Str → Option Value) → Heap → Prop} {α : Type} {Yf : Shared → α} {Ya : World → α} {YP : World → Heap → Prop} {d : DefRec} {kwd : List (Str × Expr)} {N : Nat}
    (left : LeftO r.prog q loose Xt Yf Ya N) (hY : ∀ w s, Yf s = Ya w → YP w s.heap) (hYk : ∀ w h h', YP w h → (∀ b o, h.get? b = some o → h'.get? b = some o) → YP w h')
    (hX : ∀ s, Xt s = true → XP (s.heap.nsMap mainGlobals) s.heap) (hXk : ∀ mg h h', XP mg h → (∀ b o, h.get? b = some o → h'.get? b = some o) → XP mg h')
    (hdef : defOf q r.name = some (d, kwd)) (hp : r.prog.theDef r.name = some (d.params, d.body, d.scope)) (hk : kwWritten? d.params.kwonlyargs d.params.kw_defaults = some kwd) (hRf : ∀ s, Xt s = true → RecFacts r.records s.heap) (hwr : (!r.writes || r.records.isEmpty) = true)
    (k1 : r.wellSaid = true) (ok : (chainsOk q && opensWell r.prog && (frees r.toRowW && r.within.isEmpty)) = true) (hb : r.prog.bare) (hw : r.toRowW.promised)
    (call : Mine.WalkF q loose XP YP r d kwd) : r.Holds := Mine.holds_F left hY hYk hX hXk hdef hp hk hRf hwr k1 ok hb hw call
theorem top : PySem.Challenge.rw_md0040_01.Holds := by
  w_on; o_law; k_head; (case hw => w_witness2)
  k_fill
  intro w s₀ s₁ mg mb G Y fa o pm cd doc dV kV ho hd hcd hD hmg hg args vals as hpre hlay hrd hwl hlo
  have KX := km_in_of Y
  km_tabs Y
  refine Ground.open G ?_
  intro T B D TE TW
  km_lay T hmg ho hd cd
  wrow_args hpre hlay hrd hwl hlo
  rename_i ns _ _ hL0 _ _ _ _ a vs _ hIs _ _ _ hInts _ hlen _
  refine ⟨?_, Mine.good_true ⟨fun _ _ e => .inl e, fun _ o e => ⟨o, e⟩⟩ rfl hg⟩
  have GG := Mine.gnd_of T KX hT9 (by kernel_rfl) (by kernel_rfl) (by kernel_rfl) (by kernel_rfl) (by kernel_rfl) (by kernel_rfl) (by kernel_rfl) (by kernel_rfl) (by kernel_rfl) (by kernel_rfl) (Mine.lt8 (by kernel_rfl) (by kernel_rfl) (by kernel_rfl) (by kernel_rfl) (by kernel_rfl) (by kernel_rfl) (by kernel_rfl) (by kernel_rfl)) (by kernel_rfl) (by kernel_rfl) (by kernel_rfl) (by kernel_rfl) (by kernel_rfl) (by kernel_rfl) (by kernel_rfl) (by kernel_rfl) (by kernel_rfl) (by kernel_rfl)
  have hdv : dV = .none := by
    rcases hD.pos with q | q
    · exact q.2
    · exact absurd rfl q.1
  have hkv : kV = .none := by
    rcases hD.kw with q | q
    · exact q.2
    · exact absurd rfl q.1
  subst hdv hkv
  have hlen' : ns.length ≤ 63 := by omega
  have hbits : ∀ n ∈ ns, Builtin.Int.intBits n ≤ 2 ^ 20 := fun n hn => PyData.bits_item_of_ints hL0 hn
  exact Mine.law_call GG hT9 T.nolimit ho (pm := pm) (doc := doc) hd hcd hIs hInts hlen' hbits (fun h' tk' hO => Mine.good_true hO rfl hg)
end MineTop
end
theorem PySem.Challenge.cw_md0040_01_holds : PySem.Challenge.rw_md0040_01.Holds := by
  exact MineTop.top
