import PyProof.Rows.All
import Wide.All
import OpenK.AllK
import Wide.FinOn
import Lean
import PySem.Challenge.RW_ik0197_01
set_option Elab.async false
set_option maxRecDepth 100000
set_option maxHeartbeats 8000000
set_option linter.all false
open PySem PySem.W PyProof.Rows
namespace Mine
section
theorem said0 : PySem.Challenge.rw_ik0197_01.wellSaid = true := by
  rw [PySem.W.Fast.te9446332074065402090]; kernel_rfl
noncomputable def view39 : Program := view PySem.Challenge.pw_ik0197_01 [0, 2, 3, 4, 6, 8, 10, 11, 13, 15, 17, 18, 19, 20, 21, 23, 25, 26, 27, 28, 29]
theorem left_boot {p q : Program} {loose : List Str} {Xt : Shared → Bool} {α : Type} {Yf : Shared → α} {Ya : World → α} {N : Nat} {g0 : Bool}
    (e : opening p = plainProg p.main.scope.names) (hN : Nat.ble 600 N = true) (f : ∀ s, fenceModules? p s = some s)
    (g : ∀ w : World, (fun os => (topFrom treeTable p w N ⟨boot_heap w.params, Array.mk [], boot_drawn, boot_toks, os⟩).map (fun s => (openSeen q loose (importedModules p.main.body) Xt g0 s, Yf s))) = fun _ => some (openGood q loose, Ya w)) :
    LeftO p q loose Xt Yf Ya N g0 := fun w => by
  obtain ⟨⟨h, gs, d, k, os⟩, e1, e'⟩ := Option.map_eq_some_iff.mp (boot_open e hN f w)
  obtain ⟨rfl, rfl, rfl, rfl⟩ : h = boot_heap w.params ∧ gs = Array.mk [] ∧ d = boot_drawn ∧ k = boot_toks := by simpa using e'
  unfold openEnds
  rw [e1]
  show (topFrom treeTable p w N _).map _ = _
  exact congrFun (g w) os
local macro_rules | `(tactic| o_law) => `(tactic| refine holds_law said0 fun _ => ?_)
local macro_rules | `(tactic| o_head $H) => `(tactic| (
    refine holds_open (q := view39) (loose := []) (Xt := fun s => xlAt view39 [] s && recOk (RowW.records PySem.Challenge.rw_ik0197_01.row.toRowW) s) (XP := XL view39 []) (Yf := Hook.obs $H) (Ya := Hook.val $H) (YP := Hook.says $H) (N := 2504) ?hl (Hook.of $H) (Hook.keeps $H) (fun s e => xl_of s (Bool.and_eq_true_iff.mp e).1) XL.keeps (by rfl) (by rfl) (by rfl) (fun s e => recFacts_of (Bool.and_eq_true_iff.mp e).2) (by rfl) (by first | assumption | decide +kernel) (by decide +kernel) ⟨rfl, rfl, rfl, rfl, rfl, by decide +kernel⟩ ?hw ?hc; (case hl => exact left_boot (by kernel_rfl) (by kernel_rfl) (fun _ => by kernel_rfl) (fun w => by unfold topFrom; rw [PySem.W.Fast.te14082659384304107361, PySem.W.Fast.te14364793385576792824, PySem.W.Fast.te4187177175401517315]; kernel_rfl))))
open_top hd for PySem.Challenge.rw_ik0197_01
end
theorem fillme : PySem.Challenge.rw_ik0197_01.Holds → ∀ (w : World) h, (hd.heap_1 w.params).In h → True := by
  w_top off
  k_fill
  intros; trivial
theorem le_far {a b c : Nat} (h : a ≤ b) (e : Nat.ble b c = true) : a ≤ c := Nat.le_trans h (Nat.le_of_ble_eq_true e)
theorem lt_far {a b c : Nat} (h : a < b) (e : Nat.ble b c = true) : a < c := Nat.lt_of_lt_of_le h (Nat.le_of_ble_eq_true e)
theorem lt_far2 {a b c : Nat} (h : a ≤ b) (e : Nat.ble (b + 1) c = true) : a < c := Nat.lt_of_le_of_lt h (Nat.le_of_ble_eq_true e)
local macro_rules | `(tactic| omega) => `(tactic| first | (with_reducible first | assumption | exact le_far (by assumption) rfl | exact lt_far (by assumption) rfl | exact lt_far2 (by assumption) rfl | exact Nat.ne_of_lt (by assumption) | exact Nat.ne_of_gt (by assumption) | exact Ne.symm (by assumption) | exact Nat.le_of_lt (by assumption) | exact Nat.succ_le_of_lt (by assumption) | exact Nat.lt_of_succ_le (by assumption) | exact Nat.le_succ_of_le (by assumption) | exact Int.natCast_nonneg _ | exact Nat.zero_le _ | exact Nat.le_trans (by assumption) (by assumption) | exact Nat.lt_of_lt_of_le (by assumption) (by assumption) | exact Nat.lt_of_le_of_lt (by assumption) (by assumption)) | lia | omega (config := {}))
local macro_rules | `(tactic| size_fits) => `(tactic| ((try simp only [List.size_toArray, PySem.sizeLine_eq]); omega))
theorem gd0 (h : wpAny M A (exec (Stmt.For y1 y2 y3 y4 y5) y6) Q E s) : wpAny M A (exec (Stmt.For y1 y2 y3 y4 y5) y6) Q E s := h
theorem gd1 (h : wpAny M A (eval (Expr.ListComp y1 y2 y3 y4) y5) Q E s) : wpAny M A (eval (Expr.ListComp y1 y2 y3 y4) y5) Q E s := h
theorem gd2 (h : wpAny M A (exec (Stmt.Try y1 y2 y3 y4 y5) y6) Q E s) : wpAny M A (exec (Stmt.Try y1 y2 y3 y4 y5) y6) Q E s := h
theorem gd3 (h : wpAny M A (call (Value.ref y1) y2 y3) Q E s) : wpAny M A (call (Value.ref y1) y2 y3) Q E s := h
theorem gd4 (h : wpAny M A (execs (Stmt.Expr (Expr.Call y1 [Expr.Subscript y2 y3 y4] y5 y6) y7 :: y8) y9) Q E s) : wpAny M A (execs (Stmt.Expr (Expr.Call y1 [Expr.Subscript y2 y3 y4] y5 y6) y7 :: y8) y9) Q E s := h
theorem gd5 (h : wpAny M A (execs (Stmt.If (Expr.Compare (Expr.Name y1 y2) [CmpOp.In] y3 y4) y5 y6 y7 :: y8) y9) Q E s) : wpAny M A (execs (Stmt.If (Expr.Compare (Expr.Name y1 y2) [CmpOp.In] y3 y4) y5 y6 y7 :: y8) y9) Q E s := h
theorem gd6 (h : wpAny M A (subscriptTail y1 y2 (Value.ref y3) (Value.int y4 y5)) Q E s) : wpAny M A (subscriptTail y1 y2 (Value.ref y3) (Value.int y4 y5)) Q E s := h
theorem gd7 (h : wpAny M A (exec (Stmt.While y1 y2 y3 y4) y5) Q E s) : wpAny M A (exec (Stmt.While y1 y2 y3 y4) y5) Q E s := h
theorem gd8 (h : wpAny M A (call (Value.builtin "list.extend") y1 y2) Q E s) : wpAny M A (call (Value.builtin "list.extend") y1 y2) Q E s := h
theorem gd9 (h : wpAny M A (subscriptTail (Expr.Name (Str.ofString "actual") y1) y2 y3 y4) Q E s) : wpAny M A (subscriptTail (Expr.Name (Str.ofString "actual") y1) y2 y3 y4) Q E s := h
theorem gd10 (h : wpAny M A (subscriptTail (Expr.Name (Str.ofString "expected") y1) y2 y3 y4) Q E s) : wpAny M A (subscriptTail (Expr.Name (Str.ofString "expected") y1) y2 y3 y4) Q E s := h
theorem gd11 (h : wpAny M A (eval (Expr.SetComp y1 y2 y3 y4) y5) Q E s) : wpAny M A (eval (Expr.SetComp y1 y2 y3 y4) y5) Q E s := h
theorem gd12 (h : wpAny M A (exec (Stmt.Assign y1 (Expr.ListComp y2 y3 y4 y5) y6) y7) Q E s) : wpAny M A (exec (Stmt.Assign y1 (Expr.ListComp y2 y3 y4 y5) y6) y7) Q E s := h
theorem gd13 (h : wpAny M A (call (Value.type y1) y2 y3) Q E s) : wpAny M A (call (Value.type y1) y2 y3) Q E s := h
theorem gd14 (h : wpAny M A (call (Value.builtin "min") y1 y2) Q E s) : wpAny M A (call (Value.builtin "min") y1 y2) Q E s := h
theorem gd15 (h : wpAny M A (call (Value.builtin "max") y1 y2) Q E s) : wpAny M A (call (Value.builtin "max") y1 y2) Q E s := h
theorem gd16 (h : wpAny M A (call (Value.builtin "str.join") y1 y2) Q E s) : wpAny M A (call (Value.builtin "str.join") y1 y2) Q E s := h
theorem gd17 (h : wpAny M A (subscriptTail y1 y2 (Value.ref y3) (Value.ref y4)) Q E s) : wpAny M A (subscriptTail y1 y2 (Value.ref y3) (Value.ref y4)) Q E s := h
theorem gd18 (h : wpAny M A (subscriptTail (Expr.Name (Str.ofString "s2") y1) y2 y3 y4) Q E s) : wpAny M A (subscriptTail (Expr.Name (Str.ofString "s2") y1) y2 y3 y4) Q E s := h
theorem gd19 (h : wpAny M A (execs (y1 :: y2 :: y3) y4) Q E s) : wpAny M A (execs (y1 :: y2 :: y3) y4) Q E s := h
theorem gd20 (h : wpAny M A (assign (Expr.Tuple y1 y2 y3) y4 y5) Q E s) : wpAny M A (assign (Expr.Tuple y1 y2 y3) y4 y5) Q E s := h
theorem gd21 (h : wpAny M A (compareOp y1 (Value.ref y2) (Value.ref y3)) Q E s) : wpAny M A (compareOp y1 (Value.ref y2) (Value.ref y3)) Q E s := h
theorem gd22 (h : wpAny M A (execs (Stmt.If (Expr.Compare y1 [CmpOp.IsNot] y2 y3) y4 y5 y6 :: y7) y8) Q E s) : wpAny M A (execs (Stmt.If (Expr.Compare y1 [CmpOp.IsNot] y2 y3) y4 y5 y6 :: y7) y8) Q E s := h
theorem gd23 (h : wpAny M A (binaryOp y1 (Value.ref y2) (Value.ref y3)) Q E s) : wpAny M A (binaryOp y1 (Value.ref y2) (Value.ref y3)) Q E s := h
local macro_rules | `(tactic| walk_at "wN") => `(tactic| first | walk1 | (dsimp only; walk1))
local macro_rules | `(tactic| walk_at "wH") => `(tactic| ((fail_if_success with_reducible first | refine gd0 ?_ | refine gd1 ?_ | refine gd2 ?_ | refine gd3 ?_); first | (dsimp only; walk1) | walk1))
local macro_rules | `(tactic| walk_at "turnMap0") => `(tactic| (first | rfl | (repeat (first | rw [if_pos rfl] | rw [if_neg (by decide)])); done))
local macro_rules | `(tactic| walk_at "wG") => `(tactic| ((fail_if_success with_reducible first | refine gd0 ?_ | refine gd1 ?_ | refine gd2 ?_ | refine gd3 ?_); first | walk1 | (dsimp only; walk1)))
local macro_rules | `(tactic| walk_at "w1") => `(tactic| ((fail_if_success with_reducible first | refine gd4 ?_ | refine gd5 ?_ | refine gd6 ?_); walk_at "wH"))
local macro_rules | `(tactic| walk_at "wS") => `(tactic| ((fail_if_success with_reducible first | refine gd7 ?_ | refine gd2 ?_ | refine gd8 ?_ | refine gd3 ?_); first | walk1 | (dsimp only; walk1)))
local macro_rules | `(tactic| walk_at "mapZ2") => `(tactic| ((repeat' split) <;> first | rfl | contradiction | (rename_i hz; rw [hz]; exact Eq.symm (by assumption))))
local macro_rules | `(tactic| walk_at "v3") => `(tactic| ((fail_if_success with_reducible first | refine gd9 ?_); walk_at "wS"))
local macro_rules | `(tactic| walk_at "u4") => `(tactic| ((fail_if_success with_reducible first | refine gd10 ?_); walk_at "wS"))
local macro_rules | `(tactic| walk_at "w5") => `(tactic| ((fail_if_success with_reducible first | refine gd0 ?_ | refine gd1 ?_ | refine gd11 ?_ | refine gd12 ?_ | refine gd2 ?_ | refine gd3 ?_ | refine gd13 ?_ | refine gd14 ?_ | refine gd15 ?_ | refine gd16 ?_ | refine gd17 ?_ | refine gd18 ?_); first | (dsimp only; walk1) | walk1))
local macro_rules | `(tactic| walk_at "wL") => `(tactic| ((fail_if_success with_reducible first | refine gd19 ?_ | refine gd20 ?_ | refine gd3 ?_ | refine gd16 ?_ | refine gd6 ?_); first | walk1 | (dsimp only; walk1)))
local macro_rules | `(tactic| walk_at "w6") => `(tactic| ((fail_if_success with_reducible first | refine gd21 ?_); walk_at "wL"))
local macro_rules | `(tactic| walk_at "w7") => `(tactic| ((fail_if_success with_reducible first | refine gd22 ?_); walk_at "wL"))
local macro_rules | `(tactic| walk_at "w8") => `(tactic| ((fail_if_success with_reducible first | refine gd23 ?_); walk_at "wL"))
local macro_rules | `(tactic| walk_at "lk9") => `(tactic| (show (if _ then _ else _) = _; (repeat (first | rw [if_pos rfl] | rw [if_neg (by decide)])); first | done | assumption))
local macro_rules | `(tactic| walk_at "wA") => `(tactic| ((fail_if_success with_reducible first | refine gd0 ?_ | refine gd1 ?_ | refine gd12 ?_ | refine gd20 ?_ | refine gd3 ?_); first | walk1 | (dsimp only; walk1)))
local macro_rules | `(tactic| walk_at "w10") => `(tactic| ((fail_if_success with_reducible first | refine gd16 ?_ | refine gd6 ?_); walk_at "wA"))
section /- Bas -/
theorem lt8 : ∀ k < 8, k = 0 ∨ k = 1 ∨ k = 2 ∨ k = 3 ∨ k = 4 ∨ k = 5 ∨ k = 6 ∨ k = 7 := by decide
theorem kind4 : ∀ k < 8, ¬ (k = 0 ∨ k = 2) → ¬ (k = 1 ∨ k = 3) → k = 4 ∨ k = 5 ∨ k = 6 ∨ k = 7 := by decide
theorem mem_pick {α : Type} {l l' : List α} (f : List Nat) (n : Nat) (h : f.filterMap (l'[·]?) ++ l'.drop n = l) : ∀ p ∈ l, p ∈ l' := fun p hp => by
  rw [← h] at hp
  rcases List.mem_append.mp hp with hp | hp
  · obtain ⟨i, _, e⟩ := List.mem_filterMap.mp hp
    exact List.mem_of_getElem? e
  · exact List.drop_subset _ _ hp
theorem mem_pick3 {α : Type} {l l' : List α} (f : List Nat) (n : Nat) (g : List Nat) (h : f.filterMap (l'[·]?) ++ (l'.drop n ++ g.filterMap (l'[·]?)) = l) : ∀ p ∈ l, p ∈ l' := fun p hp => by
  rw [← h] at hp
  rcases List.mem_append.mp hp with hp | hp
  · obtain ⟨i, _, e⟩ := List.mem_filterMap.mp hp
    exact List.mem_of_getElem? e
  rcases List.mem_append.mp hp with hp | hp
  · exact List.drop_subset _ _ hp
  · obtain ⟨i, _, e⟩ := List.mem_filterMap.mp hp
    exact List.mem_of_getElem? e
theorem mem_mid {α : Type} {p : α} (A B : List α) {t : List α} (h : p ∈ B ++ (A ++ t)) : p ∈ A ++ (t ++ B) := by
  rcases List.mem_append.mp h with h | h
  · exact List.mem_append_right _ (List.mem_append_right _ h)
  rcases List.mem_append.mp h with h | h
  · exact List.mem_append_left _ h
  · exact List.mem_append_right _ (List.mem_append_left _ h)
theorem mid_len {α : Type} (l : List α) (i j : Nat) : ((l.drop i).take j).length ≤ l.length := Nat.le_trans (List.length_take_le' ..) (by rw [List.length_drop]; exact Nat.sub_le ..)
/-- what is asked behind, as a letter -/
theorem wpAny_abs {α : Type} {M : Model} {A : Around} {t : Sem α} {Q : α → Shared → Prop} {E : Value → Shared → Prop} {s : Shared} (h : ∀ Qx : α → Shared → Prop, (∀ f s, Q f s → Qx f s) → wpAny M A t Qx E s) : wpAny M A t Q E s := h Q fun _ _ x => x
theorem wpAny_abs2 {α : Type} {M : Model} {A : Around} {t : Sem α} {Q : α → Shared → Prop} {E : Value → Shared → Prop} {s : Shared} (h : ∀ (Qx : α → Shared → Prop) (Ex : Value → Shared → Prop), (∀ f s, Q f s → Qx f s) → (∀ x s, E x s → Ex x s) → wpAny M A t Qx Ex s) : wpAny M A t Q E s := h Q E (fun _ _ x => x) fun _ _ x => x
noncomputable abbrev ar (d u : Nat) : Around := { handled := none, depth := d, frames := none, guards := none, units := u }

/-- every object of the first heap stands in the second -/
noncomputable def Kp (h h' : Heap) : Prop := ∀ b o, h.get? b = some o → h'.get? b = some o
theorem Kp.refl (h : Heap) : Kp h h := fun _ _ e => e
theorem Kp.trans {h h' h'' : Heap} (a : Kp h h') (b : Kp h' h'') : Kp h h'' := fun x o e => b x o (a x o e)
theorem Fr.kp {h₀ h h' : Heap} {L : Addr} {m : Str → Option Value} (F : Fr h₀ L h m) (k : Kp h h') : Fr h₀ L h' m :=
  ⟨F.ns.keeps k, fun b o e => k b o (F.keep b o e), F.above⟩
theorem News.kp {h₀ h h' : Heap} {L : Addr} {news : List (Addr × Obj)} (N : News h₀ L h news) (k : Kp h h') : News h₀ L h' news :=
  fun p hp => ⟨k _ _ (N p hp).1, (N p hp).2⟩

theorem Fr.know {h₀ h : Heap} {L : Addr} {m : Str → Option Value} {a : Str} {v : Value} (F : Fr h₀ L h m) (e : m a = some v) : Fr h₀ L h (fun y => if y = a then some v else m y) := by
  have : (fun y => if y = a then some v else m y) = m := by
    funext y; by_cases hy : y = a
    · rw [if_pos hy, hy, e]
    · rw [if_neg hy]
  rw [this]; exact F

theorem Fr.know2 {h₀ h : Heap} {L : Addr} {m : Str → Option Value} {a b : Str} {v u : Value} (F : Fr h₀ L h m) (e : m a = some v) (e' : m b = some u) : Fr h₀ L h (fun y => if y = a then some v else if y = b then some u else m y) :=
  Fr.know (Fr.know F e') (by
    by_cases h : a = b
    · subst h; rw [← e', e]; simp
    · show (if a = b then some u else m a) = some v
      rw [if_neg h, e])

noncomputable def bodyOf : Stmt → List Stmt
  | .FunctionDef _ _ b _ _ _ _ _ _ _ => b
  | .For _ _ b _ _ => b
  | _ => []
noncomputable def scopeOf : Stmt → Scope
  | .FunctionDef _ _ _ _ _ _ s _ _ _ => s
  | _ => ⟨.function, [], false, false, []⟩
/-- names that are known, laid ahead of the map -/
noncomputable def knowL (l : List (Str × Value)) (m : Str → Option Value) : Str → Option Value := l.foldr (fun p m' => fun y => if y = p.1 then some p.2 else m' y) m
theorem knowL_eq {m : Str → Option Value} : ∀ {l : List (Str × Value)}, (∀ p ∈ l, m p.1 = some p.2) → knowL l m = m
  | [], _ => rfl
  | p :: l, h => by
    have ih := knowL_eq (l := l) fun q hq => h q (.tail _ hq)
    show (fun y => if y = p.1 then some p.2 else knowL l m y) = m
    rw [ih]
    funext y
    by_cases hy : y = p.1
    · rw [if_pos hy, hy, h p (.head _)]
    · rw [if_neg hy]
theorem Fr.knows {h₀ h : Heap} {L : Addr} {m : Str → Option Value} (F : Fr h₀ L h m) (l : List (Str × Value)) (e : ∀ p ∈ l, m p.1 = some p.2) : Fr h₀ L h (knowL l m) := by rw [knowL_eq e]; exact F
theorem enter {w : World} {A : Around} {s : Shared} {K : Frag} {R : Result → Shared → Prop} {name qual : Str} {params : Arguments} {body : List Stmt} {scope : Scope} {dV kV doc pm cdv ct oc : Value} {an od : Option Addr} {osl : Array (Option Value)} {f : Addr} {args : Args} {binds : List (Str × Value)}
    (X : K.In s.heap) (hlim : s.heap.NoLimit)
    (ho : K.lookup f = some ⟨oc, od, .func (fnOf name qual params body scope dV kV doc pm an cdv ct), osl⟩) (hcd : codeIn K cdv qual = true) (hroom : A.depth < recursionLimit)
    (hbind : BindsTo s (fnOf name qual params body scope dV kV doc pm an cdv ct) args binds) (hloc : ∀ y ∈ binds, scope.names.lookup y.1 = some .local)
    (h : ∀ L h₁, Fr s.heap L h₁ (fun y => binds.reverse.lookup y) → News s.heap L h₁ [] →
      wpAny (model PySem.Challenge.rw_ik0197_01.row.prog w) (A.deeper (envOf qual scope L f cdv)) (execs body (envOf qual scope L f cdv))
        (fun fl s' => R (.ok (.ret (match fl with | .ret v => v | _ => .none))) s') (fun _ _ => False)
        { s with heap := h₁, toks := s.toks + binds.length })
    (hco : scope.isCoroutine = false := by rfl) (hgen : scope.isGenerator = false := by rfl) (hk : scope.kind = .function := by rfl)
    (hcell : ∀ x ∈ scope.names, x.2 ≠ .cell := by decide) : codeAny (model PySem.Challenge.rw_ik0197_01.row.prog w) A (.call (.ref f) args) R s := by
  refine codeAny_call_def (fd := fnOf name qual params body scope dV kV doc pm an cdv ct) (body := body) (binds := binds) hroom (X _ _ ho) rfl hlim (codeRec_of X hcd) rfl hbind hcell hloc (fun h₁ hns hk₁ => ?_) hco hgen hk
  exact wpAny_mono (h s.heap.objs.size h₁ ⟨hns, hk₁, Nat.le_refl _⟩ News.nil) (fun _ _ x => x) (fun _ _ x => x.elim)

theorem enterGen {w : World} {A : Around} {s : Shared} {K : Frag} {R : Result → Shared → Prop} {name qual : Str} {params : Arguments} {body : List Stmt} {scope : Scope} {dV kV doc pm cdv ct oc : Value} {an od : Option Addr} {osl : Array (Option Value)} {f : Addr} {args : Args} {binds : List (Str × Value)}
    (X : K.In s.heap) (hlim : s.heap.NoLimit)
    (ho : K.lookup f = some ⟨oc, od, .func (fnOf name qual params body scope dV kV doc pm an cdv ct), osl⟩) (hcd : codeIn K cdv qual = true) (hroom : A.depth < recursionLimit)
    (hbind : BindsTo s (fnOf name qual params body scope dV kV doc pm an cdv ct) args binds) (hloc : ∀ y ∈ binds, scope.names.lookup y.1 = some .local)
    (h : ∀ h₁, h₁.Ns s.heap.objs.size (fun y => binds.reverse.lookup y) → Kp s.heap h₁ → h₁.objs.size = s.heap.objs.size + 1 →
      R (.ok (.ret (.ref h₁.objs.size))) { s with heap := h₁.push { cls := .type "generator", data := .fields #[.int s.gens.size 0, .str name (s.toks + binds.length), .str qual (s.toks + binds.length + 1)] },
                                                  gens := s.gens.push (.fresh (.func body (envOf qual scope s.heap.objs.size f cdv))), toks := s.toks + binds.length + 1 + 1 })
    (hco : scope.isCoroutine = false := by rfl) (hgen : scope.isGenerator = true := by rfl) (hk : scope.kind = .function := by rfl)
    (hcell : ∀ x ∈ scope.names, x.2 ≠ .cell := by decide) : codeAny (model PySem.Challenge.rw_ik0197_01.row.prog w) A (.call (.ref f) args) R s := by
  refine codeAny_call_generator hroom (X _ _ ho) rfl hco hgen rfl (codeRec_of X hcd) (hbind _ _ _ _ ?_)
  refine wpAny_newFunctionEnv hcell hloc (fun h₁ hns hsb => ⟨hlim.fresh _ hsb, ?_⟩) hk
  exact h h₁ hns (fun b o e => hsb.extBut b o (Nat.ne_of_lt (Heap.lt_size e)) (Heap.get?_push_of_some _ e)) (by rw [hsb.1, Heap.size_push])

section
variable {M : Model} {A : Around} {R : GenEnd} {Y : Protocol} {n : Nat} {s₀ : Shared} {c : Code} {fs : List Frame} {s : Shared} {env : Env}
  {K : Flow → Sem Fin} {H : Value → Sem Fin} {gd : Bool → Bool} {lv : List Value → List Value}

theorem seg_stmt {st : Stmt} (h : wpAny M (A.over c fs) (exec st env) (fun f s' => Seg M A R Y n s₀ c (K f) fs s') (fun _ _ => False) s) :
    Seg M A R Y n s₀ c ((exec st env).wrap K H gd lv) fs s :=
  seg_wrap (wpAny_mono h (fun _ _ x => x) fun _ _ x => x.elim)

theorem seg_If {test : Expr} {body orelse : List Stmt} {pos : Pos}
    (h : wpAny M (A.over c fs) (isTrue test env (eval test env)) (fun b s' => if b = true then Seg M A R Y n s₀ c ((execs body env).wrap K H gd lv) fs s' else Seg M A R Y n s₀ c ((execs orelse env).wrap K H gd lv) fs s') (fun _ _ => False) s) :
    Seg M A R Y n s₀ c ((exec (.If test body orelse pos) env).wrap K H gd lv) fs s := by
  rw [exec_If]
  show Seg M A R Y n s₀ c (.at pos fun _ => ((isTrue test env (eval test env)) >>= fun b => if b = true then execs body env else execs orelse env).wrap K H gd lv) fs s
  refine seg_at ?_
  rw [Sem.bind_eq_wrap', Sem.wrap_wrap]
  refine seg_wrap (wpAny_mono h (fun b s' hb => ?_) fun _ _ x => x.elim)
  cases b <;> exact hb

theorem seg_For {target iter : Expr} {body orelse : List Stmt} {pos : Pos}
    (h : wpAny M (A.over c fs) (eval iter env) (fun x s₁ => wpAny M (A.over c fs) (pyIter x) (fun it s₂ =>
      ∀ p, Seg M A R Y n s₀ (.forLoop target it body orelse env) (M.den (.forLoop target it body orelse env))
        (.ret (fun r => ((match r with | .ok f => (.pure f : Sem Flow) | .error e => .raise e).onRaise fun (x : Value) => do
          if (← field x 1) == Value.none then unsupported "frame.own-activation:exception-without-traceback"
          setFlight x env.frame).wrap K H gd lv) none (gd false) (lv []) c p [] :: fs) s₂) (fun _ _ => False) s₁) (fun _ _ => False) s)
    (hs : ∀ x, foldedSetIterable iter env x = pure x := by intro _; rfl) :
    Seg M A R Y n s₀ c ((exec (.For target iter body orelse pos) env).wrap K H gd lv) fs s := by
  rw [exec_For]
  show Seg M A R Y n s₀ c (.at pos fun _ => ((eval iter env) >>= fun x => (foldedSetIterable iter env x >>= fun x => (standAt iter.pos >>= fun _ => (holding [x] (pyIter x) >>= fun it => runOwn (.forLoop target it body orelse env) env)))).wrap K H gd lv) fs s
  refine seg_at ?_
  rw [Sem.bind_eq_wrap', Sem.wrap_wrap]
  refine seg_wrap (wpAny_mono h (fun x s₁ h₁ => ?_) fun _ _ x => x.elim)
  rw [hs x]
  show Seg M A R Y n s₀ c (.at iter.pos fun _ => ((holding [x] (pyIter x)) >>= fun it => runOwn (.forLoop target it body orelse env) env).wrap K H gd lv) fs s₁
  refine seg_at ?_
  rw [Sem.bind_eq_wrap', Sem.wrap_wrap]
  refine seg_wrap (wpAny_mono (wpAny_holding h₁) (fun it s₂ h₂ => ?_) fun _ _ x => x.elim)
  exact seg_call h₂
end

section
variable {prog : Program} {w : World} {A : Around} {R : GenEnd} {Y : Protocol} {n : Nat} {s₀ : Shared} {fs : List Frame} {s : Shared} {env : Env}

theorem seg_forLoop {target : Expr} {it : Value} {body orelse : List Stmt}
    (h : wpAny (model prog w) (A.over (.forLoop target it body orelse env) fs) (pyNext it) (fun r s₁ => match r with
      | none => Seg (model prog w) A R Y n s₀ (.block orelse env) ((model prog w).den (.block orelse env)) fs s₁
      | some v => wpAny (model prog w) (A.over (.forLoop target it body orelse env) fs) (letOwnedTupleGo target it v) (fun _ s₂ =>
          wpAny (model prog w) (A.over (.forLoop target it body orelse env) fs) (assign target env v) (fun _ s₃ =>
            Seg (model prog w) A R Y n s₀ (.forLoop target it body orelse env) ((execs body env).wrap (fun f => match f with
              | .next | .cont => .pure (.again (.forLoop target it body orelse env))
              | .brk => .pure (.done .next)
              | .ret v => .pure (.done (.ret v))) (fun e => (do noteFrame e env; theTreesLotGoes e : Sem Unit).wrap (fun _ => .raise e) .raise id id) id id) fs s₃) (fun _ _ => False) s₂) (fun _ _ => False) s₁) (fun _ _ => False) s) :
    Seg (model prog w) A R Y n s₀ (.forLoop target it body orelse env) ((model prog w).den (.forLoop target it body orelse env)) fs s := by
  show Seg _ A R Y n s₀ _ ((forTurn target it body orelse env).onRaise (fun x => do noteFrame x env; theTreesLotGoes x)) fs s
  unfold forTurn
  rw [Sem.onRaise_eq_wrap]
  show Seg _ A R Y n s₀ _ (.at target.pos fun _ => ((pyNext it).onRaise (fun _ => standAt { target.pos with line := 0 }) >>= _).wrap _ _ _ _) fs s
  refine seg_at ?_
  rw [Sem.bind_eq_wrap', Sem.wrap_wrap]
  refine seg_wrap (wpAny_onRaise (wpAny_mono h (fun r s₁ h₁ => ?_) fun _ _ x => x.elim))
  cases r with
  | none => exact seg_again rfl h₁
  | some v =>
    show Seg _ A R Y n s₀ _ ((letOwnedTupleGo target it v >>= fun _ => assign target env v >>= _).wrap _ _ _ _) fs s₁
    rw [Sem.bind_eq_wrap', Sem.wrap_wrap]
    refine seg_wrap (wpAny_mono h₁ (fun _ s₂ h₂ => ?_) fun _ _ x => x.elim)
    rw [Sem.bind_eq_wrap', Sem.wrap_wrap]
    refine seg_wrap (wpAny_mono h₂ (fun _ s₃ h₃ => ?_) fun _ _ x => x.elim)
    rw [Sem.bind_eq_wrap', Sem.wrap_wrap]
    rw [Sem.wrap_congr (execs body env) _ _ (K' := fun f => match f with
            | .next | .cont => .pure (.again (.forLoop target it body orelse env))
            | .brk => .pure (.done .next)
            | .ret v => .pure (.done (.ret v))) (H' := (fun e => (do noteFrame e env; theTreesLotGoes e : Sem Unit).wrap (fun _ => .raise e) .raise id id))
        (fun f => by cases f <;> rfl)
        (fun e => by first | exact Sem.bind_eq_wrap _ _ | (show (do noteFrame e env; theTreesLotGoes e : Sem Unit).bind (fun _ => .raise e) = _; rw [Sem.bind_eq_wrap]))]
    exact h₃
end

/-- the loop goes on, nearer to its end -/
noncomputable def Again (I : Nat → Shared → Prop) (n : Nat) (s : Shared) : Prop := ∃ m, m < n ∧ I m s
theorem Again.mk {I : Nat → Shared → Prop} {n m : Nat} {s : Shared} (h : m < n) (hI : I m s) : Again I n s := ⟨m, h, hI⟩
/-- a for loop by an invariant; nothing is raised -/
theorem loop_inv {prog : Program} {w : World} {A : Around} {s : Shared} {env : Env} {target : Expr} {it : Value} {body : List Stmt} {Q : Flow → Shared → Prop} {E : Value → Shared → Prop} (I : Nat → Shared → Prop)
    (turn : ∀ n s, I n s → wpAny (model prog w) A (pyNext it) (fun r s₁ => match r with
      | none => Q .next s₁
      | some v => wpAny (model prog w) A (letOwnedTupleGo target it v) (fun _ s₁' =>
          wpAny (model prog w) A (assign target env v) (fun _ s₂ => wpAny (model prog w) A (execs body env) (fun f s₃ => match f with
            | .next => Again I n s₃
            | .cont => Again I n s₃
            | .brk => Q .next s₃
            | .ret v => Q (.ret v) s₃) (fun _ _ => False) s₂) (fun _ _ => False) s₁') (fun _ _ => False) s₁) (fun _ _ => False) s)
    (n : Nat) (h : I n s) : codeAny (model prog w) A (.forLoop target it body [] env) (fun r s' => match r with | .ok f => Q f s' | .error e => cameBackBy (model prog w) A env E e s') s := by
  refine codeAny_forLoop_any I (fun n s hI => ?_) n h
  refine wpAny_mono (turn n s hI) (fun r s₁ h₁ => ?_) fun _ _ x => x.elim
  cases r with
  | none => exact wpAny_execs_nil h₁
  | some v => exact wpAny_mono h₁ (fun _ s₂ h₂ => wpAny_mono h₂ (fun _ s₃ h₃ => wpAny_mono h₃ (fun f s₄ h₄ => by cases f <;> exact h₄) fun _ _ x => x.elim) fun _ _ x => x.elim) fun _ _ x => x.elim
end
section /- GenA -/
noncomputable def escGo : Nat → Bool → List Nat → List (Nat × Str)
  | _, false, [] => []
  | i, true, [] => [(i - 1, Str.ofString "\\")]
  | i, true, c :: cs => (i, Str.ofString "\\" ++ ⟨#[c]⟩) :: escGo (i + 1) false cs
  | i, false, c :: cs => if (⟨#[c]⟩ : Str) = Str.ofString "\\" then escGo (i + 1) true cs else (i, ⟨#[c]⟩) :: escGo (i + 1) false cs
noncomputable def escItems (x : Str) : List (Nat × Str) := escGo 0 false x.cps.toList

/-- what a generator's turn may change besides its own frame: an iterator's record -/
noncomputable def Movable (o : Obj) : Prop := (∃ vs, o.data = .fields vs) ∧ o.cls ≠ .type "generator"
noncomputable def Since (C : Addr) (s₀ s₁ : Shared) : Prop := ∃ h' tk, s₁ = { s₀ with heap := h', toks := tk } ∧ ∀ b o, b ≠ C → ¬ Movable o → s₀.heap.get? b = some o → h'.get? b = some o
noncomputable def EEnd (h₀ : Heap) (C : Addr) : GenEnd := fun n s₀ r s₁ => r = .ok (.ret .none) ∧ (n = 0 ∧ Since C s₀ s₁ ∧ Kp h₀ s₁.heap)
noncomputable def OwnAre (C : Addr) (own : List Addr) (h : Heap) : Prop := ∀ b ∈ own, b = C ∨ ∃ o, h.get? b = some o ∧ Movable o
noncomputable def EYield (h₀ : Heap) (C : Addr) (items : List (Nat × Str)) : Protocol := fun n s₀ v s₁ kap =>
  ∃ (pos : Nat) (ch : Str) (T : Addr) (t1 t2 : Tok) (own : List Addr), items[items.length - 1 - n]? = some (pos, ch) ∧ v = .ref T ∧ s₁.heap.IsTuple T #[.int pos t1, .str ch t2] ∧ OwnAre C own s₁.heap ∧ Since C s₀ s₁ ∧ Kp h₀ s₁.heap ∧
    ∀ s'', Kp h₀ s''.heap → (∀ b ∈ own, ∀ o, s₁.heap.get? b = some o → s''.heap.get? b = some o) → kap (.send .none) s''
noncomputable def ESt (w : World) (A : Around) (h₀ : Heap) (a g : Nat) (C : Addr) (own : List Addr) (items : List (Nat × Str)) (k : Nat) (s : Shared) : Prop :=
  s.heap.IsGen a g ∧ OwnAre C own s.heap ∧ ∃ gs, s.gens[g]? = some gs ∧ gs.bare = true ∧ ∀ s'', Kp h₀ s''.heap → (∀ b ∈ own, ∀ o, s.heap.get? b = some o → s''.heap.get? b = some o) →
    gs.Goes (model PySem.Challenge.rw_ik0197_01.row.prog w) A (EEnd h₀ C) (EYield h₀ C items) k (.send .none) s''

theorem strDraws (w : World) (it : Addr) (x : Str) (t : Tok) : ∃ St : Nat → Heap → Prop,
    (∀ A : Around, A.handled = none → Draws (PySem.Challenge.rw_ik0197_01.row.prog) w A it [it] x.cps.size (fun i v => ∃ c u, x.cps[i]? = some c ∧ v = .str ⟨#[c]⟩ u) St) ∧
    (∀ h, h.IsStrIter it (strIterType x) x t 0 → St 0 h) ∧ (∀ i h, St i h → ∃ o, h.get? it = some o ∧ Movable o) := by
  cases ha : x.cps.all (· < 128)
  · refine ⟨_, fun A hA => Draws.strWide hA it x t, fun h y => by simpa [strIterType, ha] using y, ?_⟩
    rintro i h ⟨o, ho, hc, hd⟩
    exact ⟨o, ho, ⟨_, hd⟩, by rw [hc]; simp⟩
  · refine ⟨_, fun A hA => Draws.strAscii hA it x t, fun h y => by simpa [strIterType, ha] using y, ?_⟩
    rintro i h ⟨o, ho, hc, hd⟩
    exact ⟨o, ho, ⟨_, hd⟩, by rw [hc]; simp⟩

open Classical in
theorem allNews (h₀ h : Heap) (C : Addr) : ∃ cons : List (Addr × Obj), News h₀ C h cons ∧ (∀ p ∈ cons, ¬ Movable p.2) ∧
    ∀ b o, b ≠ C → ¬ Movable o → h.get? b = some o → (∃ o', h₀.get? b = some o') ∨ (b, o) ∈ cons := by
  refine ⟨(List.range h.objs.size).filterMap fun b => match h.get? b with
    | some o => if b ≠ C ∧ ¬ Movable o ∧ h₀.get? b = none then some (b, o) else none
    | none => none, ?_, ?_, ?_⟩
  · intro p hp
    obtain ⟨b, _, hb⟩ := List.mem_filterMap.mp hp
    split at hb
    · rename_i o ho
      split at hb
      · rename_i hc; cases hb; exact ⟨ho, hc.1, hc.2.2⟩
      · cases hb
    · cases hb
  · intro p hp
    obtain ⟨b, _, hb⟩ := List.mem_filterMap.mp hp
    split at hb
    · split at hb
      · rename_i hc; cases hb; exact hc.2.1
      · cases hb
    · cases hb
  · intro b o hb hm ho
    cases q : h₀.get? b with
    | some o' => exact .inl ⟨o', rfl⟩
    | none => exact .inr (List.mem_filterMap.mpr ⟨b, List.mem_range.mpr (Heap.lt_size ho), by simp [ho, hb, hm, q]⟩)

/-- the ledger that holds all else of a heap -/
noncomputable def Cov (h₀ : Heap) (C : Addr) (h : Heap) (cons : List (Addr × Obj)) : Prop :=
  (∀ p ∈ cons, ¬ Movable p.2) ∧ (∀ b o, b ≠ C → ¬ Movable o → h.get? b = some o → (∃ o', h₀.get? b = some o') ∨ (b, o) ∈ cons) ∧ Kp h₀ h
theorem Cov.since {h₀ : Heap} {C : Addr} {cons news : List (Addr × Obj)} {s₀ : Shared} {h : Heap} {tk : Nat} {m : Str → Option Value} (c : Cov h₀ C s₀.heap cons) (F : Fr h₀ C h m) (N : News h₀ C h news) (hs : ∀ p ∈ cons, p ∈ news) :
    Since C s₀ { s₀ with heap := h, toks := tk } := by
  refine ⟨h, tk, rfl, fun b o hb hm ho => ?_⟩
  rcases c.2.1 b o hb hm ho with ⟨o', e⟩ | e
  · have := c.2.2 b o' e
    rw [ho] at this; cases this
    exact F.keep b o e
  · exact (N _ (hs _ e)).1

theorem seg_induct {M : Model} {A : Around} {R : GenEnd} {Y : Protocol} {c : Code} {fs : List Frame} (I : Nat → Nat → Shared → Shared → Prop)
    (turn : ∀ k, (∀ k' n s₀ s, k' < k → I k' n s₀ s → Seg M A R Y n s₀ c (M.den c) fs s) → ∀ n s₀ s, I k n s₀ s → Seg M A R Y n s₀ c (M.den c) fs s) :
    ∀ k n s₀ s, I k n s₀ s → Seg M A R Y n s₀ c (M.den c) fs s := by
  intro k
  induction k using Nat.strongRecOn with
  | ind k ih => exact turn k fun k' n s₀ s hk hI => ih k' hk n s₀ s hI

theorem assign_pair {w : World} {A : Around} {s : Shared} {E : Value → Shared → Prop} {h₀ : Heap} {L f : Addr} {m : Str → Option Value} {news : List (Addr × Obj)} {qual : Str} {scope : Scope} {cdv : Value} {x1 x2 : Str} {p1 p2 pt : Pos} {kk : Nat} {T : Addr} {v1 v2 : Value} {Q : Unit → Shared → Prop}
    (hh : A.handled = none) (F : Fr h₀ L s.heap m) (N : News h₀ L s.heap news) (hT : s.heap.IsTuple T #[v1, v2])
    (h : ∀ h' tk, Fr h₀ L h' (fun y => if y = x2 then some v2 else if y = x1 then some v1 else m y) → News h₀ L h' news → (∀ b o, b ≠ L → s.heap.get? b = some o → h'.get? b = some o) → Q () { s with heap := h', toks := tk })
    (hk : scope.kind = .function := by rfl) (h1 : (envOf qual scope L f cdv).kindOf x1 = some .local := by rfl) (h2 : (envOf qual scope L f cdv).kindOf x2 = some .local := by rfl) :
    wpAny (model PySem.Challenge.rw_ik0197_01.row.prog w) A (assign (.Tuple [.Name x1 p1, .Name x2 p2] kk pt) (envOf qual scope L f cdv) (.ref T)) Q E s := by
  refine wpAny_assign_Tuple hh hT rfl rfl fun h₃ hx₃ => ?_
  have k₃ : Kp s.heap h₃ := fun b o e => hx₃ b o (Nat.ne_of_lt (Heap.lt_size e)) e
  show wpAny _ A (do holding [v2] (assign (.Name x1 p1) (envOf qual scope L f cdv) v1); do holding [] (assign (.Name x2 p2) (envOf qual scope L f cdv) v2); pure ()) _ _ _
  refine wpAny_bind (wpAny_holding (wpAny_assign_Name (wpAny_storeName_local h1 (Fr.kp F k₃).ns (fun h₄ hn₄ hs₄ => ?_) (by show (scope.kind == .class || (scope.kind == .module && L != mainGlobals)) = false; rw [hk]; rfl))))
  have F₄ := (Fr.kp F k₃).set hn₄ hs₄
  have N₄ := (News.kp N k₃).set hs₄
  refine wpAny_bind (wpAny_holding (wpAny_assign_Name (wpAny_storeName_local h2 F₄.ns (fun h₅ hn₅ hs₅ => wpAny_pure ?_) (by show (scope.kind == .class || (scope.kind == .module && L != mainGlobals)) = false; rw [hk]; rfl))))
  exact h h₅ _ (F₄.set hn₅ hs₅) (N₄.set hs₅) fun b o hb e => hs₅.extBut b o hb (hs₄.extBut b o hb (k₃ b o e))

/-- the loop's state in the generator: i signs are read -/
noncomputable def EInv (x : Str) (h₀ : Heap) (C I : Addr) (StD : Nat → Heap → Prop) (k n : Nat) (s₀ s : Shared) : Prop :=
  ∃ i e h tk m cons, i + k = x.cps.size ∧ n = (escGo i e (x.cps.toList.drop i)).length ∧ n ≤ (escItems x).length ∧ (escItems x).drop ((escItems x).length - n) = escGo i e (x.cps.toList.drop i) ∧
    s = { s₀ with heap := h, toks := tk } ∧ Cov h₀ C s₀.heap cons ∧ Fr h₀ C h m ∧ News h₀ C h cons ∧ (∀ p ∈ cons, p.1 ≠ I + 1 ∧ p.1 ≠ I) ∧
    m (Str.ofString "escape") = some (.bool e) ∧ (∃ tp, m (Str.ofString "pos") = some (.int ((i - 1 : Nat) : Int) tp)) ∧ (∃ old, IsEnum h (I + 1) I i old) ∧ StD i h

theorem EInv.wake {w : World} {x : Str} {h₀ h : Heap} {C I : Addr} {StD : Nat → Heap → Prop} {i : Nat} {j : Int} {old : Value} {m : Str → Option Value} {s₃ : Shared} (hD : Draws (PySem.Challenge.rw_ik0197_01.row.prog) w (ar 0 0) I [I] x.cps.size (fun i v => ∃ c u, x.cps[i]? = some c ∧ v = .str ⟨#[c]⟩ u) StD)
    (hDM : ∀ i h, StD i h → ∃ o, h.get? I = some o ∧ Movable o) (F : Fr h₀ C h m) (hen : IsEnum h (I + 1) I j old) (hst : StD i h) (hk : Kp h₀ s₃.heap) (hown : ∀ b ∈ [C, I + 1, I], ∀ o, h.get? b = some o → s₃.heap.get? b = some o) :
    ∃ cons, Cov h₀ C s₃.heap cons ∧ Fr h₀ C s₃.heap m ∧ News h₀ C s₃.heap cons ∧ (∀ p ∈ cons, p.1 ≠ I + 1 ∧ p.1 ≠ I) ∧ IsEnum s₃.heap (I + 1) I j old ∧ StD i s₃.heap := by
  obtain ⟨cons, N, hcm, hcv⟩ := allNews h₀ s₃.heap C
  have hen₃ : IsEnum s₃.heap (I + 1) I j old := hown _ (by simp) _ hen
  have hst₃ : StD i s₃.heap := hD.frame _ _ _ hst fun b hb o e => hown b (by rw [List.mem_singleton.mp hb]; simp) o e
  refine ⟨cons, ⟨hcm, hcv, hk⟩, ⟨F.ns.at' fun o e => hown _ (by simp) o e, hk, F.above⟩, N, fun p hp => ⟨fun e => ?_, fun e => ?_⟩, hen₃, hst₃⟩
  · have := (N p hp).1
    rw [e, show s₃.heap.get? (I + 1) = _ from hen₃] at this
    exact hcm p hp (by rw [← Option.some.inj this]; exact ⟨⟨_, rfl⟩, by simp⟩)
  · obtain ⟨o, ho, hm⟩ := hDM _ _ hst₃
    have := (N p hp).1
    rw [e, ho] at this
    exact hcm p hp (by rw [← Option.some.inj this]; exact hm)
theorem own3 {h : Heap} {C I : Addr} {it : Addr} {j : Int} {old : Value} {StD : Nat → Heap → Prop} {i : Nat} (hen : IsEnum h (I + 1) it j old) (hDM : ∀ i h, StD i h → ∃ o, h.get? I = some o ∧ Movable o) (hst : StD i h) : OwnAre C [C, I + 1, I] h := by
  intro b hb
  rcases List.mem_cons.mp hb with rfl | hb
  · exact .inl rfl
  rcases List.mem_cons.mp hb with rfl | hb
  · exact .inr ⟨_, hen, ⟨_, rfl⟩, by simp⟩
  · rw [List.mem_singleton.mp hb]; exact .inr (hDM _ _ hst)
theorem drop_next {α : Type} {items rest : List α} {a : α} {n : Nat} (hn : n + 1 ≤ items.length) (h : items.drop (items.length - (n + 1)) = a :: rest) : items.drop (items.length - n) = rest := by
  have e : items.length - n = items.length - (n + 1) + 1 := (Nat.succ_sub_succ items.length n).symm.trans (Nat.succ_sub hn)
  rw [e, ← List.drop_drop, h]; rfl
theorem item_at {α : Type} {items rest : List α} {a : α} {n : Nat} (h : items.drop (items.length - (n + 1)) = a :: rest) : items[items.length - 1 - n]? = some a := by
  have e := congrArg List.head? h
  rw [List.head?_drop] at e
  rw [show items.length - 1 - n = items.length - (n + 1) by rw [Nat.sub_sub, Nat.add_comm 1 n]]
  exact e
theorem Since.refl (C : Addr) (s : Shared) : Since C s s := ⟨s.heap, s.toks, rfl, fun _ _ _ _ e => e⟩

theorem esc_call {w : World} {mg mb : Str → Option Value} {mean : ExcName → Option Value} {s : Shared} {d u : Nat} {x : Str} {t : Tok} {h₀ : Heap} {L : Addr} {m : Str → Option Value} {Q : Value → Shared → Prop} {E : Value → Shared → Prop}
    (X : (hd.heap_1 w.params).In h₀) (T : Top view39 (looseW view39 []) mean mg mb h₀) (hd : d < 600) (F : Fr h₀ L s.heap m)
    (h : ∀ a C h' g' tk, Kp s.heap h' → s.heap.objs.size = C → a = C + 1 → ESt w (ar d (u + 1)) h₀ a s.gens.size C [C] (escItems x) (escItems x).length ⟨h', s.gens.push g', s.drawn, tk, s.os⟩ → g'.bare = true →
      Q (.ref a) ⟨h', s.gens.push g', s.drawn, tk, s.os⟩) :
    wpAny (model PySem.Challenge.rw_ik0197_01.row.prog w) (ar d u) (call (.ref 28) [.str x t] []) Q E s := by
  refine wpAny_call (enterGen (binds := [(Str.ofString "addr", .str x t)]) (X.keeps F.keep) (T.nolimit.keeps F.keep) (by k_is) (by k_is) (show d < 1000 by omega) (BindsTo.of_eq rfl) (locs rfl) ?_)
  intro h₁ hns hk hsz
  have FC : Fr h₀ s.heap.objs.size h₁ (fun y => if y = Str.ofString "addr" then some (.str x t) else none) := ⟨by
    have e : (fun y : Str => ([(Str.ofString "addr", Value.str x t)] : List (Str × Value)).reverse.lookup y) = fun y : Str => if y = Str.ofString "addr" then some (.str x t) else none := by
      funext y
      by_cases hy : y = Str.ofString "addr"
      · subst hy; simp
      · have : (y == Str.ofString "addr") = false := by simpa using hy
        simp [List.lookup, this, hy]
    rw [← e]; exact hns, fun b o e => hk b o (F.keep b o e), Nat.le_of_lt (Nat.lt_of_le_of_lt F.above F.ns.lt)⟩
  generalize hC : s.heap.objs.size = C at *
  refine h _ C _ _ _ (hk.trans fun b o e => Heap.get?_push_of_some _ e) rfl hsz ⟨⟨_, _, _, Heap.get?_push_size _ rfl, rfl, rfl, rfl⟩, ?_, _, Array.getElem?_push_size .., rfl, ?_⟩ rfl
  · intro b hb; exact .inl (List.mem_singleton.mp hb)
  intro s'' hk'' hown
  refine ⟨rfl, ?_⟩
  have F' : Fr h₀ C s''.heap (fun y => if y = Str.ofString "addr" then some (.str x t) else none) := ⟨FC.ns.at' fun o e => hown C (by simp) o (Heap.get?_push_of_some _ e), hk'', FC.above⟩
  clear hown hk'' hk hsz h hns FC F hC
  obtain ⟨cons, N', hcm, hcv⟩ := allNews h₀ s''.heap C
  have cov : Cov h₀ C s''.heap cons := ⟨hcm, hcv, F'.keep⟩
  clear hcm hcv
  refine seg_func ?_
  refine seg_execs_cons (seg_stmt ?_)
  repeat' (walk_at "wN")
  dsimp only
  refine seg_execs_cons (seg_stmt ?_)
  repeat' (walk_at "wN")
  dsimp only
  refine seg_execs_cons (seg_For ?_)
  iterate 6 walk_at "wN"
  refine call_enumerate_str fun h₂ he hit hsz hk => ?_
  (with_reducible rename Fr _ _ _ _ => F₁)
  (with_reducible rename News _ _ _ _ => N₁)
  have F₂ := Fr.kp F₁ hk
  have N₂ := News.kp N₁ hk
  have hCI := ltN F₁.ns.lt
  have hfr : ∀ p ∈ cons, _ := fun p hp => ltN (Heap.lt_size (N₁ p hp).1)
  dsimp only at he hit hsz hk ⊢
  generalize Array.size (Heap.objs _) = I at he hit hsz hCI hfr ⊢
  obtain ⟨StD, hD, hD0, hDM⟩ := strDraws w I x t
  have W : ∀ A : Around, A.handled = none → WalksT (PySem.Challenge.rw_ik0197_01.row.prog) w A (I + 1) [I + 1, I] [I + 1, I] x.cps.size _ _ _ := fun A hA =>
    WalksT.enumerateD (hD A.in1 hA) (I + 1) (Nat.succ_ne_self I) (by simp) (by simp)
  refine (W _ rfl).self 0 _ _ _ ⟨⟨_, he⟩, hD0 _ hit⟩ ?_
  intro p
  have hCI1 : C ≠ I + 1 := by k_ne
  have hCI0 : C ≠ I := by k_ne
  have hb0 : ∀ b o, h₀.get? b = some o → b ≠ I + 1 ∧ b ≠ I := fun b o e => by
    have h1 := ltN (Heap.lt_size e); have h2 : @LE.le Nat _ _ _ := F₂.above; exact ⟨by k_ne, by k_ne⟩
  refine seg_induct (EInv x h₀ C I StD) ?_ x.cps.size _ _ _ ⟨0, false, h₂, _, _, cons, by simp, rfl, Nat.le_refl _, by simp [escItems], rfl, cov, F₂, N₂, fun p hp => ⟨?_, ?_⟩, rfl, ⟨_, rfl⟩, ⟨_, he⟩, hD0 _ hit⟩
  rotate_left
  · have h1 := hfr p hp; k_ne
  · have h1 := hfr p hp; k_ne
  clear hk he hit hsz F₂ N₂ F₁ N₁ cov hfr
  rintro k ih n s₀ s' ⟨i, e, h, tk, m, cons, hik, hn, hle, hdr, rfl, cov, F, N, hne, hme, ⟨tp, hmp⟩, hen, hst⟩
  refine seg_forLoop ?_
  cases k with
  | zero =>
    have hi : i = x.cps.size := by omega
    subst hi
    refine (W _ rfl).done _ _ _ ⟨hen, hst⟩ fun h' tk' hkeep => ?_
    have F' : Fr h₀ C h' m := ⟨F.ns.at' fun o e => hkeep _ o (by simp [hCI1, hCI0]) e, fun b o e => hkeep _ o (by have := hb0 b o e; simp [this.1, this.2]) (F.keep b o e), F.above⟩
    have N' : News h₀ C h' cons := fun p hp => ⟨hkeep _ _ (by have := hne p hp; simp [this.1, this.2]) (N p hp).1, (N p hp).2⟩
    have F'' := Fr.know2 F' hme hmp
    clear F F' N hkeep
    refine seg_leaf (.ok .next) ?_
    refine seg_execs_cons (seg_If ?_)
    have hd0 : x.cps.toList.drop x.cps.size = [] := List.drop_of_length_le (by simp)
    rw [hd0] at hn hdr
    cases e
    · repeat' (walk_at "wN")
      show Seg _ _ _ _ _ _ _ (leafOf (.ok (.ret .none))) [] _
      exact seg_end (.ok (.ret .none)) ⟨rfl, by simpa [escGo] using hn, cov.since F'' N' fun _ h => h, F''.keep⟩
    · repeat' (walk_at "wN")
      have hn1 : n = 0 + 1 := by rw [hn]; rfl
      subst hn1
      refine seg_execs_cons (seg_Expr_Yield rfl rfl rfl ?_)
      repeat' (walk_at "wN")
      rename_i kap hkap
      (with_reducible rename Fr _ _ _ _ => F₃)
      (with_reducible rename News _ _ _ _ => N₃)
      refine ⟨_, _, _, _, _, [C], item_at hdr, rfl, ⟨_, (N₃ _ (.head _)).1, rfl, _, rfl⟩, fun b hb => .inl (List.mem_singleton.mp hb), cov.since F₃ N₃ fun _ h => .tail _ h, F₃.keep, fun s₃ hk₃ _ => hkap .none s₃ ?_⟩
      show Seg _ _ _ _ _ _ _ (leafOf (.ok (.ret .none))) [] _
      exact seg_end (.ok (.ret .none)) ⟨rfl, rfl, Since.refl _ _, hk₃⟩
  | succ k =>
    have hi : i < x.cps.size := by omega
    have hc : x.cps.toList.drop i = x.cps[i] :: x.cps.toList.drop (i + 1) := by
      rw [List.drop_eq_getElem_cons (by simpa using hi)]; simp
    refine (W _ rfl).item i _ _ _ hi ⟨hen, hst⟩ fun T vals h₃ tk₃ hvals _ hT hmid hkeep => ?_
    obtain ⟨t₃, x₃, ⟨c, u₃, hcx, rfl⟩, rfl⟩ := hvals
    have hcx' : x.cps[i] = c := by simpa [hi] using hcx
    rw [hcx'] at hc
    refine (W _ rfl).go _ _ _ i T _ _ _ hmid fun h₄ hst₄ hkeep₄ => ?_
    have F₄ : Fr h₀ C h₄ m := ⟨F.ns.at' fun o e => hkeep₄ _ o (by simp [hCI1, hCI0]) (hkeep _ o (by simp [hCI1, hCI0]) e), fun b o e => hkeep₄ _ o (by have := hb0 b o e; simp [this.1, this.2]) (hkeep _ o (by have := hb0 b o e; simp [this.1, this.2]) (F.keep b o e)), F.above⟩
    have N₄ : News h₀ C h₄ cons := fun p hp => ⟨hkeep₄ _ _ (by have := hne p hp; simp [this.1, this.2]) (hkeep _ _ (by have := hne p hp; simp [this.1, this.2]) (N p hp).1), (N p hp).2⟩
    have hT₄ : h₄.IsTuple T #[.int i t₃, .str ⟨#[c]⟩ u₃] := by
      obtain ⟨o, ho, r⟩ := hT
      exact ⟨o, hkeep₄ T o (by simp [hmid.2.2.1, hmid.2.2.2]) ho, r⟩
    obtain ⟨⟨old₄, hen₄⟩, hst₄⟩ : (∃ old, IsEnum h₄ (I + 1) I ((i + 1 : Nat) : Int) old) ∧ StD (i + 1) h₄ := hst₄
    refine assign_pair rfl F₄ N₄ hT₄ fun h₅ tk₅ F₅ N₅ hk₅ => ?_
    dsimp only at F₅ N₅ hk₅ ⊢
    have hen₅ : IsEnum h₅ (I + 1) I ((i + 1 : Nat) : Int) old₄ := hk₅ _ _ (Ne.symm hCI1) hen₄
    have hst₅ : StD (i + 1) h₅ := (hD (ar 0 0) rfl).frame _ _ _ hst₄ fun b hb o e => hk₅ b o (by rw [List.mem_singleton.mp hb]; exact Ne.symm hCI0) e
    obtain ⟨oI, hoI, _⟩ := hDM _ _ hst₅
    obtain ⟨oE, hoE⟩ : ∃ oE, ∀ h', IsEnum h' (I + 1) I ((i + 1 : Nat) : Int) old₄ = (h'.get? (I + 1) = some oE) := ⟨_, fun _ => rfl⟩
    have hnI : h₀.get? I = none := by
      cases q : h₀.get? I with
      | none => rfl
      | some o => exact absurd rfl (hb0 _ _ q).2
    have hnE : h₀.get? (I + 1) = none := by
      cases q : h₀.get? (I + 1) with
      | none => rfl
      | some o => exact absurd rfl (hb0 _ _ q).1
    have N₆ : News h₀ C h₅ ((I + 1, oE) :: (I, oI) :: cons) := fun p hp => by
      rcases List.mem_cons.mp hp with rfl | hp
      · exact ⟨(hoE _).mp hen₅, Ne.symm hCI1, hnE⟩
      rcases List.mem_cons.mp hp with rfl | hp
      · exact ⟨hoI, Ne.symm hCI0, hnI⟩
      · exact N₅ p hp
    have back : ∀ (h' : Heap) (news : List (Addr × Obj)), News h₀ C h' news → (I + 1, oE) ∈ news → (I, oI) ∈ news → IsEnum h' (I + 1) I ((i + 1 : Nat) : Int) old₄ ∧ StD (i + 1) h' := fun h' news N' hs1 hs2 =>
      ⟨(hoE _).mpr (N' _ hs1).1, (hD (ar 0 0) rfl).frame _ _ _ hst₅ fun b hb o e => by
        rw [List.mem_singleton.mp hb] at e ⊢
        rw [hoI] at e; cases e
        exact (N' _ hs2).1⟩
    have F₆ := Fr.know F₅ (a := Str.ofString "escape") (v := .bool e) (by rw [if_neg (by decide), if_neg (by decide)]; exact hme)
    have fin : ∀ n s₀ cons e h' tk m', Cov h₀ C s₀.heap cons → Fr h₀ C h' m' → News h₀ C h' ((I + 1, oE) :: (I, oI) :: cons) → (∀ p ∈ cons, p.1 ≠ I + 1 ∧ p.1 ≠ I) → m' (Str.ofString "escape") = some (.bool e) →
        m' (Str.ofString "pos") = some (.int (i : Int) t₃) → n = (escGo (i + 1) e (x.cps.toList.drop (i + 1))).length → n ≤ (escItems x).length → (escItems x).drop ((escItems x).length - n) = escGo (i + 1) e (x.cps.toList.drop (i + 1)) →
        EInv x h₀ C I StD k n s₀ { s₀ with heap := h', toks := tk } := fun n s₀ cons e h' tk m' cv F N hne h1 h2 h3 h4 h5 =>
      ⟨i + 1, e, h', tk, m', cons, by omega, h3, h4, h5, rfl, cv, F, fun p hp => N p (.tail _ (.tail _ hp)), hne, h1, ⟨t₃, h2⟩, ⟨_, (back _ _ N (.head _) (.tail _ (.head _))).1⟩, (back _ _ N (.head _) (.tail _ (.head _))).2⟩
    clear F F₄ N N₄ N₅ F₅ hkeep hkeep₄ hk₅ hT hT₄ hst₄ hen₄ hmid hen hst hmp hme
    rw [hc] at hn hdr
    refine seg_execs_cons (seg_If ?_)
    cases e
    · repeat' (walk_at "wN")
      refine seg_execs_cons (seg_If ?_)
      repeat' (walk_at "wN")
      · rename_i hce
        have hce := eq_of_beq hce
        rw [escGo, if_pos hce] at hn hdr
        refine seg_execs_cons (seg_stmt ?_)
        repeat' (walk_at "wN")
        show Seg _ _ _ _ _ _ _ (.pure (.again _)) _ _
        exact seg_again rfl (ih k _ _ _ (Nat.lt_succ_self k) (fin _ _ _ true _ _ _ cov (by assumption) (by assumption) hne (by simp) (by simp [show (Str.ofString "pos" = Str.ofString "escape") = False from by decide, show (Str.ofString "pos" = Str.ofString "ch") = False from by decide]) hn hle hdr))
      · rename_i hce
        have hce : ¬ (⟨#[c]⟩ : Str) = Str.ofString "\\" := fun e => by rw [e] at hce; cases hce
        rw [escGo, if_neg hce] at hn hdr
        obtain ⟨n, rfl⟩ : ∃ n', n = n' + 1 := ⟨_, hn⟩
        refine seg_execs_cons (seg_Expr_Yield rfl rfl rfl ?_)
        repeat' (walk_at "wN")
        rename_i kap hkap
        (with_reducible rename Fr _ _ _ _ => F₇)
        (with_reducible rename News _ _ _ _ => N₇)
        obtain ⟨hen₇, hst₇⟩ := back _ _ N₇ (.tail _ (.head _)) (.tail _ (.tail _ (.head _)))
        refine ⟨_, _, _, _, _, [C, I + 1, I], item_at hdr, rfl, ⟨_, (N₇ _ (.head _)).1, rfl, _, rfl⟩, own3 hen₇ hDM hst₇, cov.since F₇ N₇ fun _ h => .tail _ (.tail _ (.tail _ h)), F₇.keep, fun s₃ hk₃ hown₃ => hkap .none s₃ ?_⟩
        obtain ⟨cons₃, cov₃, F₈, N₈, hne₃, hen₈, hst₈⟩ := EInv.wake (hD _ rfl) hDM F₇ hen₇ hst₇ hk₃ hown₃
        have N₉ : News h₀ C s₃.heap ((I + 1, oE) :: (I, oI) :: cons₃) := fun p hp => by
          rcases List.mem_cons.mp hp with rfl | hp
          · exact ⟨hown₃ _ (by simp) _ (N₇ _ (.tail _ (.head _))).1, Ne.symm hCI1, hnE⟩
          rcases List.mem_cons.mp hp with rfl | hp
          · exact ⟨hown₃ _ (by simp) _ (N₇ _ (.tail _ (.tail _ (.head _)))).1, Ne.symm hCI0, hnI⟩
          · exact N₈ p hp
        show Seg _ _ _ _ _ _ _ (.pure (.again _)) _ _
        exact seg_again rfl (ih k _ _ _ (Nat.lt_succ_self k) (fin _ _ _ false _ _ _ cov₃ F₈ N₉ hne₃ (by simp) (by simp [show (Str.ofString "pos" = Str.ofString "escape") = False from by decide, show (Str.ofString "pos" = Str.ofString "ch") = False from by decide]) (by simpa using hn) (by omega) (drop_next hle hdr)))
    · rw [escGo] at hn hdr
      obtain ⟨n, rfl⟩ : ∃ n', n = n' + 1 := ⟨_, hn⟩
      repeat' (walk_at "wN")
      refine seg_execs_cons (seg_Expr_Yield rfl rfl rfl ?_)
      repeat' (walk_at "wN")
      rename_i kap hkap
      (with_reducible rename Fr _ _ _ _ => F₇)
      (with_reducible rename News _ _ _ _ => N₇)
      obtain ⟨hen₇, hst₇⟩ := back _ _ N₇ (.tail _ (.head _)) (.tail _ (.tail _ (.head _)))
      refine ⟨_, _, _, _, _, [C, I + 1, I], item_at hdr, rfl, ⟨_, (N₇ _ (.head _)).1, rfl, _, rfl⟩, own3 hen₇ hDM hst₇, cov.since F₇ N₇ fun _ h => .tail _ (.tail _ (.tail _ h)), F₇.keep, fun s₃ hk₃ hown₃ => hkap .none s₃ ?_⟩
      obtain ⟨cons₃, cov₃, F₈, N₈, hne₃, hen₈, hst₈⟩ := EInv.wake (hD _ rfl) hDM F₇ hen₇ hst₇ hk₃ hown₃
      have N₉ : News h₀ C s₃.heap ((I + 1, oE) :: (I, oI) :: cons₃) := fun p hp => by
        rcases List.mem_cons.mp hp with rfl | hp
        · exact ⟨hown₃ _ (by simp) _ (N₇ _ (.tail _ (.head _))).1, Ne.symm hCI1, hnE⟩
        rcases List.mem_cons.mp hp with rfl | hp
        · exact ⟨hown₃ _ (by simp) _ (N₇ _ (.tail _ (.tail _ (.head _)))).1, Ne.symm hCI0, hnI⟩
        · exact N₈ p hp
      clear F₇ N₇ N₈ hown₃
      show Seg _ _ _ _ _ _ _ (Sem.wrap _ _ _ _ (execs [_] _)) _ _
      refine seg_execs_cons (seg_stmt ?_)
      repeat' (walk_at "wN")
      show Seg _ _ _ _ _ _ _ (.pure (.again _)) _ _
      exact seg_again rfl (ih k _ _ _ (Nat.lt_succ_self k) (fin _ _ _ false _ _ _ cov₃ (by assumption) (by assumption) hne₃ (by simp) (by simp [show (Str.ofString "pos" = Str.ofString "escape") = False from by decide, show (Str.ofString "pos" = Str.ofString "ch") = False from by decide]) (by simpa using hn) (by omega) (drop_next hle hdr)))
end
section /- GenB -/
theorem pyNext_genQ {prog : Program} {w : World} {A : Around} {E : Value → Shared → Prop} {s : Shared} {a : Addr} {g n : Nat} {gs : GenState} {P : Nat → Shared → Shared → Prop} {Y : Protocol} {Q : Option Value → Shared → Prop} (hh : A.handled = none)
    (hl : s.heap.NoLimit) (hroom : A.depth < recursionLimit)
    (hg : s.heap.IsGen a g) (hgs : s.gens[g]? = some gs)
    (hgo : gs.Goes (model prog w) A.in1 (fun n s₀ r s₁ => r = .ok (.ret .none) ∧ P n s₀ s₁) Y n (.send .none) (s.setGen g .running))
    (hY : ∀ v s₁ gs', gs'.bare = true → Y (n - 1) (s.setGen g .running) v s₁ (fun r' s'' => match n with
        | 0 => False
        | m + 1 => gs'.Goes (model prog w) A.in1 (fun n s₀ r s₁ => r = .ok (.ret .none) ∧ P n s₀ s₁) Y m r' s'') → Q (some v) (s₁.setGen g gs'))
    (hP : ∀ s₁, P n (s.setGen g .running) s₁ → ∀ h', (∀ b o, s₁.heap.get? b = some o → h'.get? b = some o) → Q none { s₁.setGen g .finished with heap := h' }) :
    wpAny (model prog w) A (pyNext (.ref a)) Q E s := by
  unfold pyNext
  refine wpAny_bind (wpAny_attempt (wpAny_callSpecial?_slot (name := Str.ofString "__next__") hg.typeIs slot_gen_next
    (wpAny_call_entry slot_gen_next hg.typeIs entry_gen_next ?_ (args_gen_next _))))
  show wpAny _ A.in1 (Builtin.Generator.genWake (.ref a) (.send .none)) _ _ s
  unfold Builtin.Generator.genWake
  refine wpAny_bind (wpAny_holding (wpAny_genNumber hg (wpAny_bind (wpAny_genState hgs ?_))))
  cases gs with
  | running => exact hgo.elim
  | finished => exact hgo.elim
  | _ =>
    refine wpAny_bind (wpAny_roomToWake hl hroom ?_)
    show wpAny _ A.in1 (.resume g (.send .none) [] _) _ _ s
    refine wpAny_resumeQ hgs hgo (fun x s₁ hx => ?_) (fun v s₁ gs' hb hv => ?_)
    · obtain ⟨rfl, hp⟩ := hx
      show wpAny _ A.in1 (newExc (.type "StopIteration") [] >>= _) _ _ _
      refine wpAny_bind ?_
      simp only [newExc, newTuple]
      refine wpAny_bind (wpAny_newObj_type ?_ (by size_fits))
      refine wpAny_bind (m := firstArgMember _ _) (wpAny_of_eq (a := Value.none) (by first | rfl | (simp only [firstArgMember]; rfl)) ?_)
      refine wpAny_newObj_type ?_ (by size_fits)
      simp only [raiseNew]
      refine wpAny_bind (wpAny_bind (wpAny_handled ?_))
      first | rw [show A.in1.handled = none from hh] | rw [hh]
      refine wpAny_throw ?_
      refine wpAny_bind (wpAny_isInstance (T := "StopIteration") (b := true) ⟨_, Heap.get?_push_size _ rfl, rfl⟩ isSubtype_stop ?_)
      exact wpAny_pure (hP s₁ hp _ fun b o hb => Heap.get?_push_of_some _ (Heap.get?_push_of_some _ hb))
    · exact wpAny_pure ⟨v, rfl, wpAny_pure (hY v s₁ gs' hb hv)⟩

/-- what a turn of the generator leaves as it was -/
noncomputable def KpB (C : Addr) (h h' : Heap) : Prop := ∀ b o, b ≠ C → ¬ Movable o → h.get? b = some o → h'.get? b = some o

theorem AllBare.set {gens : Array GenState} {g : Nat} {x : GenState} (h : AllBare gens) (hx : x.bare = true) : AllBare (gens.setIfInBounds g x) := by
  intro y hy
  obtain ⟨i, hi, rfl⟩ := Array.mem_iff_getElem.mp hy
  rw [Array.getElem_setIfInBounds (by simpa using hi)]
  split
  · exact hx
  · exact h _ (Array.getElem_mem _)

theorem esc_next {w : World} {mg mb : Str → Option Value} {mean : ExcName → Option Value} {s : Shared} {d u : Nat} {h₀ : Heap} {L : Addr} {m : Str → Option Value} {Q : Option Value → Shared → Prop} {E : Value → Shared → Prop}
    {a g : Nat} {C : Addr} {own : List Addr} {items : List (Nat × Str)} {k : Nat}
    (T : Top view39 (looseW view39 []) mean mg mb h₀) (hd : d < 600) (F : Fr h₀ L s.heap m) (st : ESt w (ar d (u + 1)) h₀ a g C own items k s) (hb : AllBare s.gens) (hac : a ≠ C)
    (hN : k = 0 → ∀ h' g' tk, KpB C s.heap h' → Kp h₀ h' → AllBare g' → Q none ⟨h', g', s.drawn, tk, s.os⟩)
    (hS : ∀ (k' pos : Nat) (ch : Str) (T : Addr) (t1 t2 : Tok) own' h' g' tk, k = k' + 1 → items[items.length - k]? = some (pos, ch) → h'.IsTuple T #[.int pos t1, .str ch t2] → KpB C s.heap h' → Kp h₀ h' → AllBare g' →
      ESt w (ar d (u + 1)) h₀ a g C own' items k' ⟨h', g', s.drawn, tk, s.os⟩ → Q (some (.ref T)) ⟨h', g', s.drawn, tk, s.os⟩) :
    wpAny (model PySem.Challenge.rw_ik0197_01.row.prog w) (ar d u) (pyNext (.ref a)) Q E s := by
  obtain ⟨hg, hown, gs, hgs, hbare, hgo⟩ := st
  refine pyNext_genQ (P := fun n s₀ s₁ => n = 0 ∧ Since C s₀ s₁ ∧ Kp h₀ s₁.heap) (Y := EYield h₀ C items) rfl (T.nolimit.keeps F.keep) (show d < 1000 by omega) hg hgs (hgo _ F.keep fun _ _ _ e => e) (fun v s₁ gs' hb' hy => ?_) (fun s₁ hp h' hk => ?_)
  · obtain ⟨pos, ch, T', t1, t2, own', hit, rfl, hT, hown', ⟨h₁, tk₁, rfl, hk₁⟩, hk₀, hkap⟩ := hy
    cases k with
    | zero => exact (hkap ⟨h₁, #[], s.drawn, 0, s.os⟩ hk₀ (fun _ _ _ e => e)).elim
    | succ k =>
      refine hS k pos ch T' t1 t2 own' h₁ _ tk₁ rfl (by rw [show items.length - (k + 1) = items.length - 1 - (k + 1 - 1) by rw [Nat.add_sub_cancel, Nat.sub_sub, Nat.add_comm 1 k]]; exact hit) hT hk₁ hk₀ (AllBare.set (AllBare.set hb rfl) hb') ⟨?_, hown', gs', setGen_self (gs := .running) (setGen_self hgs), hb', hkap⟩
      obtain ⟨o, nm, qn, ho, hc, hd', hsl⟩ := hg
      exact ⟨o, nm, qn, hk₁ a o hac (fun hm => hm.2 hc) ho, hc, hd', hsl⟩
  · obtain ⟨hk0, ⟨h₁, tk₁, rfl, hk₁⟩, hk₀⟩ := hp
    exact hN hk0 h' _ _ (fun b o hb hm e => hk b o (hk₁ b o hb hm e)) (fun b o e => hk b o (hk₀ b o e)) (AllBare.set (AllBare.set hb rfl) rfl)

theorem Fr.kpB {h₀ h h' : Heap} {L C : Addr} {m : Str → Option Value} (F : Fr h₀ L h m) (hC : L ≠ C) (k : KpB C h h') (k₀ : Kp h₀ h') : Fr h₀ L h' m :=
  ⟨F.ns.at' fun o e => k L o hC (by
    obtain ⟨o', es, ep, ho, hd, _⟩ := F.ns
    rw [e] at ho; cases ho
    rintro ⟨⟨vs, hv⟩, _⟩
    rw [hd] at hv; cases hv) e, k₀, F.above⟩
theorem News.kpB {h₀ h h' : Heap} {L C : Addr} {news : List (Addr × Obj)} (N : News h₀ L h news) (hn : ∀ p ∈ news, p.1 ≠ C ∧ ¬ Movable p.2) (k : KpB C h h') : News h₀ L h' news :=
  fun p hp => ⟨k _ _ (hn p hp).1 (hn p hp).2 (N p hp).1, (N p hp).2⟩
theorem notMovable_list (items : Array Value) (n : Nat) : ¬ Movable (W.listOf items n) := by rintro ⟨⟨vs, hv⟩, _⟩; cases hv

theorem letOwned_gen {w : World} {A : Around} {s : Shared} {E : Value → Shared → Prop} {Q : Unit → Shared → Prop} {elts : List Expr} {k : Nat} {pos : Pos} {a g : Nat} {T : Addr} (hg : s.heap.IsGen a g) (h : Q () s) :
    wpAny (model PySem.Challenge.rw_ik0197_01.row.prog w) A (letOwnedTupleGo (.Tuple elts k pos) (.ref a) (.ref T)) Q E s := by
  obtain ⟨o, nm, qn, ho, hc, hd, hsl⟩ := hg
  unfold letOwnedTupleGo
  refine wpAny_bind (wpAny_load ho ?_)
  rw [hc, hd]
  show wpAny _ A (if (["enumerate", "zip", "dict_itemiterator", "dict_reverseitemiterator", "odict_iterator", "itertools.zip_longest", "itertools.pairwise"].contains "generator" && _) = true then _ else _) Q E s
  rw [if_neg (by rw [show (["enumerate", "zip", "dict_itemiterator", "dict_reverseitemiterator", "odict_iterator", "itertools.zip_longest", "itertools.pairwise"].contains "generator") = false from by decide +kernel, Bool.false_and]; decide)]
  exact wpAny_pure h

open Classical in
theorem ESt.extra {w : World} {A : Around} {h₀ : Heap} {L : Addr} {m : Str → Option Value} {a g : Nat} {C : Addr} {own : List Addr} {items : List (Nat × Str)} {k : Nat} {s : Shared}
    (st : ESt w A h₀ a g C own items k s) (F : Fr h₀ L s.heap m) (hLC : L ≠ C) :
    ∃ extra : List (Addr × Obj), News h₀ L s.heap extra ∧ (∀ l o, s.heap.get? l = some o → ¬ Movable o → o.cls ≠ .type "generator" → l ≠ C → ∀ p ∈ extra, p.1 ≠ l) ∧
      ∀ h' m' news tk, Fr h₀ L h' m' → News h₀ L h' news → (∀ p ∈ extra, p ∈ news) → ESt w A h₀ a g C own items k ⟨h', s.gens, s.drawn, tk, s.os⟩ := by
  obtain ⟨⟨o, nm, qn, ho, hc, hd, hsl⟩, hown, hgs⟩ := st
  have hLd : ∀ oL, s.heap.get? L = some oL → ¬ Movable oL ∧ ∀ vs, oL.data ≠ .fields vs := fun oL e => by
    obtain ⟨o', es, ep, ho', hd', _⟩ := F.ns
    rw [e] at ho'; cases ho'
    refine ⟨?_, fun vs hv => ?_⟩
    · rintro ⟨⟨vs, hv⟩, _⟩
      rw [hd'] at hv; cases hv
    · rw [hd'] at hv; cases hv
  refine ⟨(a :: own).filterMap fun b => match s.heap.get? b with
    | some o => if h₀.get? b = none then some (b, o) else none
    | none => none, ?_, ?_, ?_⟩
  · intro p hp
    obtain ⟨b, hb, hb'⟩ := List.mem_filterMap.mp hp
    split at hb'
    · rename_i o' ho'
      split at hb'
      · rename_i hn
        cases hb'
        refine ⟨ho', fun e => ?_, hn⟩
        have hL := hLd o' (e ▸ ho')
        rcases List.mem_cons.mp hb with rfl | hb
        · rw [ho] at ho'; cases ho'; exact hL.2 _ hd
        · rcases hown b hb with h | ⟨o'', h1, h2⟩
          · exact hLC (e.symm.trans h)
          · rw [ho'] at h1; cases h1; exact hL.1 h2
      · cases hb'
    · cases hb'
  · intro l ol hl hm hcl hlC p hp e
    obtain ⟨b, hb, hb'⟩ := List.mem_filterMap.mp hp
    split at hb'
    · rename_i o' ho'
      split at hb'
      · cases hb'
        have hbl : b = l := e
        subst hbl
        rw [hl] at ho'; cases ho'
        rcases List.mem_cons.mp hb with rfl | hb
        · rw [ho] at hl; cases hl; exact hcl hc
        · rcases hown b hb with h | ⟨o'', h1, h2⟩
          · exact hlC h
          · rw [hl] at h1; cases h1; exact hm h2
      · cases hb'
    · cases hb'
  · intro h' m' news tk F' N' hs
    have kept : ∀ b ∈ a :: own, ∀ o, s.heap.get? b = some o → h'.get? b = some o := fun b hb o' ho' => by
      cases q : h₀.get? b with
      | some o'' =>
        have := F.keep b o'' q
        rw [ho'] at this; cases this
        exact F'.keep b _ q
      | none => exact (N' (b, o') (hs _ (List.mem_filterMap.mpr ⟨b, hb, by simp [ho', q]⟩))).1
    refine ⟨⟨o, nm, qn, kept a (by simp) o ho, hc, hd, hsl⟩, fun b hb => ?_, ?_⟩
    · rcases hown b hb with h | ⟨o'', h1, h2⟩
      · exact .inl h
      · exact .inr ⟨o'', kept b (.tail _ hb) o'' h1, h2⟩
    · obtain ⟨gs, h1, h2, h3⟩ := hgs
      exact ⟨gs, h1, h2, fun s'' hk hown'' => h3 s'' hk fun b hb o' ho' => hown'' b hb o' (kept b (.tail _ hb) o' ho')⟩
end
section /- StripA -/
theorem StrsAre.snoc {vs : List Value} {ys : List Str} (h : StrsAre vs ys) (y : Str) (t : Tok) : StrsAre (vs ++ [.str y t]) (ys ++ [y]) := h.append' (.cons y t .nil)
theorem sum_le (k : Nat) : ∀ (l : List Str), (∀ y ∈ l, y.length ≤ k) → (l.map (·.length)).sum ≤ l.length * k
  | [], _ => by simp
  | y :: l, h => by
    have h1 := h y (.head _)
    have h2 := sum_le k l fun z hz => h z (.tail _ hz)
    simp only [List.map_cons, List.sum_cons, List.length_cons, Nat.add_mul, Nat.one_mul]; omega
noncomputable def quote : Str := Str.ofString "\""
noncomputable def cut (x : Str) (i j : Nat) : Str := Txt.slice x (some (i : Int)) (some (j : Int))
theorem escGo_length : ∀ (cs : List Nat) (i : Nat) (e : Bool), (escGo i e cs).length ≤ cs.length + (if e then 1 else 0)
  | [], _, false => Nat.le_refl _
  | [], _, true => Nat.le_refl _
  | c :: cs, i, true => by have := escGo_length cs (i + 1) false; simp [escGo] at *; omega
  | c :: cs, i, false => by
    rw [escGo]
    split
    · have := escGo_length cs (i + 1) true; simp at *; omega
    · have := escGo_length cs (i + 1) false; simp at *; omega
theorem escItems_length (x : Str) : (escItems x).length ≤ x.length := by
  have := escGo_length x.cps.toList 0 false
  simpa [escItems, Str.length] using this
noncomputable def stripGo (x : Str) : List (Nat × Str) → Nat → Option Nat → List Str → Nat × List Str
  | [], start, _, res => (start, res)
  | (pos, ch) :: r, start, op, res =>
    if ch = quote then
      match op with
      | none => stripGo x r start (some pos) res
      | some o => stripGo x r (pos + 1) none (if start ≠ o then res ++ [cut x start o] else res)
    else stripGo x r start op res
theorem stripGo_cons (x : Str) (pos : Nat) (ch : Str) (r : List (Nat × Str)) (start : Nat) (op : Option Nat) (res : List Str) : stripGo x ((pos, ch) :: r) start op res =
    if ch = quote then (match op with | none => stripGo x r start (some pos) res | some o => stripGo x r (pos + 1) none (if start ≠ o then res ++ [cut x start o] else res)) else stripGo x r start op res := rfl
noncomputable def stripped (x : Str) : Str :=
  if (Builtin.Str.occurrences x quote 0 x.length 1).isEmpty = true then x
  else Txt.join (Str.ofString "") (if (stripGo x (escItems x) 0 none []).1 < x.length then (stripGo x (escItems x) 0 none []).2 ++ [Txt.slice x (some ((stripGo x (escItems x) 0 none []).1 : Int)) none] else (stripGo x (escItems x) 0 none []).2)
noncomputable def opV (op : Option Nat) (t : Tok) : Value := match op with | none => .none | some o => .int (o : Int) t

noncomputable def SInv (w : World) (d u : Nat) (x : Str) (t : Tok) (s : Shared) (L l a g : Addr) (C : Addr) (k : Nat) (s' : Shared) : Prop :=
  ∃ (h : Heap) (g' : Array GenState) (tk : Nat) (m : Str → Option Value) (own : List Addr) (start : Nat) (op : Option Nat) (res : List Str) (vs : List Value) (n : Nat) (ts to : Tok), s' = ⟨h, g', s.drawn, tk, s.os⟩ ∧ Fr s.heap L h m ∧ News s.heap L h [(l, W.listOf vs.toArray n)] ∧ StrsAre vs res ∧ AllBare g' ∧ ESt w (ar (d + 1) (u + 3 + 1)) s.heap a g C own (escItems x) k s' ∧ k ≤ (escItems x).length ∧ res.length + k ≤ (escItems x).length ∧ (∀ y ∈ res, y.length ≤ 1000) ∧
    m (Str.ofString "addr") = some (.str x t) ∧ m (Str.ofString "start") = some (.int (start : Int) ts) ∧ m (Str.ofString "open_pos") = some (opV op to) ∧ m (Str.ofString "result") = some (.ref l) ∧
    stripGo x (escItems x) 0 none [] = stripGo x ((escItems x).drop ((escItems x).length - k)) start op res

theorem strip_spec {w : World} {mg mb : Str → Option Value} {mean : ExcName → Option Value} {s : Shared} {d u : Nat} {x : Str} {t : Tok} {R : Result → Shared → Prop}
    (X : (hd.heap_1 w.params).In s.heap) (T : Top view39 (looseW view39 []) mean mg mb s.heap) (hd : d < 500) (hx : x.length ≤ 1000) (hb : AllBare s.gens)
    (hR : ∀ h' g' tk t', Kp s.heap h' → AllBare g' → R (.ok (.ret (.str (stripped x) t'))) ⟨h', g', s.drawn, tk, s.os⟩) :
    codeAny (model PySem.Challenge.rw_ik0197_01.row.prog w) (ar d u) (.call (.ref 35) ⟨[.str x t], []⟩) R s := by
  refine enter (binds := [(Str.ofString "addr", .str x t)]) X T.nolimit (by k_is) (by k_is) (show d < 1000 by omega) (BindsTo.of_eq rfl) (locs rfl) ?_
  intro L h₁ F N
  dsimp only [List.reverse_cons, List.reverse_nil, List.nil_append, List.length_cons, List.length_nil] at F ⊢
  repeat' (walk_at "wN")
  · have hno : (Builtin.Str.occurrences x quote 0 x.length 1).isEmpty = true := by assumption
    have := hR h₁ s.gens tk t F.keep hb
    rw [stripped, if_pos hno] at this
    exact this
  have hno : ¬ (Builtin.Str.occurrences x quote 0 x.length 1).isEmpty = true := by
    have h : (Builtin.Str.occurrences x quote 0 x.length 1).isEmpty = false := by assumption
    rw [h]; decide
  refine wpAny_For ?_
  repeat' (walk_at "wN")
  (with_reducible rename Fr _ _ _ _ => F₁)
  (with_reducible rename News _ _ _ _ => N₁)
  rename_i l h3 l1 h4
  refine esc_call X T (show d + 1 < 600 by omega) F₁ fun a C h₂ g₂ tk₂ hk₂ hC ha hst hbg => ?_
  refine wpAny_pyIter_gen hst.1 ?_
  have F₂ := Fr.kp F₁ hk₂
  have N₂ := News.kp N₁ hk₂
  have hCL := ltN F₁.ns.lt
  have hCl := ltN (Heap.lt_size (N₁ _ (.head _)).1)
  have hlL := (N₁ _ (.head _)).2
  refine loop_inv (SInv w d u x t s L l a s.gens.size C) ?_ (escItems x).length ⟨_, _, _, _, _, 0, none, [], [], 0, _, 0, rfl, F₂, N₂, .nil, AllBare.push hb hbg, hst, Nat.le_refl _, by simp, by simp, rfl, rfl, rfl, rfl, by simp⟩
  dsimp only at hC
  rw [hC] at hCL hCl
  clear F₁ N₁ F₂ N₂ hk₂ hst hC hbg
  rintro k s' ⟨h, g', tk, m, own, start, op, res, vs, n, ts, to, rfl, F, N, hvs, hbg, hst, hk, hrl, hry, hma, hms, hmo, hmr, hgo⟩
  refine esc_next T (show d + 1 < 600 by omega) F hst hbg (by k_ne) (fun hk0 h' g' tk hkb hk₀ hbg' => ?_) (fun k' pos ch T' t1 t2 own' h' g' tk hkk hit hT hkb hk₀ hbg' hst' => ?_)
  · dsimp only at hkb ⊢
    subst hk0
    have hLC : L ≠ C := by k_ne
    have hlC : ∀ p ∈ [(l, W.listOf vs.toArray n)], p.1 ≠ C ∧ ¬ Movable p.2 := fun p hp => by
      rw [List.mem_singleton.mp hp]; exact ⟨by k_ne, notMovable_list _ _⟩
    have F' := Fr.kpB F hLC hkb hk₀
    have N' := News.kpB N hlC hkb
    have F'' := Fr.know (Fr.know (Fr.know F' hma) (a := Str.ofString "start") (by rw [if_neg (by decide)]; exact hms)) (a := Str.ofString "result") (by rw [if_neg (by decide), if_neg (by decide)]; exact hmr)
    have hvl : vs.length ≤ 1000 := by have := hvs.length; have := escItems_length x; omega
    clear F F' N hkb hst
    have hsum : ∀ res' : List Str, res'.length ≤ 1001 → (∀ y ∈ res', y.length ≤ 1000) → (res'.map (·.length)).sum + res'.length * (Str.ofString "").length ≤ 16777216 := fun res' h1 h2 => by
      have := sum_le 1000 res' h2
      rw [show (Str.ofString "").length = 0 from by decide]; omega
    rw [show (escItems x).length - 0 = (escItems x).length by omega, List.drop_length, stripGo] at hgo
    have hrl' : res.length ≤ 1000 := by have := escItems_length x; omega
    repeat' (walk_at "wN")
    · (with_reducible rename News _ _ _ _ => N₉)
      (with_reducible rename Fr _ _ _ _ => F₉)
      rw [List.push_toArray] at N₉
      have hlt : start < x.length := by
        have : (start : Int) < x.length := by assumption
        omega
      refine join_list ⟨_, (N₉ _ (.head _)).1, rfl, _, rfl⟩ (ys := res ++ [Txt.slice x (some (start : Int)) none]) (StrsAre.snoc hvs _ _) (hsum _ (by simp; omega) fun y hy => ?_) fun t' k' => ?_
      · rcases List.mem_append.mp hy with hy | hy
        · exact hry y hy
        · have h9 : (Txt.slice x (some (start : Int)) none).length ≤ x.length := by assumption
          rw [List.mem_singleton.mp hy]; exact Nat.le_trans h9 hx
      have := hR _ g' k' t' F₉.keep hbg'
      rw [stripped, if_neg hno, hgo, if_pos hlt] at this
      exact this
    · have hlt : ¬ start < x.length := by
        have : ¬ (start : Int) < x.length := by assumption
        omega
      refine join_list ⟨_, (N' _ (.head _)).1, rfl, _, rfl⟩ (ys := res) hvs (hsum _ (by omega) hry) fun t' k' => ?_
      have := hR _ g' k' t' F''.keep hbg'
      rw [stripped, if_neg hno, hgo, if_neg hlt] at this
      exact this
  dsimp only at hst' hkb ⊢
  have hLC : L ≠ C := by k_ne
  have hlC : ∀ p ∈ [(l, W.listOf vs.toArray n)], p.1 ≠ C ∧ ¬ Movable p.2 := fun p hp => by
    rw [List.mem_singleton.mp hp]; exact ⟨by k_ne, notMovable_list _ _⟩
  have F' := Fr.kpB F hLC hkb hk₀
  have N' := News.kpB N hlC hkb
  obtain ⟨extra, Nx, hoff, hback⟩ := hst'.extra F' hLC
  have hoff : OwnOff extra [l] := fun p hp b hb => by
    rw [List.mem_singleton.mp hb]
    exact hoff _ _ (N' _ (.head _)).1 (notMovable_list _ _) (by simp) (by k_ne) p hp
  have N'' : News s.heap L h' ((l, W.listOf vs.toArray n) :: extra) := fun p hp => (List.mem_cons.mp hp).elim (fun e => N' p (e ▸ .head _)) (Nx p)
  refine letOwned_gen hst'.1 ?_
  have F'' := Fr.know (Fr.know (Fr.know (Fr.know F' hma) (a := Str.ofString "start") (by rw [if_neg (by decide)]; exact hms)) (a := Str.ofString "open_pos") (by rw [if_neg (by decide), if_neg (by decide)]; exact hmo)) (a := Str.ofString "result") (by rw [if_neg (by decide), if_neg (by decide), if_neg (by decide)]; exact hmr)
  refine assign_pair rfl F'' N'' hT fun h₅ tk₅ F₅ N₅ hk₅ => ?_
  dsimp only
  clear F F' F'' N N' N'' Nx hT hkb hst' hst hk₅ hbg
  have hvl : vs.length ≤ 1000 := by have := hvs.length; have := escItems_length x; omega
  have hdr : (escItems x).drop ((escItems x).length - k) = (pos, ch) :: (escItems x).drop ((escItems x).length - k') := by
    have hlt : (escItems x).length - k < (escItems x).length := by omega
    rw [List.drop_eq_getElem_cons hlt, show (escItems x).length - k + 1 = (escItems x).length - k' by omega]
    congr 1
    rw [List.getElem?_eq_getElem hlt] at hit
    exact Option.some.inj hit
  rw [hdr, stripGo_cons] at hgo
  subst hkk
  have fin : ∀ h6 tk6 m6 start op res vs n ts to, Fr s.heap L h6 m6 → News s.heap L h6 ((l, W.listOf vs.toArray n) :: extra) → StrsAre vs res → res.length + k' ≤ (escItems x).length → (∀ y ∈ res, y.length ≤ 1000) →
      m6 (Str.ofString "addr") = some (.str x t) → m6 (Str.ofString "start") = some (.int ((start : Nat) : Int) ts) → m6 (Str.ofString "open_pos") = some (opV op to) → m6 (Str.ofString "result") = some (.ref l) →
      stripGo x (escItems x) 0 none [] = stripGo x ((escItems x).drop ((escItems x).length - k')) start op res → Again (SInv w d u x t s L l a s.gens.size C) (k' + 1) ⟨h6, g', s.drawn, tk6, s.os⟩ :=
    fun h6 tk6 m6 start op res vs n ts to F N hvs hl hy h1 h2 h3 h4 h5 =>
      Again.mk (Nat.lt_succ_self _) ⟨h6, g', tk6, m6, own', start, op, res, vs, n, ts, to, rfl, F, fun p hp => N p (by rw [List.mem_singleton.mp hp]; exact .head _), hvs, hbg', hback _ _ _ _ F N (fun p hp => .tail _ hp), by omega, hl, hy, h1, h2, h3, h4, h5⟩
  cases op
  all_goals dsimp only [opV] at F₅ hgo
  · repeat' (walk_at "wN")
    · have hce : ch = quote := eq_of_beq (show (ch == Str.ofString "\"") = true by assumption)
      rw [if_pos hce] at hgo
      show Again _ _ _
      exact fin _ _ _ start (some pos) res vs n ts t1 (by assumption) (by assumption) hvs (by omega) hry rfl rfl rfl rfl hgo
    · have hce : ¬ ch = quote := fun e => by
        have hce : (ch == Str.ofString "\"") = false := by assumption
        rw [e] at hce; cases hce
      rw [if_neg hce] at hgo
      show Again _ _ _
      exact fin _ _ _ start none res vs n ts 0 (by assumption) (by assumption) hvs (by omega) hry rfl rfl rfl rfl hgo
  · rename_i o
    repeat' (walk_at "wN")
    · have hce : ch = quote := eq_of_beq (show (ch == Str.ofString "\"") = true by assumption)
      have hne : start ≠ o := fun e => by
        have : (start : Int) ≠ o := by assumption
        exact this (by rw [e])
      rw [if_pos hce, if_pos hne] at hgo
      show Again _ _ _
      (with_reducible rename News _ _ _ _ => N₉)
      rw [List.push_toArray] at N₉
      exact fin _ _ _ (pos + 1) none _ _ _ _ 0 (by assumption) N₉ (StrsAre.snoc hvs _ _) (by simp; omega) (fun y hy => by
        rcases List.mem_append.mp hy with hy | hy
        · exact hry y hy
        · have h9 : (Txt.slice x (some (start : Int)) (some (o : Int))).length ≤ x.length := by assumption
          rw [List.mem_singleton.mp hy]; exact Nat.le_trans h9 hx) rfl (by rw [if_neg (by decide)]; rfl) rfl rfl hgo
    · have hce : ch = quote := eq_of_beq (show (ch == Str.ofString "\"") = true by assumption)
      have hne : ¬ start ≠ o := fun e => by
        have : (start : Int) = o := by assumption
        omega
      rw [if_pos hce, if_neg hne] at hgo
      show Again _ _ _
      exact fin _ _ _ (pos + 1) none res vs n _ 0 (by assumption) (by assumption) hvs (by omega) hry rfl (by rw [if_neg (by decide)]; rfl) rfl rfl hgo
    · have hce : ¬ ch = quote := fun e => by
        have hce : (ch == Str.ofString "\"") = false := by assumption
        rw [e] at hce; cases hce
      rw [if_neg hce] at hgo
      show Again _ _ _
      exact fin _ _ _ start (some o) res vs n ts to (by assumption) (by assumption) hvs (by omega) hry rfl rfl rfl rfl hgo
end
section /- CheckA -/
noncomputable def checkGo : List (Nat × Str) → Int → Bool
  | [], o => o == 0
  | (_, ch) :: r, o => if ch = Str.ofString "(" then checkGo r (o + 1) else if ch = Str.ofString ")" then (if o - 1 < 0 then false else checkGo r (o - 1)) else checkGo r o
noncomputable def checked (x : Str) : Bool := checkGo (escItems (stripped x)) 0
theorem checkGo_cons (pos : Nat) (ch : Str) (r : List (Nat × Str)) (o : Int) : checkGo ((pos, ch) :: r) o =
  if ch = Str.ofString "(" then checkGo r (o + 1) else if ch = Str.ofString ")" then (if o - 1 < 0 then false else checkGo r (o - 1)) else checkGo r o := rfl

noncomputable def CInv (w : World) (d u : Nat) (x : Str) (s : Shared) (L a g : Addr) (C : Addr) (k : Nat) (s' : Shared) : Prop :=
  ∃ (h : Heap) (g' : Array GenState) (tk : Nat) (m : Str → Option Value) (own : List Addr) (o : Int) (to : Tok), s' = ⟨h, g', s.drawn, tk, s.os⟩ ∧ Fr s.heap L h m ∧ AllBare g' ∧ ESt w (ar (d + 1) (u + 3 + 1)) s.heap a g C own (escItems x) k s' ∧ k ≤ (escItems x).length ∧
    m (Str.ofString "opens") = some (.int o to) ∧ checkGo (escItems x) 0 = checkGo ((escItems x).drop ((escItems x).length - k)) o

theorem check_spec {w : World} {mg mb : Str → Option Value} {mean : ExcName → Option Value} {s : Shared} {d u : Nat} {x : Str} {t : Tok} {R : Result → Shared → Prop}
    (X : (hd.heap_1 w.params).In s.heap) (T : Top view39 (looseW view39 []) mean mg mb s.heap) (hd : d < 450) (hx : x.length ≤ 1000) (hb : AllBare s.gens)
    (hR : ∀ h' g' tk, Kp s.heap h' → AllBare g' → R (.ok (.ret (.bool (checked x)))) ⟨h', g', s.drawn, tk, s.os⟩) :
    codeAny (model PySem.Challenge.rw_ik0197_01.row.prog w) (ar d u) (.call (.ref 42) ⟨[.str x t], []⟩) R s := by
  refine enter (binds := [(Str.ofString "addr", .str x t)]) X T.nolimit (by k_is) (by k_is) (show d < 1000 by omega) (BindsTo.of_eq rfl) (locs rfl) ?_
  intro L h₁ F N
  dsimp only [List.reverse_cons, List.reverse_nil, List.nil_append, List.length_cons, List.length_nil] at F ⊢
  repeat' (walk_at "wN")
  refine wpAny_call (strip_spec (X.keeps F.keep) (T.keeps F.keep) (show d + 1 < 500 by omega) hx hb fun h₂ g₂ tk₂ t₂ hk₂ hb₂ => ?_)
  have F := Fr.kp F hk₂
  have N := News.kp N hk₂
  show wpAny _ _ _ _ _ _
  repeat' (walk_at "wN")
  refine wpAny_For ?_
  repeat' (walk_at "wN")
  (with_reducible rename Fr _ _ _ _ => F₁)
  have hchk : checked x = checkGo (escItems (stripped x)) 0 := rfl
  generalize stripped x = x₁ at *
  refine esc_call X T (show d + 1 < 600 by omega) F₁ fun a C h₃ g₃ tk₃ hk₃ hC ha hst hbg => ?_
  refine wpAny_pyIter_gen hst.1 ?_
  have F₂ := Fr.kp F₁ hk₃
  have hCL := ltN F₁.ns.lt
  refine loop_inv (CInv w d u x₁ s L a g₂.size C) ?_ (escItems x₁).length ⟨_, _, _, _, _, 0, _, rfl, F₂, AllBare.push hb₂ hbg, hst, Nat.le_refl _, rfl, by simp⟩
  dsimp only at hC
  rw [hC] at hCL
  clear F₁ F₂ hk₃ hst hC hbg
  rintro k s' ⟨h, g', tk, m, own, o, to, rfl, F, hbg, hst, hk, hmo, hgo⟩
  have hLC : L ≠ C := by k_ne
  refine esc_next T (show d + 1 < 600 by omega) F hst hbg (by k_ne) (fun hk0 h' g' tk hkb hk₀ hbg' => ?_) (fun k' pos ch T' t1 t2 own' h' g' tk hkk hit hT hkb hk₀ hbg' hst' => ?_)
  · dsimp only at hkb ⊢
    subst hk0
    have F' := Fr.know (Fr.kpB F hLC hkb hk₀) hmo
    have N' : News s.heap L h' [] := News.nil
    rw [show (escItems x₁).length - 0 = (escItems x₁).length by omega, List.drop_length, checkGo] at hgo
    clear F hkb hst
    repeat' (walk_at "wN")
    have := hR h' g' (tk + 1) F'.keep hbg'
    rw [hchk, hgo] at this
    exact this
  dsimp only at hst' hkb ⊢
  have F' := Fr.kpB F hLC hkb hk₀
  obtain ⟨extra, Nx, hoff, hback⟩ := hst'.extra F' hLC
  refine letOwned_gen hst'.1 ?_
  refine assign_pair rfl (Fr.know F' hmo) Nx hT fun h₅ tk₅ F₅ N₅ hk₅ => ?_
  dsimp only
  clear F F' Nx hT hkb hst' hst hk₅ hbg
  have hdr : (escItems x₁).drop ((escItems x₁).length - k) = (pos, ch) :: (escItems x₁).drop ((escItems x₁).length - k') := by
    have hlt : (escItems x₁).length - k < (escItems x₁).length := by omega
    rw [List.drop_eq_getElem_cons hlt, show (escItems x₁).length - k + 1 = (escItems x₁).length - k' by omega]
    congr 1
    rw [List.getElem?_eq_getElem hlt] at hit
    exact Option.some.inj hit
  rw [hdr, checkGo_cons] at hgo
  subst hkk
  have fin : ∀ h6 tk6 m6 o to news, Fr s.heap L h6 m6 → News s.heap L h6 news → (∀ p ∈ extra, p ∈ news) →
      m6 (Str.ofString "opens") = some (.int o to) → checkGo (escItems x₁) 0 = checkGo ((escItems x₁).drop ((escItems x₁).length - k')) o → Again (CInv w d u x₁ s L a g₂.size C) (k' + 1) ⟨h6, g', s.drawn, tk6, s.os⟩ :=
    fun h6 tk6 m6 o to news F N hs h1 h2 =>
      Again.mk (Nat.lt_succ_self _) ⟨h6, g', tk6, m6, own', o, to, rfl, F, hbg', hback _ _ _ _ F N hs, by omega, h1, h2⟩
  repeat' (walk_at "wN")
  · have hce : ch = Str.ofString "(" := eq_of_beq (by assumption)
    rw [if_pos hce] at hgo
    show Again _ _ _
    exact fin _ _ _ (o + 1) _ _ (by assumption) (by assumption) (fun _ h => h) rfl hgo
  · have hce : ¬ ch = Str.ofString "(" := fun e => by
      have hce : (ch == Str.ofString "(") = false := by assumption
      rw [e] at hce; cases hce
    have hce' : ch = Str.ofString ")" := eq_of_beq (by assumption)
    have hlt : o - 1 < 0 := by assumption
    rw [if_neg hce, if_pos hce', if_pos hlt] at hgo
    (with_reducible rename Fr _ _ _ _ => F₉)
    have := fun tk => hR _ g' tk F₉.keep hbg'
    rw [hchk, hgo] at this
    exact this _
  · have hce : ¬ ch = Str.ofString "(" := fun e => by
      have hce : (ch == Str.ofString "(") = false := by assumption
      rw [e] at hce; cases hce
    have hce' : ch = Str.ofString ")" := eq_of_beq (by assumption)
    have hlt : ¬ o - 1 < 0 := by assumption
    rw [if_neg hce, if_pos hce', if_neg hlt] at hgo
    show Again _ _ _
    exact fin _ _ _ (o - 1) _ _ (by assumption) (by assumption) (fun _ h => h) rfl hgo
  · have hce : ¬ ch = Str.ofString "(" := fun e => by
      have hce : (ch == Str.ofString "(") = false := by assumption
      rw [e] at hce; cases hce
    have hce' : ¬ ch = Str.ofString ")" := fun e => by
      have hce : (ch == Str.ofString ")") = false := by assumption
      rw [e] at hce; cases hce
    rw [if_neg hce, if_neg hce'] at hgo
    show Again _ _ _
    exact fin _ _ _ o to _ (by assumption) (by assumption) (fun _ h => h) rfl hgo
end
section /- PathA -/
theorem issub_nested_self {prog : Program} {w : World} {A : Around} {E : Value → Shared → Prop} {s : Shared} {dep : Int} {tk : Tok} {Q : Fin → Shared → Prop} (hq : Q (.done (.ret (.bool true))) s) :
    wpAny (model prog w) A (Builtin.«issubclass.nested» ⟨[.type "str", .type "str", .int dep tk], []⟩) Q E s := by
  have hm : typeOf (.type "str") = pure (.type "type") := by show (do return .type "type" : Sem Value) = _; rfl
  have hself : isSubtype (.type "str") (.type "str") = pure true := by rw [isSubtype_type]; kernel_rfl
  have ht : isSubtype (.type "type") (.type "type") = pure true := by rw [isSubtype_type]; kernel_rfl
  repeat (any_goals (first | assumption | (rw [if_pos hm]) | (rw [hself]) | wp_step))

theorem issub_code {prog : Program} {w : World} {A : Around} {s : Shared} {R : Result → Shared → Prop} {dep : Int} {tk : Tok} (h : R (.ok (.ret (.bool true))) s) :
    codeAny (model prog w) A (.call (.builtin "issubclass.nested") ⟨[.type "str", .type "str", .int dep tk], []⟩) R s := by
  have kind : builtinKind "issubclass.nested" = none := by decide +kernel
  have plain : plainId "issubclass.nested" = true := by decide +kernel
  have ok : argsOk "issubclass.nested" ⟨[.type "str", .type "str", .int dep tk], []⟩ := by unfold argsOk; kernel_rfl
  refine codeAny_call_builtin plain F.entry_issubclass_nested ?_
  have hfin : wpAny (model prog w) A.in1 (Builtin.«issubclass.nested» ⟨[.type "str", .type "str", .int dep tk], []⟩) (fun fin s' => match fin with | .done f => R (.ok f) s' | .again c' => c'.quiet = true ∧ codeAny (model prog w) A c' R s') (fun e s' => R (.error e) s') s :=
    issub_nested_self h
  simp only [checkBuiltinCall, kind]
  cases hsig : Manifest.signature? "issubclass.nested" with
  | none => exact wpAny_pure hfin
  | some sig =>
    simp only [argsOk, hsig] at ok
    have h2 : Bind.checkArgs "issubclass.nested" sig ⟨[.type "str", .type "str", .int dep tk], []⟩ = pure () := ok
    show wpAny _ _ (Bind.checkArgs "issubclass.nested" sig _) _ _ _
    rw [h2]; exact wpAny_pure hfin

theorem issub_nested_tuple {prog : Program} {w : World} {A : Around} {E : Value → Shared → Prop} {s : Shared} {D : Addr} {tk : Tok} {Q : Fin → Shared → Prop} (hD : s.heap.get? D = some { cls := .type "tuple", data := .seq #[.type "str", .type "bytes"] })
    (hq : Q (.done (.ret (.bool true))) s) :
    wpAny (model prog w) A (Builtin.«issubclass.nested» ⟨[.type "str", .ref D, .int 0 tk], []⟩) Q E s := by
  obtain ⟨h, g, dr, t, os⟩ := s
  have hT2 : (⟨h, g, dr, t, os⟩ : Shared).TypeIs (.ref D) "tuple" := ⟨_, hD, rfl⟩
  have f1 := F.isi_sub_tuple
  repeat (any_goals (first | assumption | wp_step))
  refine issub_code ?_
  show wpAny _ _ (truthy (.bool true) >>= _) _ _ _
  refine wpAny_bind (m := truthy (.bool true)) (wpAny_pure ?_)
  repeat (any_goals (first | assumption | wp_step))

theorem call_issub {w : World} {A : Around} {E : Value → Shared → Prop} {s : Shared} {D : Addr} {Q : Value → Shared → Prop} (hD : s.heap.get? D = some { cls := .type "tuple", data := .seq #[.type "str", .type "bytes"] })
    (h : Q (.bool true) s) : wpAny (model PySem.Challenge.rw_ik0197_01.row.prog w) A (call (.builtin "issubclass") [.type "str", .ref D]) Q E s :=
  call_issubclass (S := fun _ R s => s.heap.get? D = some { cls := .type "tuple", data := .seq #[.type "str", .type "bytes"] } ∧ R (.ok (.ret (.bool true))) s)
    (fun _ _ _ _ _ hs => issubclass_outer (issub_nested_tuple hs.1 hs.2)) ⟨hD, h⟩

theorem fspath_spec {w : World} {mg mb : Str → Option Value} {mean : ExcName → Option Value} {s : Shared} {d u : Nat} {x : Str} {t : Tok} {R : Result → Shared → Prop}
    (X : (hd.heap_1 w.params).In s.heap) (T : Top view39 (looseW view39 []) mean mg mb s.heap) (hd : d < 450)
    (hR : ∀ h' tk, Kp s.heap h' → R (.ok (.ret (.str x t))) { s with heap := h', toks := tk }) :
    codeAny (model PySem.Challenge.rw_ik0197_01.row.prog w) (ar d u) (.call (.ref 115) ⟨[.str x t], []⟩) R s := by
  refine enter (binds := [(Str.ofString "path", .str x t)]) X T.nolimit (by k_is) (by k_is) (show d < 1000 by omega) (BindsTo.of_eq rfl) (locs rfl) ?_
  intro L h₁ F N
  dsimp only [List.reverse_cons, List.reverse_nil, List.nil_append, List.length_cons, List.length_nil] at F ⊢
  repeat' (walk_at "wN")
  (with_reducible rename News _ _ _ _ => N₁)
  refine call_issub (N₁ _ (.head _)).1 ?_
  repeat' (walk_at "wN")
  (with_reducible rename Fr _ _ _ _ => F₁)
  exact hR _ _ F₁.keep
theorem getSep_spec {w : World} {mg mb : Str → Option Value} {mean : ExcName → Option Value} {s : Shared} {d u : Nat} {x : Str} {t : Tok} {R : Result → Shared → Prop}
    (X : (hd.heap_1 w.params).In s.heap) (T : Top view39 (looseW view39 []) mean mg mb s.heap) (hd : d < 450)
    (hR : ∀ h' tk t', Kp s.heap h' → R (.ok (.ret (.str (Str.ofString "/") t'))) { s with heap := h', toks := tk }) :
    codeAny (model PySem.Challenge.rw_ik0197_01.row.prog w) (ar d u) (.call (.ref 129) ⟨[.str x t], []⟩) R s := by
  refine enter (binds := [(Str.ofString "path", .str x t)]) X T.nolimit (by k_is) (by k_is) (show d < 1000 by omega) (BindsTo.of_eq rfl) (locs rfl) ?_
  intro L h₁ F N
  dsimp only [List.reverse_cons, List.reverse_nil, List.nil_append, List.length_cons, List.length_nil] at F ⊢
  repeat' (walk_at "wN")
  exact hR _ _ _ F.keep
end
section /- LoopA -/
/-- a turn's end: the frame, the ledger and the word -/
noncomputable def GoOn (h₀ : Heap) (L : Addr) (ent : Addr × Obj) (keep : List (Addr × Obj)) (J : (Str → Option Value) → List (Addr × Obj) → Prop) (s s₂ : Shared) : Prop :=
  ∃ h' g' tk m' news', s₂ = ⟨h', g', s.drawn, tk, s.os⟩ ∧ AllBare g' ∧ Fr h₀ L h' m' ∧ News h₀ L h' (ent :: (keep ++ news')) ∧ J m' news'
theorem GoOn.mk {h₀ h' : Heap} {L : Addr} {ent : Addr × Obj} {keep news news' : List (Addr × Obj)} {J : (Str → Option Value) → List (Addr × Obj) → Prop} {s : Shared} {g' : Array GenState} {tk : Nat} {m' : Str → Option Value}
    (hb : AllBare g') (F : Fr h₀ L h' m') (N : News h₀ L h' news) (hs : ∀ p ∈ ent :: (keep ++ news'), p ∈ news) (hj : J m' news') : GoOn h₀ L ent keep J s ⟨h', g', s.drawn, tk, s.os⟩ :=
  ⟨h', g', tk, m', news', rfl, hb, F, fun p hp => N p (hs p hp), hj⟩

theorem for_walks {prog : Program} {w : World} {A : Around} {env : Env} {x : Str} {px : Pos} {body : List Stmt} {s : Shared} {Q : Flow → Shared → Prop} {E : Value → Shared → Prop} {I : Addr} {fp : List Addr} {n : Nat} {P : Nat → Value → Prop} {St : Nat → Heap → Prop}
    {h₀ : Heap} {m₀ : Str → Option Value} {news₀ keep : List (Addr × Obj)} {oI : Obj} (J : Nat → (Str → Option Value) → List (Addr × Obj) → Prop)
    (W : Walks prog w A I fp [I] n P St) (hlive : ∀ i h, St i h → ∃ o, h.get? I = some o) (hst : St 0 s.heap) (F : Fr h₀ env.locals s.heap m₀) (N : News h₀ env.locals s.heap ((I, oI) :: (keep ++ news₀)))
    (hfp : ∀ b ∈ fp, b = I ∨ (∃ o, h₀.get? b = some o) ∨ ∃ o, (b, o) ∈ keep) (hoff : ∀ p ∈ keep, p.1 ≠ I) (hb : AllBare s.gens)
    (hx : env.kindOf x = some .local) (hp : (env.scope.kind == .class || (env.scope.kind == .module && env.locals != env.globals)) = false)
    (hJ : ∀ i m news, J i m news → ∀ p ∈ news, p.1 ≠ I) (hj : J 0 m₀ news₀)
    (turn : ∀ i v m₁ news₁ h g tk oI', i < n → P i v → J i m₁ news₁ → AllBare g → Fr h₀ env.locals h (fun y => if y = x then some v else m₁ y) → News h₀ env.locals h ((I, oI') :: (keep ++ news₁)) →
      wpAny (model prog w) A (execs body env) (fun f s₂ => match f with
        | .next => GoOn h₀ env.locals (I, oI') keep (J (i + 1)) s s₂
        | .cont => GoOn h₀ env.locals (I, oI') keep (J (i + 1)) s s₂
        | .brk => Q .next s₂
        | .ret v => Q (.ret v) s₂) (fun _ _ => False) ⟨h, g, s.drawn, tk, s.os⟩)
    (done : ∀ m₁ news₁ h g tk, J n m₁ news₁ → AllBare g → Fr h₀ env.locals h m₁ → News h₀ env.locals h (keep ++ news₁) → Q .next ⟨h, g, s.drawn, tk, s.os⟩) :
    codeAny (model prog w) A (.forLoop (.Name x px) (.ref I) body [] env) (fun r s' => match r with | .ok f => Q f s' | .error e => cameBackBy (model prog w) A env E e s') s := by
  refine loop_inv (fun k s' => ∃ i h g tk m₁ news₁ oI', i + k = n ∧ s' = ⟨h, g, s.drawn, tk, s.os⟩ ∧ AllBare g ∧ Fr h₀ env.locals h m₁ ∧ News h₀ env.locals h ((I, oI') :: (keep ++ news₁)) ∧ J i m₁ news₁ ∧ St i h) ?_ n
    ⟨0, s.heap, s.gens, s.toks, m₀, news₀, oI, by omega, rfl, hb, F, N, hj, hst⟩
  rintro k s' ⟨i, h, g, tk, m₁, news₁, oI', hik, rfl, hg, F₁, N₁, hj₁, hst₁⟩
  have hIL := (N₁ _ (.head _)).2
  have keepF : ∀ h', (∀ b o, b ∉ [I] → h.get? b = some o → h'.get? b = some o) → Fr h₀ env.locals h' m₁ := fun h' hk =>
    ⟨F₁.ns.at' fun o e => hk _ o (by simpa using Ne.symm hIL.1) e, fun b o e => hk b o (by
      simp only [List.mem_singleton]; intro q; subst q; rw [hIL.2] at e; cases e) (F₁.keep b o e), F₁.above⟩
  have keepN : ∀ h', (∀ b o, b ∉ [I] → h.get? b = some o → h'.get? b = some o) → News h₀ env.locals h' (keep ++ news₁) := fun h' hk p hp =>
    ⟨hk _ _ (by
      simp only [List.mem_singleton]
      rcases List.mem_append.mp hp with q | q
      · exact hoff p q
      · exact hJ _ _ _ hj₁ p q) (N₁ p (.tail _ hp)).1, (N₁ p (.tail _ hp)).2⟩
  cases k with
  | zero =>
    have : i = n := by omega
    subst this
    exact W.done _ _ _ hst₁ fun h' tk' hk => done _ _ _ _ _ hj₁ hg (keepF h' hk) (keepN h' hk)
  | succ k =>
    have hin : i < n := by omega
    refine W.item i _ _ _ hin hst₁ fun v h' tk' hP hst' hk => ?_
    dsimp only at hk ⊢
    show wpAny _ _ (pure () : Sem Unit) _ _ _
    refine wpAny_pure ?_
    have F' := keepF h' hk
    have N' := keepN h' hk
    obtain ⟨o', ho'⟩ := hlive _ _ hst'
    refine wpAny_assign_Name (wpAny_storeName_local hx F'.ns (fun h'' hn hs => ?_) hp)
    have F'' := F'.set hn hs
    have N'' : News h₀ env.locals h'' ((I, o') :: (keep ++ news₁)) := fun p hp => by
      rcases List.mem_cons.mp hp with rfl | hp
      · exact ⟨(hs.2 I hIL.1).trans ho', hIL⟩
      · exact N'.set hs p hp
    refine wpAny_mono (turn i v m₁ news₁ h'' g _ o' hin hP hj₁ hg F'' N'') (fun f s₂ hf => ?_) fun _ _ x => x
    have fin : GoOn h₀ env.locals (I, o') keep (J (i + 1)) s s₂ → Again (fun k s' => ∃ i h g tk m₁ news₁ oI', i + k = n ∧ s' = ⟨h, g, s.drawn, tk, s.os⟩ ∧ AllBare g ∧ Fr h₀ env.locals h m₁ ∧ News h₀ env.locals h ((I, oI') :: (keep ++ news₁)) ∧ J i m₁ news₁ ∧ St i h) (k + 1) s₂ := by
      rintro ⟨h9, g9, tk9, m9, news9, rfl, hb9, F9, N9, hj9⟩
      refine Again.mk (Nat.lt_succ_self k) ⟨i + 1, h9, g9, tk9, m9, news9, o', by omega, rfl, hb9, F9, N9, hj9, W.frame _ _ _ hst' fun b hb' o e => ?_⟩
      rcases hfp b hb' with rfl | ⟨o₀, e₀⟩ | ⟨o₀, e₀⟩
      · rw [ho'] at e; cases e; exact (N9 _ (.head _)).1
      · have q : o = o₀ := by
          have := F'.keep b o₀ e₀
          rw [e] at this; exact Option.some.inj this
        subst q
        exact F9.keep b o e₀
      · have q : o = o₀ := by
          have := (N' (b, o₀) (List.mem_append_left _ e₀)).1
          rw [e] at this; exact Option.some.inj this
        subst q
        exact (N9 (b, o) (.tail _ (List.mem_append_left _ e₀))).1
    cases f with
    | next => exact fin hf
    | cont => exact fin hf
    | brk => exact hf
    | ret v => exact hf

theorem for_list {prog : Program} {w : World} {A : Around} {env : Env} {x : Str} {px : Pos} {body : List Stmt} {s : Shared} {Q : Flow → Shared → Prop} {E : Value → Shared → Prop} {l : Addr} {vs : List Value}
    {h₀ : Heap} {m₀ : Str → Option Value} {news₀ keep : List (Addr × Obj)} (J : Nat → (Str → Option Value) → List (Addr × Obj) → Prop)
    (hh : A.handled = none) (hl : s.heap.IsList l vs.toArray) (F : Fr h₀ env.locals s.heap m₀) (N : News h₀ env.locals s.heap (keep ++ news₀))
    (hin : (∃ o, h₀.get? l = some o) ∨ ∃ o, (l, o) ∈ keep) (hb : AllBare s.gens)
    (hx : env.kindOf x = some .local) (hp : (env.scope.kind == .class || (env.scope.kind == .module && env.locals != env.globals)) = false)
    (hJ : ∀ i m news, J i m news → ∀ p ∈ news, p.1 < s.heap.objs.size) (hj : J 0 m₀ news₀)
    (turn : ∀ i v m₁ news₁ h g tk I oI', vs[i]? = some v → J i m₁ news₁ → AllBare g → Fr h₀ env.locals h (fun y => if y = x then some v else m₁ y) → News h₀ env.locals h ((I, oI') :: (keep ++ news₁)) → OwnOff [(I, oI')] ((keep ++ news₁).map (·.1)) →
      wpAny (model prog w) A (execs body env) (fun f s₂ => match f with
        | .next => GoOn h₀ env.locals (I, oI') keep (J (i + 1)) s s₂
        | .cont => GoOn h₀ env.locals (I, oI') keep (J (i + 1)) s s₂
        | .brk => Q .next s₂
        | .ret v => Q (.ret v) s₂) (fun _ _ => False) ⟨h, g, s.drawn, tk, s.os⟩)
    (done : ∀ m₁ news₁ h g tk, J vs.length m₁ news₁ → AllBare g → Fr h₀ env.locals h m₁ → News h₀ env.locals h (keep ++ news₁) → Q .next ⟨h, g, s.drawn, tk, s.os⟩) :
    wpAny (model prog w) A (pyIter (.ref l)) (fun it s₂ => codeAny (model prog w) A (.forLoop (.Name x px) it body [] env) (fun r s' => match r with | .ok f => Q f s' | .error e => cameBackBy (model prog w) A env E e s') s₂) E s := by
  refine wpAny_pyIter_list hl ?_
  have hlt : l < s.heap.objs.size := let ⟨o, ho, _⟩ := hl; Heap.lt_size ho
  have hne : l ≠ s.heap.objs.size := Nat.ne_of_lt hlt
  have W := Walks.list (prog := prog) (w := w) hh s.heap.objs.size l hne vs.toArray
  rw [List.size_toArray] at W
  have hkp : Kp s.heap (s.heap.push { cls := .type "list_iterator", data := .fields #[.ref l, .int 0 0] }) := fun b o e => Heap.get?_push_of_some _ e
  have hL := ltN F.ns.lt
  have hkeep : ∀ p ∈ keep, p.1 ≠ s.heap.objs.size := fun p hp => Nat.ne_of_lt (Heap.lt_size (N p (List.mem_append_left _ hp)).1)
  have N2 : News h₀ env.locals (s.heap.push { cls := .type "list_iterator", data := .fields #[.ref l, .int 0 0] }) ((s.heap.objs.size, { cls := .type "list_iterator", data := .fields #[.ref l, .int 0 0] }) :: (keep ++ news₀)) := fun p hp => by
    rcases List.mem_cons.mp hp with rfl | hp
    · refine ⟨Heap.get?_push_size _ rfl, Nat.ne_of_gt hL, ?_⟩
      cases hq : h₀.get? s.heap.objs.size with
      | none => rfl
      | some o' => exact absurd (Heap.lt_size (F.keep _ _ hq)) (Nat.lt_irrefl _)
    · exact News.kp N hkp p hp
  refine for_walks J W (fun i h st => let ⟨o, ho, _⟩ := st.1; ⟨o, ho⟩) ⟨⟨_, Heap.get?_push_size _ rfl, rfl, rfl⟩, hl.push _⟩ (Fr.kp F hkp) N2 (fun b hb => ?_) hkeep hb hx hp (fun i m news hj p hp => Nat.ne_of_lt (hJ i m news hj p hp)) hj (fun i v m₁ news₁ h g tk oI' _ hP hj hg F₁ N₁ => turn i v m₁ news₁ h g tk _ oI' (by simpa using hP) hj hg F₁ N₁ fun p hp b hb => ?_) done
  · rcases List.mem_cons.mp hb with rfl | hb
    · exact .inl rfl
    · rw [List.mem_singleton.mp hb]; exact .inr hin
  · rw [List.mem_singleton.mp hp]
    obtain ⟨q, hq, rfl⟩ := List.mem_map.mp hb
    rcases List.mem_append.mp hq with hq | hq
    · exact Ne.symm (hkeep q hq)
    · exact Ne.symm (Nat.ne_of_lt (hJ _ _ _ hj q hq))
end
section /- ListK -/
section
variable {prog : Program} {w : World} {A : Around} {E : Value → Shared → Prop} {s : Shared} {h₀ : Heap} {L D : Addr} {m : Str → Option Value} {news news' : List (Addr × Obj)} {vs : List Value} {y : Value} {n : Nat}
theorem led_list (N : News h₀ L s.heap news) (hm : (D, W.listOf vs.toArray n) ∈ news) : s.heap.IsList D vs.toArray := ⟨_, (N _ hm).1, rfl, _, rfl⟩
theorem truthy_nil {Q : Bool → Shared → Prop} (N : News h₀ L s.heap news) (hm : (D, W.listOf ([] : List Value).toArray n) ∈ news) (h : ∀ tk, Q false { s with toks := tk }) : wpAny (model prog w) A (truthy (.ref D)) Q E s :=
  wpAny_truthy_list (led_list N hm) (by decide) (h _)
theorem truthy_snoc {Q : Bool → Shared → Prop} (N : News h₀ L s.heap news) (hm : (D, W.listOf (vs ++ [y]).toArray n) ∈ news) (hz : vs.length ≤ 1000000) (h : ∀ tk, Q true { s with toks := tk }) : wpAny (model prog w) A (truthy (.ref D)) Q E s := by
  refine wpAny_truthy_list (led_list N hm) (by simp; omega) ?_
  have : (!(vs ++ [y]).toArray.isEmpty) = true := by simp
  rw [this]; exact h _
theorem last_snoc {value slice : PySem.Expr} {u : Tok} {Q : Value → Shared → Prop} (N : News h₀ L s.heap news) (hm : (D, W.listOf (vs ++ [y]).toArray n) ∈ news) (h : Q y s)
    (hs : subscripted slice false (.ref D) (.int (-1) u) = operate [.ref D, .int (-1) u] (getItem (.ref D) (.int (-1) u)) := by with_unfolding_all rfl) :
    wpAny (model prog w) A (subscriptTail value slice (.ref D) (.int (-1) u)) Q E s :=
  have hl := led_list N hm
  tail_any hl.typeIs slot_list_getitem.lookup (wpAny_getItem_list_neg hl (by decide) (by simp; omega) (by decide) (by
    simp only [List.size_toArray, List.length_append, List.length_cons, List.length_nil]
    rw [show (-1 + ((vs.length + (0 + 1) : Nat) : Int)).toNat = vs.length by omega]; simp) h) hs
theorem pop_snoc {Q : Value → Shared → Prop} (F : Fr h₀ L s.heap m) (N : News h₀ L s.heap news) (U : Upd D (W.listOf (vs ++ [y]).toArray n) (W.listOf vs.toArray (n + 1)) news news') (hz : vs.length ≤ 1000000)
    (h : ∀ h', Fr h₀ L h' m → News h₀ L h' news' → Q y { s with heap := h' }) : wpAny (model prog w) A (call (.builtin "list.pop") [.ref D]) Q E s :=
  kl_pop F N (p := vs) (y := y) (by simpa using kpa_last y vs) U (by rw [PySem.sizeLine_eq]; simp; omega) h
theorem append_led {Q : Value → Shared → Prop} (F : Fr h₀ L s.heap m) (N : News h₀ L s.heap news) (U : Upd D (W.listOf vs.toArray n) (W.listOf (vs ++ [y]).toArray (n + 1)) news news') (hz : vs.length ≤ 1000000)
    (h : ∀ h', Fr h₀ L h' m → News h₀ L h' news' → Q .none { s with heap := h' }) : wpAny (model prog w) A (call (.builtin "list.append") [.ref D, y]) Q E s :=
  append_K F N (its := vs.toArray) (by rw [List.push_toArray]; exact U) h (by rw [PySem.sizeLine_eq]; simp; omega)
theorem sum_le_of : ∀ {ys : List Str} {n : Nat}, (∀ y ∈ ys, y.length ≤ n) → (ys.map (·.length)).sum ≤ ys.length * n
  | [], _, _ => by simp
  | y :: ys, n, h => by
    have h1 := h y (.head _)
    have h2 := sum_le_of (ys := ys) (n := n) fun z hz => h z (.tail _ hz)
    simp only [List.map_cons, List.sum_cons, List.length_cons, Nat.succ_mul]
    omega
theorem join_eq (x : Str) (ys : List Str) : Txt.join x ys = Str.join x ys := eq_of_beq (join_plain_closes x ys)
theorem join_len' {x : Str} : ∀ {ys : List Str}, (∀ y ∈ ys, y.length ≤ 1000) → x.length ≤ 64 → (Str.join x ys).length ≤ ys.length * 1064
  | [], _, _ => Nat.zero_le _
  | [y], h, _ => by have := h y (.head _); show y.length ≤ _; simp; omega
  | y :: z :: ys, h, hx => by
    have h1 := h y (.head _)
    have h2 := join_len' (x := x) (ys := z :: ys) (fun a ha => h a (.tail _ ha)) hx
    show (y ++ x ++ Str.join x (z :: ys)).length ≤ _
    rw [Str.length_append, Str.length_append]
    simp only [List.length_cons] at h2 ⊢
    omega
theorem join_len {x : Str} {ys : List Str} (h : ∀ y ∈ ys, y.length ≤ 1000) (hx : x.length ≤ 64) : (Txt.join x ys).length ≤ ys.length * 1064 := by
  rw [join_eq]; exact join_len' h hx
theorem join_lenC' {x : Str} {c : Nat} : ∀ {ys : List Str}, (∀ y ∈ ys, y.length ≤ c) → (Str.join x ys).length ≤ ys.length * (c + x.length)
  | [], _ => Nat.zero_le _
  | [y], h => by have := h y (.head _); show y.length ≤ _; simp; omega
  | y :: z :: ys, h => by
    have h1 := h y (.head _)
    have h2 := join_lenC' (x := x) (ys := z :: ys) (fun a ha => h a (.tail _ ha))
    show (y ++ x ++ Str.join x (z :: ys)).length ≤ _
    rw [Str.length_append, Str.length_append]
    simp only [List.length_cons, Nat.succ_mul] at h2 ⊢
    omega
theorem join_lenC {x : Str} {c : Nat} {ys : List Str} (h : ∀ y ∈ ys, y.length ≤ c) : (Txt.join x ys).length ≤ ys.length * (c + x.length) := by
  rw [join_eq]; exact join_lenC' h
theorem join_led {x : Str} {t : Tok} {ys : List Str} {Q : Value → Shared → Prop} (N : News h₀ L s.heap news) (hm : (D, W.listOf vs.toArray n) ∈ news) (hS : StrsAre vs ys) (hb : ∀ y ∈ ys, y.length ≤ 1000) (hn : ys.length ≤ 2000) (hx : x.length ≤ 64)
    (h : ∀ t' k, (Txt.join x ys).length ≤ 2200000 → Q (.str (Txt.join x ys) t') { s with toks := k }) : wpAny (model prog w) A (call (.builtin "str.join") [.str x t, .ref D]) Q E s := by
  refine join_list (led_list N hm) hS ?_ fun t' k => h t' k ?_
  rotate_left
  · have := join_len hb hx
    omega
  have h1 := sum_le_of hb
  have h2 : ys.length * x.length ≤ ys.length * 64 := Nat.mul_le_mul_left _ hx
  omega
end
theorem StrsAre.snoc_inv : ∀ {vs : List Value} {y : Value} {ys : List Str}, StrsAre (vs ++ [y]) ys → ∃ ys' z t, ys = ys' ++ [z] ∧ y = .str z t ∧ StrsAre vs ys'
  | [], _, _, .cons z t .nil => ⟨[], z, t, rfl, rfl, .nil⟩
  | _ :: vs, _, _, .cons a t r => by
    obtain ⟨ys', z, u, rfl, rfl, h⟩ := StrsAre.snoc_inv r
    exact ⟨a :: ys', z, u, rfl, rfl, .cons a t h⟩
theorem StrsAre.drop' : ∀ (i : Nat) {vs : List Value} {ys : List Str}, StrsAre vs ys → StrsAre (vs.drop i) (ys.drop i)
  | 0, _, _, h => h
  | _ + 1, _, _, .nil => .nil
  | i + 1, _, _, .cons _ _ r => StrsAre.drop' i r
theorem StrsAre.take' : ∀ (i : Nat) {vs : List Value} {ys : List Str}, StrsAre vs ys → StrsAre (vs.take i) (ys.take i)
  | 0, _, _, _ => .nil
  | _ + 1, _, _, .nil => .nil
  | i + 1, _, _, .cons a t r => .cons a t (StrsAre.take' i r)
theorem StrsAre.nil_eq {ys : List Str} (h : StrsAre [] ys) : ys = [] := by cases h; rfl
theorem foldl_next {α β : Type} (f : β → α → β) (b : β) (cs : List α) (i : Nat) (c : α) (h : cs[i]? = some c) : (cs.take (i + 1)).foldl f b = f ((cs.take i).foldl f b) c := by
  rw [List.take_add_one, h]; simp
theorem len_led {w : World} {prog : Program} {A : Around} {E : Value → Shared → Prop} {s : Shared} {h₀ : Heap} {L D : Addr} {news : List (Addr × Obj)} {vs : List Value} {n : Nat} {Q : Value → Shared → Prop} (N : News h₀ L s.heap news) (hm : (D, W.listOf vs.toArray n) ∈ news) (hz : vs.length ≤ 1000000)
    (h : ∀ t k, Q (.int (vs.length : Int) t) { s with toks := k }) : wpAny (model prog w) A (call (.builtin "len") [.ref D]) Q E s := by
  refine len_list (led_list N hm) (by simp; omega) ?_
  simp only [List.size_toArray]
  exact h _ _
end
section
local macro_rules | `(tactic| walk_at "truthy ref") => `(tactic| k_dflt (first | (refine' truthy_nil ?N ?m ?_; (case N => k_asm); (case m => k_mem); intro _) | (refine' truthy_snoc ?N ?m ?z ?_; (case N => k_asm); (case m => k_mem); (case z => omega); intro _)))
local macro_rules | `(tactic| walk_at "subscriptTail Name UnaryOp ref int") => `(tactic| k_dflt (refine' last_snoc ?N ?m ?_; (case N => k_asm); (case m => k_mem)))
local macro_rules | `(tactic| walk_at "call builtin:str.join") => `(tactic| (k_dflt (refine' join_led ?N ?m ?S ?b ?n ?x ?_; (case N => k_asm); (case m => k_mem); (case S => assumption); (case b => assumption); (case n => omega); (case x => decide)); intro _ _ _))
local macro_rules | `(tactic| walk_at "call builtin:list.pop") => `(tactic| (k_dflt (refine' pop_snoc ?F ?N ?U ?z ?_; (case F => k_asm); (case N => k_asm); (case U => k_upd); (case z => omega)); intro h' F' N'; (try k_sweep)))
local macro_rules | `(tactic| walk_at "call builtin:list.append") => `(tactic| (k_dflt (refine' append_led ?F ?N ?U ?z ?_; (case F => k_asm); (case N => k_asm); (case U => k_upd); (case z => (try simp only [List.length_append, List.length_cons, List.length_nil]); omega)); intro h' F' N'; (try k_sweep)))
section /- NormA -/
theorem nt {b : Bool} (h : b = false) : ¬ b = true := by rw [h]; decide
noncomputable abbrev tupObj (vs : List Value) : Obj := { cls := .type "tuple", data := .seq vs.toArray }
noncomputable def rootOf (x : Str) : Str × Str :=
  if (Txt.slice x none (some 1) != Str.ofString "/") = true then (Str.ofString "", x)
  else if (Txt.slice x (some 1) (some 2) != Str.ofString "/") = true then (Str.ofString "/", Txt.slice x (some 1) none)
  else if (Txt.slice x (some 2) (some 3) == Str.ofString "/") = true then (Str.ofString "/", Txt.slice x (some 1) none)
  else (Txt.slice x none (some 2), Txt.slice x (some 2) none)

theorem splitroot_spec {w : World} {mg mb : Str → Option Value} {mean : ExcName → Option Value} {s : Shared} {d u : Nat} {x : Str} {t : Tok} {R : Result → Shared → Prop}
    (X : (hd.heap_1 w.params).In s.heap) (T : Top view39 (looseW view39 []) mean mg mb s.heap) (hd : d < 440) (hx : x.length ≤ 100000)
    (hR : ∀ h' tk D t1 t2 t3, Kp s.heap h' → h'.get? D = some (tupObj [.str (Str.ofString "") t1, .str (rootOf x).1 t2, .str (rootOf x).2 t3]) → s.heap.get? D = none → R (.ok (.ret (.ref D))) { s with heap := h', toks := tk }) :
    codeAny (model PySem.Challenge.rw_ik0197_01.row.prog w) (ar d u) (.call (.ref 143) ⟨[.str x t], []⟩) R s := by
  refine enter (binds := [(Str.ofString "p", .str x t)]) X T.nolimit (by k_is) (by k_is) (show d < 1000 by omega) (BindsTo.of_eq rfl) (locs rfl) ?_
  intro L h₁ F N
  dsimp only [List.reverse_cons, List.reverse_nil, List.nil_append, List.length_cons, List.length_nil] at F ⊢
  repeat' (walk_at "wH")
  refine wpAny_call (fspath_spec (X.keeps F.keep) (T.keeps F.keep) (show d + 1 < 450 by omega) fun h₂ tk₂ hk₂ => ?_)
  have F := Fr.kp F hk₂
  have N := News.kp N hk₂
  show wpAny _ _ _ _ _ _
  repeat' (walk_at "wH")
  · have e : rootOf x = (Str.ofString "", x) := by unfold rootOf; rw [if_pos (by assumption)]
    (with_reducible rename Fr _ _ _ _ => F₁)
    (with_reducible rename News _ _ _ _ => N₁)
    exact hR _ _ _ _ _ _ F₁.keep (by rw [e]; exact (N₁ _ (.head _)).1) (N₁ _ (.head _)).2.2
  · have e : rootOf x = (Str.ofString "/", Txt.slice x (some 1) none) := by unfold rootOf; rw [if_neg (nt (by assumption)), if_pos (by assumption)]
    (with_reducible rename Fr _ _ _ _ => F₁)
    (with_reducible rename News _ _ _ _ => N₁)
    exact hR _ _ _ _ _ _ F₁.keep (by rw [e]; exact (N₁ _ (.head _)).1) (N₁ _ (.head _)).2.2
  · have e : rootOf x = (Str.ofString "/", Txt.slice x (some 1) none) := by unfold rootOf; rw [if_neg (nt (by assumption)), if_neg (nt (by assumption)), if_pos (by assumption)]
    (with_reducible rename Fr _ _ _ _ => F₁)
    (with_reducible rename News _ _ _ _ => N₁)
    exact hR _ _ _ _ _ _ F₁.keep (by rw [e]; exact (N₁ _ (.head _)).1) (N₁ _ (.head _)).2.2
  · have e : rootOf x = (Txt.slice x none (some 2), Txt.slice x (some 2) none) := by unfold rootOf; rw [if_neg (nt (by assumption)), if_neg (nt (by assumption)), if_neg (nt (by assumption))]
    (with_reducible rename Fr _ _ _ _ => F₁)
    (with_reducible rename News _ _ _ _ => N₁)
    exact hR _ _ _ _ _ _ F₁.keep (by rw [e]; exact (N₁ _ (.head _)).1) (N₁ _ (.head _)).2.2

theorem newsIn {h₀ h h' : Heap} {L D : Addr} {m : Str → Option Value} {news : List (Addr × Obj)} {o : Obj} (F : Fr h₀ L h m) (hf : h.get? D = none) (hD : h'.get? D = some o) (N : News h₀ L h' news) : News h₀ L h' ((D, o) :: news) := fun p hp => by
  rcases List.mem_cons.mp hp with rfl | hp
  · refine ⟨hD, fun e => ?_, ?_⟩
    · obtain ⟨oL, _, _, hL, _⟩ := F.ns
      rw [← e] at hL; rw [hf] at hL; cases hL
    · cases q : h₀.get? D with
      | none => rfl
      | some o' => have := F.keep _ _ q; rw [hf] at this; cases this
  · exact N p hp

theorem rootOf_length (x : Str) : (rootOf x).2.length ≤ x.length ∧ (rootOf x).1.length ≤ x.length + 1 := by
  have h1 := Txt.slice_le x (some 1) none
  have h2 := Txt.slice_le x (some 2) none
  have h3 := Txt.slice_le x none (some 2)
  have e1 : (Str.ofString "/").length = 1 := by decide
  have e2 : (Str.ofString "").length = 0 := by decide
  unfold rootOf
  split
  · exact ⟨Nat.le_refl _, by simp [e2]⟩
  · split
    · exact ⟨h1, by simp [e1]⟩
    · split
      · exact ⟨h1, by simp [e1]⟩
      · exact ⟨h2, by simpa using Nat.le_succ_of_le h3⟩

noncomputable def normStep (root : Str) (acc : List Str) (c : Str) : List Str :=
  if c = Str.ofString "" ∨ c = Str.ofString "." then acc
  else if c ≠ Str.ofString ".." ∨ (root = Str.ofString "" ∧ acc = []) ∨ (acc ≠ [] ∧ acc.getLast? = some (Str.ofString "..")) then acc ++ [c]
  else if acc ≠ [] then acc.dropLast else acc

noncomputable def NJ (root : Str) (comps : List Str) (ln : Addr) (i : Nat) (m : Str → Option Value) (news : List (Addr × Obj)) : Prop :=
  ∃ (vs : List Value) (n : Nat) (t1 t2 t3 t4 : Tok), news = [(ln, W.listOf vs.toArray n)] ∧ StrsAre vs ((comps.take i).foldl (normStep root) []) ∧ vs.length ≤ i ∧ (∀ y ∈ (comps.take i).foldl (normStep root) [], y.length ≤ 1000) ∧
    m (Str.ofString "new_comps") = some (.ref ln) ∧ m (Str.ofString "dotdot") = some (.str (Str.ofString "..") t1) ∧ m (Str.ofString "dot") = some (.str (Str.ofString ".") t2) ∧
    m (Str.ofString "sep") = some (.str (Str.ofString "/") t3) ∧ m (Str.ofString "initial_slashes") = some (.str root t4)

theorem ns_nil {c : Str} (h : c.length = 0) : c = Str.ofString "" := by
  obtain ⟨l⟩ := c
  have : l = #[] := Array.eq_empty_of_size_eq_zero h
  subst this; rfl
theorem ns_empty (root : Str) (acc : List Str) (c : Str) (h : c.length = 0) : normStep root acc c = acc := by
  have : c = Str.ofString "" := ns_nil h
  unfold normStep; rw [if_pos (.inl this)]
theorem ns_dot (root : Str) (acc : List Str) (c : Str) (h : (c == Str.ofString ".") = true) : normStep root acc c = acc := by
  unfold normStep; rw [if_pos (.inr (eq_of_beq h))]
theorem ns_go {c : Str} (h0 : c.length ≠ 0) (h1 : (c == Str.ofString ".") = false) : ¬ (c = Str.ofString "" ∨ c = Str.ofString ".") := by
  rintro (rfl | rfl)
  · exact h0 rfl
  · simp at h1
theorem ns_app1 (root : Str) (acc : List Str) (c : Str) (h0 : c.length ≠ 0) (h1 : (c == Str.ofString ".") = false) (h2 : (c != Str.ofString "..") = true) : normStep root acc c = acc ++ [c] := by
  unfold normStep; rw [if_neg (ns_go h0 h1), if_pos (.inl (by simpa using h2))]
theorem ns_dd {c : Str} (h2 : (c != Str.ofString "..") = false) : c = Str.ofString ".." := by simpa using h2
theorem ns_app2 (root : Str) (c : Str) (h0 : c.length ≠ 0) (h1 : (c == Str.ofString ".") = false) (h2 : (c != Str.ofString "..") = false) (h3 : root.length = 0) : normStep root [] c = [] ++ [c] := by
  unfold normStep; rw [if_neg (ns_go h0 h1), if_pos (.inr (.inl ⟨ns_nil h3, rfl⟩))]
theorem ns_none (root : Str) (c : Str) (h0 : c.length ≠ 0) (h1 : (c == Str.ofString ".") = false) (h2 : (c != Str.ofString "..") = false) (h3 : root.length ≠ 0) : normStep root [] c = [] := by
  unfold normStep; rw [if_neg (ns_go h0 h1), if_neg, if_neg (by simp)]
  rintro (h | ⟨h, _⟩ | ⟨h, _⟩)
  · exact h (ns_dd h2)
  · rw [h] at h3; exact h3 rfl
  · exact h rfl
theorem ns_app3 (root : Str) (acc : List Str) (z c : Str) (h0 : c.length ≠ 0) (h1 : (c == Str.ofString ".") = false) (h2 : (c != Str.ofString "..") = false) (h3 : (z == Str.ofString "..") = true) : normStep root (acc ++ [z]) c = acc ++ [z] ++ [c] := by
  unfold normStep; rw [if_neg (ns_go h0 h1), if_pos (.inr (.inr ⟨by simp, by rw [List.getLast?_append, List.getLast?_singleton, Option.some_or, eq_of_beq h3]⟩))]
theorem ns_pop (root : Str) (acc : List Str) (z c : Str) (h0 : c.length ≠ 0) (h1 : (c == Str.ofString ".") = false) (h2 : (c != Str.ofString "..") = false) (h3 : (z == Str.ofString "..") = false) : normStep root (acc ++ [z]) c = acc := by
  unfold normStep; rw [if_neg (ns_go h0 h1), if_neg, if_pos (by simp), List.dropLast_concat]
  rintro (h | ⟨_, h⟩ | ⟨_, h⟩)
  · exact h (ns_dd h2)
  · simp at h
  · rw [List.getLast?_append, List.getLast?_singleton, Option.some_or] at h
    rw [Option.some.inj h] at h3
    simp at h3

theorem ns_le {root c : Str} {acc : List Str} {n : Nat} (h : ∀ y ∈ acc, y.length ≤ n) (hc : c.length ≤ n) : ∀ y ∈ normStep root acc c, y.length ≤ n := by
  have ha : ∀ y ∈ acc ++ [c], y.length ≤ n := fun y hy => by
    rcases List.mem_append.mp hy with hy | hy
    · exact h y hy
    · rw [List.mem_singleton.mp hy]; exact hc
  have hd : ∀ y ∈ acc.dropLast, y.length ≤ n := fun y hy => h y (List.dropLast_subset _ hy)
  unfold normStep
  split
  · exact h
  · split
    · exact ha
    · split
      · exact hd
      · exact h
noncomputable def normed (x : Str) : Str :=
  if x.length = 0 then Str.ofString "."
  else
    let p := (rootOf x).1 ++ Txt.join (Str.ofString "/") ((Txt.split (rootOf x).2 (Str.ofString "/")).foldl (normStep (rootOf x).1) [])
    if p.length = 0 then Str.ofString "." else p

theorem normpath_spec {w : World} {mg mb : Str → Option Value} {mean : ExcName → Option Value} {s : Shared} {d u : Nat} {x : Str} {t : Tok} {R : Result → Shared → Prop}
    (X : (hd.heap_1 w.params).In s.heap) (T : Top view39 (looseW view39 []) mean mg mb s.heap) (hd : d < 430) (hx : x.length ≤ 1000) (hb : AllBare s.gens)
    (hR : ∀ h' g' tk t', Kp s.heap h' → AllBare g' → R (.ok (.ret (.str (normed x) t'))) ⟨h', g', s.drawn, tk, s.os⟩) :
    codeAny (model PySem.Challenge.rw_ik0197_01.row.prog w) (ar d u) (.call (.ref 150) ⟨[.str x t], []⟩) R s := by
  refine enter (binds := [(Str.ofString "path", .str x t)]) X T.nolimit (by k_is) (by k_is) (show d < 1000 by omega) (BindsTo.of_eq rfl) (locs rfl) ?_
  intro L h₁ F N
  dsimp only [List.reverse_cons, List.reverse_nil, List.nil_append, List.length_cons, List.length_nil] at F ⊢
  repeat' (walk_at "wH")
  refine wpAny_call (fspath_spec (X.keeps F.keep) (T.keeps F.keep) (show d + 1 < 450 by omega) fun h₂ tk₂ hk₂ => ?_)
  have F := Fr.kp F hk₂
  have N := News.kp N hk₂
  show wpAny _ _ _ _ _ _
  repeat' (walk_at "wH")
  · (with_reducible rename Fr _ _ _ _ => F₁)
    (with_reducible rename News _ _ _ _ => N₁)
    refine wpAny_call (splitroot_spec (X.keeps F₁.keep) (T.keeps F₁.keep) (show d + 1 < 440 by omega) (by omega) fun h₃ tk₃ D t1 t2 t3 hk₃ hD hfr => ?_)
    have F := Fr.kp F₁ hk₃
    have N := newsIn F₁ hfr hD (News.kp N₁ hk₃)
    clear F₁ N₁
    show wpAny _ _ _ _ _ _
    dsimp only
    have hrl := rootOf_length x
    repeat' (walk_at "wH")
    refine wpAny_For ?_
    repeat' (walk_at "wH")
    (with_reducible rename Fr _ _ _ _ => F₁)
    (with_reducible rename News _ _ _ _ => N₁)
    rename_i ls h5 k5 hls hsa hll hlist h6 ln h7 hlts h8
    rw [hls] at hsa hll
    dsimp only at hlist N₁ F₁ ⊢
    generalize Array.size (Heap.objs _) = lc at hlist N₁ F₁ hlts ⊢
    have N₂ : News s.heap L h8 ([(lc, _)] ++ [(ln, W.listOf #[] 0)]) := fun p hp => N₁ p (by
      rcases List.mem_append.mp hp with hp | hp
      · rw [List.mem_singleton.mp hp]; exact .tail _ (.head _)
      · rw [List.mem_singleton.mp hp]; exact .head _)
    have hr2 := hrl.2
    have hcl3 : (Txt.split (rootOf x).2 (Str.ofString "/")).length ≤ 1002 := by have := split_le (rootOf x).2 (Str.ofString "/"); have := hrl.1; omega
    have q2 : @Ne Nat lc ln := by omega
    have hll' : (strValues ls).length = (Txt.split (rootOf x).2 (Str.ofString "/")).length := StrsAre.length hsa
    generalize hcs : Txt.split (rootOf x).2 (Str.ofString "/") = cs at hsa hll hcl3 hll'
    refine for_list (NJ (rootOf x).1 cs ln) rfl ⟨_, (N₂ _ (.head _)).1, rfl, _, rfl⟩ F₁ N₂ (.inr ⟨_, .head _⟩) hb rfl rfl (fun i m news hj p hp => ?_) ⟨[], 0, _, _, _, _, rfl, .nil, Nat.zero_le _, (fun y hy => by cases hy), rfl, rfl, rfl, rfl, rfl⟩ (fun i v m₁ news₁ h g tk I oI' hv hj hg F N hoff => ?_) (fun m₁ news₁ h g tk hj hg F N => ?_)
    · obtain ⟨vs, n, _, _, _, _, rfl, _⟩ := hj
      rw [List.mem_singleton.mp hp]; exact Heap.lt_size (N₁ _ (.head _)).1
    · obtain ⟨vs, n, u1, u2, u3, u4, rfl, hvs, hvl, hle, hm1, hm2, hm3, hm4, hm5⟩ := hj
      obtain ⟨c, tc, rfl, hc⟩ := hsa.item i v hv
      change Fr s.heap L h _ at F
      change News s.heap L h _ at N
      have F' := (Fr.know (Fr.know (Fr.know (Fr.know F (a := Str.ofString "new_comps") (by rw [if_neg (by decide)]; exact hm1)) (a := Str.ofString "dotdot") (by rw [if_neg (by decide), if_neg (by decide)]; exact hm2)) (a := Str.ofString "dot") (by rw [if_neg (by decide), if_neg (by decide), if_neg (by decide)]; exact hm3)) (a := Str.ofString "initial_slashes") (by rw [if_neg (by decide), if_neg (by decide), if_neg (by decide), if_neg (by decide)]; exact hm5))
      clear F F₁ N₁ N₂
      simp only [List.cons_append, List.nil_append, List.map_cons, List.map_nil] at N hoff
      have hcl : c.length ≤ 1000 := by have := hll c (List.mem_of_getElem? hc); have := hrl.1; omega
      have hrl2 : (rootOf x).1.length ≤ 1001 := by omega
      have q1 : @Ne Nat I ln := hoff _ (.head _) _ (.tail _ (.head _))
      have hil : i < cs.length := (List.getElem?_eq_some_iff.mp hc).1
      have hcl2 : cs.length ≤ 1002 := hcl3
      have hst := foldl_next (normStep (rootOf x).1) [] cs i c hc
      generalize (cs.take i).foldl (normStep (rootOf x).1) [] = acc at hvs hst hle
      have fin : ∀ h6 tk6 m6 vs6 n6, Fr s.heap L h6 m6 → News s.heap L h6 [(I, oI'), (lc, { cls := .type "list", data := .seq (strValues ls).toArray }), (ln, W.listOf vs6.toArray n6)] → StrsAre vs6 (normStep (rootOf x).1 acc c) → vs6.length ≤ i + 1 →
          m6 (Str.ofString "new_comps") = some (.ref ln) → m6 (Str.ofString "dotdot") = some (.str (Str.ofString "..") u1) → m6 (Str.ofString "dot") = some (.str (Str.ofString ".") u2) → m6 (Str.ofString "sep") = some (.str (Str.ofString "/") u3) → m6 (Str.ofString "initial_slashes") = some (.str (rootOf x).1 u4) →
          GoOn s.heap L (I, oI') [(lc, { cls := .type "list", data := .seq (strValues ls).toArray })] (NJ (rootOf x).1 cs ln (i + 1)) s ⟨h6, g, s.drawn, tk6, s.os⟩ :=
        fun h6 tk6 m6 vs6 n6 F6 N6 hv6 hl6 h1 h2 h3 h4 h5 => GoOn.mk hg F6 N6 (fun _ h => h) ⟨vs6, n6, u1, u2, u3, u4, rfl, by rw [hst]; exact hv6, hl6, by rw [hst]; exact ns_le hle hcl, h1, h2, h3, h4, h5⟩
      have F' := Fr.know F' (a := Str.ofString "sep") (by rw [if_neg (by decide), if_neg (by decide), if_neg (by decide), if_neg (by decide), if_neg (by decide)]; exact hm4)
      refine wpAny_abs fun Qx hQx => ?_
      rcases List.eq_nil_or_concat vs with rfl | ⟨vs', y, rfl⟩
      · have := StrsAre.nil_eq hvs
        subst this
        repeat' (walk_at "wH")
        all_goals (with_reducible rename Fr _ _ _ _ => F₁)
        all_goals (with_reducible rename News _ _ _ _ => N₁)
        all_goals refine hQx _ _ ?_
        all_goals show GoOn _ _ _ _ _ _ _
        all_goals refine fin _ _ _ _ _ F₁ N₁ ?_ (by simp) (by walk_at "turnMap0") (by walk_at "turnMap0") (by walk_at "turnMap0") (by walk_at "turnMap0") (by walk_at "turnMap0")
        all_goals first
          | (rw [ns_empty (rootOf x).1 [] c (by omega)]; first | exact hvs | exact .nil)
          | (rw [ns_dot (rootOf x).1 [] c (by assumption)]; first | exact hvs | exact .nil)
          | (rw [ns_app1 (rootOf x).1 [] c (by omega) (by assumption) (by assumption)]; exact hvs.append' (.cons _ _ .nil))
          | (rw [ns_app2 (rootOf x).1 c (by omega) (by assumption) (by assumption) (by omega)]; exact hvs.append' (.cons _ _ .nil))
          | (rw [ns_none (rootOf x).1 c (by omega) (by assumption) (by assumption) (by omega)]; exact .nil)
          | (rw [ns_app3 (rootOf x).1 acc' z c (by omega) (by assumption) (by assumption) (by assumption)]; exact hvs.append' (.cons _ _ .nil))
          | (rw [ns_pop (rootOf x).1 acc' z c (by omega) (by assumption) (by assumption) (by assumption)]; exact hvs')
      · rw [List.concat_eq_append] at *
        obtain ⟨acc', z, tz, rfl, rfl, hvs'⟩ := StrsAre.snoc_inv hvs
        have hvl' : vs'.length ≤ 1002 := by simp at hvl; omega
        repeat' (walk_at "wH")
        all_goals (with_reducible rename Fr _ _ _ _ => F₁)
        all_goals (with_reducible rename News _ _ _ _ => N₁)
        all_goals refine hQx _ _ ?_
        all_goals show GoOn _ _ _ _ _ _ _
        all_goals refine fin _ _ _ _ _ F₁ N₁ ?_ (by simp at hvl ⊢; omega) (by walk_at "turnMap0") (by walk_at "turnMap0") (by walk_at "turnMap0") (by walk_at "turnMap0") (by walk_at "turnMap0")
        all_goals first
          | (rw [ns_empty (rootOf x).1 (acc' ++ [z]) c (by omega)]; first | exact hvs | exact .nil)
          | (rw [ns_dot (rootOf x).1 (acc' ++ [z]) c (by assumption)]; first | exact hvs | exact .nil)
          | (rw [ns_app1 (rootOf x).1 (acc' ++ [z]) c (by omega) (by assumption) (by assumption)]; exact hvs.append' (.cons _ _ .nil))
          | (rw [ns_app2 (rootOf x).1 c (by omega) (by assumption) (by assumption) (by omega)]; exact hvs.append' (.cons _ _ .nil))
          | (rw [ns_none (rootOf x).1 c (by omega) (by assumption) (by assumption) (by omega)]; exact .nil)
          | (rw [ns_app3 (rootOf x).1 acc' z c (by omega) (by assumption) (by assumption) (by assumption)]; exact hvs.append' (.cons _ _ .nil))
          | (rw [ns_pop (rootOf x).1 acc' z c (by omega) (by assumption) (by assumption) (by assumption)]; exact hvs')
    · obtain ⟨vs, n, u1, u2, u3, u4, rfl, hvs, hvl, hle, hm1, hm2, hm3, hm4, hm5⟩ := hj
      change Fr s.heap L h _ at F
      change News s.heap L h _ at N
      show wpAny _ _ _ _ _ _
      have F' := (Fr.know (Fr.know (Fr.know (Fr.know F (a := Str.ofString "new_comps") hm1) (a := Str.ofString "dot") (by rw [if_neg (by decide)]; exact hm3)) (a := Str.ofString "sep") (by rw [if_neg (by decide), if_neg (by decide)]; exact hm4)) (a := Str.ofString "initial_slashes") (by rw [if_neg (by decide), if_neg (by decide), if_neg (by decide)]; exact hm5))
      clear F F₁ N₁ N₂
      simp only [List.cons_append, List.nil_append] at N
      have hvl2 : vs.length ≤ 1002 := by
        have := hll'
        omega
      have hacc : ((cs.take (strValues ls).length).foldl (normStep (rootOf x).1) []) = (cs.foldl (normStep (rootOf x).1) []) := by
        rw [List.take_of_length_le]
        have := hll'
        omega
      rw [hacc] at hvs hle
      generalize hq : cs.foldl (normStep (rootOf x).1) [] = acc at hvs hle
      have hal := StrsAre.length hvs
      have hal2 : acc.length ≤ 1002 := by omega
      have hrl3 : (rootOf x).1.length ≤ 1001 := by omega
      repeat' (walk_at "wH")
      · (with_reducible rename Fr _ _ _ _ => F₁)
        have e : normed x = (rootOf x).1 ++ Txt.join (Str.ofString "/") acc := by
          unfold normed; rw [hcs, hq, if_neg (by omega)]; dsimp only; split
          · omega
          · rfl
        rw [← e]
        exact hR _ _ _ _ F₁.keep (by assumption)
      · (with_reducible rename Fr _ _ _ _ => F₁)
        have e : normed x = Str.ofString "." := by
          unfold normed; rw [hcs, hq, if_neg (by omega)]; dsimp only; split
          · rfl
          · omega
        rw [← e]
        exact hR _ _ _ _ F₁.keep (by assumption)
  · (with_reducible rename Fr _ _ _ _ => F₁)
    have e : normed x = Str.ofString "." := by unfold normed; rw [if_pos (by omega)]
    rw [← e]
    exact hR _ _ _ _ F₁.keep hb
end
end
section /- LoopB -/
theorem for_tuple {prog : Program} {w : World} {A : Around} {env : Env} {x : Str} {px : Pos} {body : List Stmt} {s : Shared} {Q : Flow → Shared → Prop} {E : Value → Shared → Prop} {l : Addr} {vs : List Value}
    {h₀ : Heap} {m₀ : Str → Option Value} {news₀ keep : List (Addr × Obj)} (J : Nat → (Str → Option Value) → List (Addr × Obj) → Prop)
    (hh : A.handled = none) (hl : s.heap.IsTuple l vs.toArray) (F : Fr h₀ env.locals s.heap m₀) (N : News h₀ env.locals s.heap (keep ++ news₀))
    (hin : (∃ o, h₀.get? l = some o) ∨ ∃ o, (l, o) ∈ keep) (hb : AllBare s.gens)
    (hx : env.kindOf x = some .local) (hp : (env.scope.kind == .class || (env.scope.kind == .module && env.locals != env.globals)) = false)
    (hJ : ∀ i m news, J i m news → ∀ p ∈ news, p.1 < s.heap.objs.size) (hj : J 0 m₀ news₀)
    (turn : ∀ i v m₁ news₁ h g tk I oI', vs[i]? = some v → J i m₁ news₁ → AllBare g → Fr h₀ env.locals h (fun y => if y = x then some v else m₁ y) → News h₀ env.locals h ((I, oI') :: (keep ++ news₁)) → OwnOff [(I, oI')] ((keep ++ news₁).map (·.1)) →
      wpAny (model prog w) A (execs body env) (fun f s₂ => match f with
        | .next => GoOn h₀ env.locals (I, oI') keep (J (i + 1)) s s₂
        | .cont => GoOn h₀ env.locals (I, oI') keep (J (i + 1)) s s₂
        | .brk => Q .next s₂
        | .ret v => Q (.ret v) s₂) (fun _ _ => False) ⟨h, g, s.drawn, tk, s.os⟩)
    (done : ∀ m₁ news₁ h g tk, J vs.length m₁ news₁ → AllBare g → Fr h₀ env.locals h m₁ → News h₀ env.locals h (keep ++ news₁) → Q .next ⟨h, g, s.drawn, tk, s.os⟩) :
    wpAny (model prog w) A (pyIter (.ref l)) (fun it s₂ => codeAny (model prog w) A (.forLoop (.Name x px) it body [] env) (fun r s' => match r with | .ok f => Q f s' | .error e => cameBackBy (model prog w) A env E e s') s₂) E s := by
  refine wpAny_pyIter_tuple hl ?_
  have hlt : l < s.heap.objs.size := let ⟨o, ho, _⟩ := hl; Heap.lt_size ho
  have hne : l ≠ s.heap.objs.size := Nat.ne_of_lt hlt
  have W := Walks.tuple (prog := prog) (w := w) hh s.heap.objs.size l hne vs.toArray
  rw [List.size_toArray] at W
  have hkp : Kp s.heap (s.heap.push { cls := .type "tuple_iterator", data := .fields #[.ref l, .int 0 0] }) := fun b o e => Heap.get?_push_of_some _ e
  have hL := ltN F.ns.lt
  have hkeep : ∀ p ∈ keep, p.1 ≠ s.heap.objs.size := fun p hp => Nat.ne_of_lt (Heap.lt_size (N p (List.mem_append_left _ hp)).1)
  have N2 : News h₀ env.locals (s.heap.push { cls := .type "tuple_iterator", data := .fields #[.ref l, .int 0 0] }) ((s.heap.objs.size, { cls := .type "tuple_iterator", data := .fields #[.ref l, .int 0 0] }) :: (keep ++ news₀)) := fun p hp => by
    rcases List.mem_cons.mp hp with rfl | hp
    · refine ⟨Heap.get?_push_size _ rfl, Nat.ne_of_gt hL, ?_⟩
      cases hq : h₀.get? s.heap.objs.size with
      | none => rfl
      | some o' => exact absurd (Heap.lt_size (F.keep _ _ hq)) (Nat.lt_irrefl _)
    · exact News.kp N hkp p hp
  refine for_walks J W (fun i h st => let ⟨o, ho, _⟩ := st.1; ⟨o, ho⟩) ⟨⟨_, Heap.get?_push_size _ rfl, rfl, rfl⟩, hl.at (hkp _)⟩ (Fr.kp F hkp) N2 (fun b hb => ?_) hkeep hb hx hp (fun i m news hj p hp => Nat.ne_of_lt (hJ i m news hj p hp)) hj (fun i v m₁ news₁ h g tk oI' _ hP hj hg F₁ N₁ => turn i v m₁ news₁ h g tk _ oI' (by simpa using hP) hj hg F₁ N₁ fun p hp b hb => ?_) done
  · rcases List.mem_cons.mp hb with rfl | hb
    · exact .inl rfl
    · rw [List.mem_singleton.mp hb]; exact .inr hin
  · rw [List.mem_singleton.mp hp]
    obtain ⟨q, hq, rfl⟩ := List.mem_map.mp hb
    rcases List.mem_append.mp hq with hq | hq
    · exact Ne.symm (hkeep q hq)
    · exact Ne.symm (Nat.ne_of_lt (hJ _ _ _ hj q hq))

theorem for_range {prog : Program} {w : World} {A : Around} {env : Env} {x : Str} {px : Pos} {body : List Stmt} {s : Shared} {Q : Flow → Shared → Prop} {E : Value → Shared → Prop} {r : Addr} {a b c : Int} {t u v : Tok} {n : Nat}
    {h₀ : Heap} {m₀ : Str → Option Value} {news₀ keep : List (Addr × Obj)} (J : Nat → (Str → Option Value) → List (Addr × Obj) → Prop)
    (hh : A.handled = none) (hr : IsRange s.heap r a b c t u v) (hsmall : Builtin.Range.small a b c = true) (hn : Builtin.Range.rangeSize a b c = (n : Int)) (F : Fr h₀ env.locals s.heap m₀) (N : News h₀ env.locals s.heap (keep ++ news₀))
    (hb : AllBare s.gens)
    (hx : env.kindOf x = some .local) (hp : (env.scope.kind == .class || (env.scope.kind == .module && env.locals != env.globals)) = false)
    (hJ : ∀ i m news, J i m news → ∀ p ∈ news, p.1 < s.heap.objs.size) (hj : J 0 m₀ news₀)
    (turn : ∀ i ti m₁ news₁ h g tk I oI', i < n → J i m₁ news₁ → AllBare g → Fr h₀ env.locals h (fun y => if y = x then some (.int (a + i * c) ti) else m₁ y) → News h₀ env.locals h ((I, oI') :: (keep ++ news₁)) → OwnOff [(I, oI')] ((keep ++ news₁).map (·.1)) →
      wpAny (model prog w) A (execs body env) (fun f s₂ => match f with
        | .next => GoOn h₀ env.locals (I, oI') keep (J (i + 1)) s s₂
        | .cont => GoOn h₀ env.locals (I, oI') keep (J (i + 1)) s s₂
        | .brk => Q .next s₂
        | .ret v => Q (.ret v) s₂) (fun _ _ => False) ⟨h, g, s.drawn, tk, s.os⟩)
    (done : ∀ m₁ news₁ h g tk, J n m₁ news₁ → AllBare g → Fr h₀ env.locals h m₁ → News h₀ env.locals h (keep ++ news₁) → Q .next ⟨h, g, s.drawn, tk, s.os⟩) :
    wpAny (model prog w) A (pyIter (.ref r)) (fun it s₂ => codeAny (model prog w) A (.forLoop (.Name x px) it body [] env) (fun r s' => match r with | .ok f => Q f s' | .error e => cameBackBy (model prog w) A env E e s') s₂) E s := by
  refine wpAny_pyIter_range hr hsmall ?_
  rw [hn]
  have W := Walks.range (prog := prog) (w := w) hh s.heap.objs.size a c n
  have hkp : Kp s.heap (s.heap.push { cls := .type "range_iterator", data := .fields #[rawInt a, rawInt (n : Int), rawInt c] }) := fun b o e => Heap.get?_push_of_some _ e
  have hL := ltN F.ns.lt
  have hkeep : ∀ p ∈ keep, p.1 ≠ s.heap.objs.size := fun p hp => Nat.ne_of_lt (Heap.lt_size (N p (List.mem_append_left _ hp)).1)
  have N2 : News h₀ env.locals (s.heap.push { cls := .type "range_iterator", data := .fields #[rawInt a, rawInt (n : Int), rawInt c] }) ((s.heap.objs.size, { cls := .type "range_iterator", data := .fields #[rawInt a, rawInt (n : Int), rawInt c] }) :: (keep ++ news₀)) := fun p hp => by
    rcases List.mem_cons.mp hp with rfl | hp
    · refine ⟨Heap.get?_push_size _ rfl, Nat.ne_of_gt hL, ?_⟩
      cases hq : h₀.get? s.heap.objs.size with
      | none => rfl
      | some o' => exact absurd (Heap.lt_size (F.keep _ _ hq)) (Nat.lt_irrefl _)
    · exact News.kp N hkp p hp
  refine for_walks J W (fun i h st => ⟨_, st⟩) (by
    have e : s.heap.get? s.heap.objs.size = none := Heap.get?_none_of_le (Nat.le_refl _)
    show IsRangeIter _ _ (a + ((0 : Nat) : Int) * c) ((n : Int) - ((0 : Nat) : Int)) c
    have e1 : a + ((0 : Nat) : Int) * c = a := by simp
    have e2 : (n : Int) - ((0 : Nat) : Int) = n := by simp
    rw [e1, e2]; exact Heap.get?_push_size _ rfl) (Fr.kp F hkp) N2 (fun b hb => .inl (List.mem_singleton.mp hb)) hkeep hb hx hp (fun i m news hj p hp => Nat.ne_of_lt (hJ i m news hj p hp)) hj (fun i v m₁ news₁ h g tk oI' hi hP hj hg F₁ N₁ => ?_) done
  obtain ⟨ti, rfl⟩ := hP
  refine turn i ti m₁ news₁ h g tk _ oI' hi hj hg F₁ N₁ fun p hp b hb => ?_
  rw [List.mem_singleton.mp hp]
  obtain ⟨q, hq, rfl⟩ := List.mem_map.mp hb
  rcases List.mem_append.mp hq with hq | hq
  · exact Ne.symm (hkeep q hq)
  · exact Ne.symm (Nat.ne_of_lt (hJ _ _ _ hj q hq))

theorem try_calm {prog : Program} {w : World} {A : Around} {env : Env} {E : Value → Shared → Prop} {s : Shared} {body : List Stmt} {h₀ : ExceptHandler} {hs : List ExceptHandler} {pos : Pos} {Q : Flow → Shared → Prop}
    (h : wpAny (model prog w) A (execs body env) Q (fun _ _ => False) s) : wpAny (model prog w) A (exec (.Try body (h₀ :: hs) [] [] pos) env) Q E s :=
  wpAny_Try_except (wpAny_mono h (fun f s₁ h₁ => by cases f <;> first | exact wpAny_execs_nil h₁ | exact h₁) fun _ _ x => x.elim)

theorem enterV {w : World} {A : Around} {s : Shared} {K : Frag} {R : Result → Shared → Prop} {name qual : Str} {params : Arguments} {body : List Stmt} {scope : Scope} {dV kV doc pm cdv ct oc : Value} {an od : Option Addr} {osl : Array (Option Value)} {f : Addr} {args : Args} {binds : List (Str × Value)} {n₂ : Str} {ps : List Value}
    (X : K.In s.heap) (hlim : s.heap.NoLimit)
    (ho : K.lookup f = some ⟨oc, od, .func (fnOf name qual params body scope dV kV doc pm an cdv ct), osl⟩) (hcd : codeIn K cdv qual = true) (hroom : A.depth < recursionLimit)
    (hbind : bindArgs (fnOf name qual params body scope dV kV doc pm an cdv ct) args = (newTuple ps >>= fun t => pure (binds ++ [(n₂, t)]))) (hps : ps.length ≤ 1000)
    (hloc : ∀ y ∈ binds ++ [(n₂, Value.ref s.heap.objs.size)], scope.names.lookup y.1 = some .local)
    (h : ∀ L h₁, Fr s.heap L h₁ (fun y => (binds ++ [(n₂, Value.ref s.heap.objs.size)]).reverse.lookup y) → News s.heap L h₁ [(s.heap.objs.size, { cls := .type "tuple", data := .seq ps.toArray })] →
      wpAny (model PySem.Challenge.rw_ik0197_01.row.prog w) (A.deeper (envOf qual scope L f cdv)) (execs body (envOf qual scope L f cdv))
        (fun fl s' => R (.ok (.ret (match fl with | .ret v => v | _ => .none))) s') (fun _ _ => False)
        { s with heap := h₁, toks := s.toks + (binds ++ [(n₂, Value.ref s.heap.objs.size)]).length })
    (hco : scope.isCoroutine = false := by rfl) (hgen : scope.isGenerator = false := by rfl) (hk : scope.kind = .function := by rfl)
    (hcell : ∀ x ∈ scope.names, x.2 ≠ .cell := by decide) : codeAny (model PySem.Challenge.rw_ik0197_01.row.prog w) A (.call (.ref f) args) R s := by
  have kp : Kp s.heap (s.heap.push { cls := .type "tuple", data := .seq ps.toArray }) := fun b o e => Heap.get?_push_of_some _ e
  refine codeAny_call_function hroom (X _ _ ho) rfl hco hgen rfl (codeRec_of X hcd) ?_
  rw [hbind]
  refine wpAny_bind (wpAny_newTuple (wpAny_pure ?_) (by rw [PySem.sizeLine_eq]; omega))
  refine wpAny_newFunctionEnv hcell hloc (fun h₁ hns hsb => ⟨(hlim.keeps kp).fresh _ hsb, codeAny_func ?_⟩) hk
  have up : ∀ b o, (s.heap.push { cls := .type "tuple", data := .seq ps.toArray }).get? b = some o → h₁.get? b = some o := fun b o e => hsb.extBut b o (Nat.ne_of_lt (Heap.lt_size e)) (Heap.get?_push_of_some _ e)
  have hsz : (s.heap.push { cls := .type "tuple", data := .seq ps.toArray }).objs.size = s.heap.objs.size + 1 := Heap.size_push ..
  refine wpAny_mono (h (s.heap.push { cls := .type "tuple", data := .seq ps.toArray }).objs.size h₁ ⟨hns, fun b o e => up b o (kp b o e), by show s.heap.objs.size ≤ (s.heap.push { cls := .type "tuple", data := .seq ps.toArray }).objs.size; omega⟩ (fun p hp => ?_)) (fun _ _ x => x) (fun _ _ x => x.elim)
  rw [List.mem_singleton.mp hp]
  refine ⟨up _ _ (Heap.get?_push_size _ rfl), ?_, Heap.get?_none_of_le (Nat.le_refl _)⟩
  show @Ne Nat s.heap.objs.size (s.heap.push { cls := .type "tuple", data := .seq ps.toArray }).objs.size
  omega
end
section /- JoinA -/
noncomputable def joinStep (path b : Str) : Str :=
  if Txt.startswith b (Str.ofString "/") = true ∨ path.length = 0 then b
  else if Txt.endswith path (Str.ofString "/") = true then path ++ b else path ++ (Str.ofString "/" ++ b)
theorem js1 (path b : Str) (h : Txt.startswith b (Str.ofString "/") = true) : joinStep path b = b := by unfold joinStep; rw [if_pos (.inl h)]
theorem js2 (path b : Str) (h : path.length = 0) : joinStep path b = b := by unfold joinStep; rw [if_pos (.inr h)]
theorem js3 (path b : Str) (h : Txt.startswith b (Str.ofString "/") = false) (h1 : path.length ≠ 0) (h2 : Txt.endswith path (Str.ofString "/") = true) : joinStep path b = path ++ b := by
  unfold joinStep; rw [if_neg (fun q => q.elim (fun q => by rw [h] at q; cases q) h1), if_pos h2]
theorem js4 (path b : Str) (h : Txt.startswith b (Str.ofString "/") = false) (h1 : path.length ≠ 0) (h2 : Txt.endswith path (Str.ofString "/") = false) : joinStep path b = path ++ (Str.ofString "/" ++ b) := by
  unfold joinStep; rw [if_neg (fun q => q.elim (fun q => by rw [h] at q; cases q) h1), if_neg (by rw [h2]; decide)]
noncomputable def JJ (ys : List Str) (x : Str) (i : Nat) (m : Str → Option Value) (news : List (Addr × Obj)) : Prop :=
  ∃ t1 t2, news = [] ∧ ((ys.take i).foldl joinStep x).length ≤ 1000 + i * 1001 ∧ m (Str.ofString "path") = some (.str ((ys.take i).foldl joinStep x) t1) ∧ m (Str.ofString "sep") = some (.str (Str.ofString "/") t2)

theorem join_spec {w : World} {mg mb : Str → Option Value} {mean : ExcName → Option Value} {s : Shared} {d u : Nat} {x : Str} {t : Tok} {ps : List Value} {ys : List Str} {R : Result → Shared → Prop}
    (X : (hd.heap_1 w.params).In s.heap) (T : Top view39 (looseW view39 []) mean mg mb s.heap) (hd : d < 430) (hx : x.length ≤ 1000) (hb : AllBare s.gens)
    (hps : StrsAre ps ys) (hn : ys.length ≤ 100) (hle : ∀ y ∈ ys, y.length ≤ 1000)
    (hR : ∀ h' g' tk t', Kp s.heap h' → AllBare g' → R (.ok (.ret (.str (ys.foldl joinStep x) t'))) ⟨h', g', s.drawn, tk, s.os⟩) :
    codeAny (model PySem.Challenge.rw_ik0197_01.row.prog w) (ar d u) (.call (.ref 136) ⟨.str x t :: ps, []⟩) R s := by
  have hpl : ps.length ≤ 100 := by have := StrsAre.length hps; omega
  refine enterV (binds := [(Str.ofString "a", .str x t)]) (n₂ := Str.ofString "p") (ps := ps) X T.nolimit (by k_is) (by k_is) (show d < 1000 by omega) (by cases ps <;> rfl) (by omega) (locs rfl) ?_
  intro L h₁ F N
  dsimp only [List.reverse_cons, List.reverse_nil, List.nil_append, List.length_cons, List.length_nil, List.cons_append] at F ⊢
  repeat' (walk_at "wG")
  refine wpAny_call (fspath_spec (X.keeps F.keep) (T.keeps F.keep) (show d + 1 < 450 by omega) fun h₂ tk₂ hk₂ => ?_)
  have F := Fr.kp F hk₂
  have N := News.kp N hk₂
  show wpAny _ _ _ _ _ _
  repeat' (walk_at "wG")
  (with_reducible rename Fr _ _ _ _ => F₁)
  (with_reducible rename News _ _ _ _ => N₁)
  refine wpAny_call (getSep_spec (X.keeps F₁.keep) (T.keeps F₁.keep) (show d + 1 < 450 by omega) fun h₃ tk₃ t₃ hk₃ => ?_)
  have F := Fr.kp F₁ hk₃
  have N := News.kp N₁ hk₃
  clear F₁ N₁
  show wpAny _ _ _ _ _ _
  dsimp only
  repeat' (walk_at "wG")
  refine try_calm ?_
  repeat' (walk_at "wG")
  refine wpAny_For ?_
  repeat' (walk_at "wG")
  (with_reducible rename Fr _ _ _ _ => F₁)
  (with_reducible rename News _ _ _ _ => N₁)
  rename_i h8
  refine for_tuple (keep := [(s.heap.objs.size, _)]) (news₀ := []) (vs := ps) (JJ ys x) rfl ⟨_, (N₁ _ (.head _)).1, rfl, _, rfl⟩ F₁ N₁ (.inr ⟨_, .head _⟩) hb rfl rfl (fun i m news hj p hp => ?_) ⟨_, _, rfl, by simpa using hx, rfl, rfl⟩ (fun i v m₁ news₁ h g tk I oI' hv hj hg F N hoff => ?_) (fun m₁ news₁ h g tk hj hg F N => ?_)
  · obtain ⟨t1, t2, rfl, _⟩ := hj
    cases hp
  · obtain ⟨t1, t2, rfl, hpl1, hm1, hm2⟩ := hj
    obtain ⟨c, tc, rfl, hc⟩ := hps.item i v hv
    change Fr s.heap L h _ at F
    change News s.heap L h _ at N
    have F' := (Fr.know (Fr.know F (a := Str.ofString "path") (by rw [if_neg (by decide)]; exact hm1)) (a := Str.ofString "sep") (by rw [if_neg (by decide), if_neg (by decide)]; exact hm2))
    clear F F₁ N₁
    simp only [List.cons_append, List.nil_append] at N
    have hcl : c.length ≤ 1000 := hle c (List.mem_of_getElem? hc)
    have hil : i < ys.length := (List.getElem?_eq_some_iff.mp hc).1
    have hst := foldl_next joinStep x ys i c hc
    generalize (ys.take i).foldl joinStep x = acc at hpl1 hm1 hst F'
    have e1 : (Str.ofString "/").length = 1 := by decide
    have hal : acc.length ≤ 102000 := by omega
    have fin : ∀ h6 tk6 m6 y6 t6, Fr s.heap L h6 m6 → News s.heap L h6 [(I, oI'), (s.heap.objs.size, { cls := .type "tuple", data := .seq ps.toArray })] → joinStep acc c = y6 → y6.length ≤ 1000 + (i + 1) * 1001 →
        m6 (Str.ofString "path") = some (.str y6 t6) → m6 (Str.ofString "sep") = some (.str (Str.ofString "/") t2) →
        GoOn s.heap L (I, oI') [(s.heap.objs.size, { cls := .type "tuple", data := .seq ps.toArray })] (JJ ys x (i + 1)) s ⟨h6, g, s.drawn, tk6, s.os⟩ :=
      fun h6 tk6 m6 y6 t6 F6 N6 hy hl h1 h2 => GoOn.mk hg F6 N6 (fun _ h => h) ⟨t6, t2, rfl, by rw [hst, hy]; exact hl, by rw [hst, hy]; exact h1, h2⟩
    repeat' (walk_at "wG")
    (with_reducible rename Fr _ _ _ _ => F₁)
    (with_reducible rename News _ _ _ _ => N₁)
    refine wpAny_call (fspath_spec (X.keeps F₁.keep) (T.keeps F₁.keep) (show d + 1 < 450 by omega) fun h₂ tk₂ hk₂ => ?_)
    have F := Fr.kp F₁ hk₂
    have N := News.kp N₁ hk₂
    clear F₁ N₁
    show wpAny _ _ _ _ _ _
    dsimp only
    repeat' (walk_at "wG")
    all_goals (with_reducible rename Fr _ _ _ _ => F₁)
    all_goals (with_reducible rename News _ _ _ _ => N₁)
    all_goals show GoOn _ _ _ _ _ _ _
    · refine fin _ _ _ _ _ F₁ N₁ (js1 _ _ (by assumption)) (by omega) (by walk_at "turnMap0") (by walk_at "turnMap0")
    · refine fin _ _ _ _ _ F₁ N₁ (js3 _ _ (by assumption) (by omega) (by assumption)) (by omega) (by walk_at "turnMap0") (by walk_at "turnMap0")
    · refine fin _ _ _ _ _ F₁ N₁ (js4 _ _ (by assumption) (by omega) (by assumption)) (by omega) (by walk_at "turnMap0") (by walk_at "turnMap0")
    · refine fin _ _ _ _ _ F₁ N₁ (js2 _ _ (by omega)) (by omega) (by walk_at "turnMap0") (by walk_at "turnMap0")
  · obtain ⟨t1, t2, rfl, hpl1, hm1, hm2⟩ := hj
    change Fr s.heap L h _ at F
    change News s.heap L h _ at N
    have F' := Fr.know F (a := Str.ofString "path") hm1
    clear F F₁ N₁
    show wpAny _ _ _ _ _ _
    rw [show ps.length = ys.length from StrsAre.length hps, List.take_length] at F'
    repeat' (walk_at "wG")
    exact hR _ _ _ _ F'.keep hg
end
section /- CompW -/
open PyProof.Rows.LCg (NsObj NsObj.ns ns_obj lst lst_snoc)

/-- the heap keeps all but the iterator's object -/
theorem Fr.but {h₀ h h' : Heap} {L I : Addr} {m : Str → Option Value} (F : Fr h₀ L h m) (hk : ∀ b o, b ∉ [I] → h.get? b = some o → h'.get? b = some o) (hL : I ≠ L) (hI : h₀.get? I = none) : Fr h₀ L h' m :=
  ⟨F.ns.at' fun o e => hk L o (by simpa using Ne.symm hL) e, fun b o e => hk b o (fun hm => by rw [List.mem_singleton.mp hm, hI] at e; cases e) (F.keep b o e), F.above⟩
theorem News.but {h₀ h h' : Heap} {L I : Addr} {news : List (Addr × Obj)} (N : News h₀ L h news) (hk : ∀ b o, b ∉ [I] → h.get? b = some o → h'.get? b = some o) (off : ∀ p ∈ news, p.1 ≠ I) : News h₀ L h' news :=
  fun p hp => ⟨hk _ _ (by simpa using off p hp) (N p hp).1, (N p hp).2⟩

/-- what a comprehension needs of its source -/
noncomputable def CompIn (prog : Program) (w : World) (A : Around) (E : Value → Shared → Prop) (env : Env) (e : PySem.Expr) (scope : Scope) (cl : List (Str × Addr)) (Q : Value → Shared → Prop) (xv : Value) (s₁ : Shared) : Prop :=
  wpAny (model prog w) A (pyIter xv) (fun it s₂ => wpAny (model prog w) A (newList []) (fun acc s₃ => wpAny (model prog w) A (newFunctionEnv scope env.globals cl [] env.qual none .none (some env)) (fun cenv s₄ =>
    codeAny (model prog w) A (.compStart e 0 it acc { cenv with scope := relabel scope env }) (compPost (model prog w) A E none Q acc cenv.locals) s₄) E s₃) E s₂) E s₁

section
variable {prog : Program} {w : World} {A : Around} {E : Value → Shared → Prop} {s : Shared} {env : Env} {h₀ : Heap} {L : Addr} {m : Str → Option Value}

theorem comp_eval {elt iter : PySem.Expr} {tg : PySem.Expr} {ifs : List PySem.Expr} {rest : List Comprehension} {scope : Scope} {cl : List (Str × Addr)} {pos : Pos} {Q : Value → Shared → Prop}
    (hclos : closureFor scope env = pure cl) (hkind : scope.kind = .function) (hnames : ∀ y ∈ scope.names, y.2 = .local → scope.names.lookup y.1 = some .local)
    (h : wpAny (model prog w) A (eval iter env) (CompIn prog w A E env (.ListComp elt (⟨tg, iter, ifs, 0⟩ :: rest) scope pos) scope cl Q) E s)
    (hs : ∀ x, foldedSetIterable iter env x = pure x := by intro _; rfl) :
    wpAny (model prog w) A (eval (.ListComp elt (⟨tg, iter, ifs, 0⟩ :: rest) scope pos) env) Q E s := by
  rw [eval_ListComp]
  exact wpAny_comprehension_free (use := none) rfl hs hclos hkind hnames h

/-- the accumulator and the variables are made; the loop begins -/
theorem comp_begin {elt iter : PySem.Expr} {tg : PySem.Expr} {ifs : List PySem.Expr} {rest : List Comprehension} {scope : Scope} {cl : List (Str × Addr)} {pos : Pos} {I : Addr} {oI : Obj} {all : List (Addr × Obj)} {RR : Value → Addr → Result → Shared → Prop}
    (hcell : ∀ y ∈ scope.names, y.2 ≠ .cell) (hkind : scope.kind = .function)
    (F : Fr h₀ L s.heap m) (N : News h₀ L s.heap ((I, oI) :: all))
    (hit : ∀ h₁ tk (Q' : Value → Shared → Prop) E', Kp s.heap h₁ → Q' (.ref I) { s with heap := h₁, toks := tk } → wpAny (model prog w) A (pyIter (.ref I)) Q' E' { s with heap := h₁, toks := tk })
    (h : ∀ h₁ oC tk, NsObj oC (fun _ => none) → Fr h₀ L h₁ m → News h₀ L h₁ ((I, oI) :: (s.heap.objs.size + 1, oC) :: (s.heap.objs.size, lst []) :: all) → Kp s.heap h₁ →
      codeAny (model prog w) A (.compLoop (.ListComp elt (⟨tg, iter, ifs, 0⟩ :: rest) scope pos) 0 (.ref I) (.ref s.heap.objs.size) (compEnvC scope cl (s.heap.objs.size + 1) env)) (RR (.ref s.heap.objs.size) (s.heap.objs.size + 1)) { s with heap := h₁, toks := tk }) :
    wpAny (model prog w) A (newList []) (fun acc s₃ => wpAny (model prog w) A (newFunctionEnv scope env.globals cl [] env.qual none .none (some env)) (fun cenv s₄ =>
      codeAny (model prog w) A (.compStart (.ListComp elt (⟨tg, iter, ifs, 0⟩ :: rest) scope pos) 0 (.ref I) acc { cenv with scope := relabel scope env }) (RR acc cenv.locals) s₄) E s₃) E s := by
  refine wpAny_newObj_type (wpAny_newFunctionEnv hcell (by intro y hy; simp at hy) (fun h₁ hns hsb => ?_) hkind)
  dsimp only at hns hsb ⊢
  have e1 : (s.heap.push { cls := .type "list", dict := none, data := .seq ([] : List Value).toArray }).objs.size = s.heap.objs.size + 1 := Heap.size_push ..
  rw [e1] at hns hsb ⊢
  have kp : Kp s.heap h₁ := fun b o e => hsb.extBut b o (Nat.ne_of_lt (Nat.lt_succ_of_lt (Heap.lt_size e))) (Heap.get?_push_of_some _ (Heap.get?_push_of_some _ e))
  obtain ⟨oC, hoC, hC⟩ := ns_obj hns
  have hL := ltN F.ns.lt
  have fresh : ∀ a : Nat, s.heap.objs.size ≤ a → h₀.get? a = none := fun a ha => by
    cases e : h₀.get? a with
    | none => rfl
    | some o' => exact absurd (Heap.lt_size (F.keep _ _ e)) (Nat.not_lt.mpr ha)
  have N' : News h₀ L h₁ ((I, oI) :: (s.heap.objs.size + 1, oC) :: (s.heap.objs.size, lst []) :: all) := fun p hp => by
    rcases List.mem_cons.mp hp with rfl | hp
    · exact News.kp N kp _ (.head _)
    · rcases List.mem_cons.mp hp with rfl | hp
      · exact ⟨hoC, (by show @Ne Nat (s.heap.objs.size + 1) L; omega), fresh _ (Nat.le_succ _)⟩
      · rcases List.mem_cons.mp hp with rfl | hp
        · refine ⟨hsb.extBut _ _ (by show @Ne Nat s.heap.objs.size (s.heap.objs.size + 1); omega) (Heap.get?_push_of_some _ (Heap.get?_push_size _ rfl)), (by show @Ne Nat s.heap.objs.size L; omega), fresh _ (Nat.le_refl _)⟩
        · exact News.kp N kp _ (.tail _ hp)
  have go := h h₁ oC (s.toks + ([] : List (Str × Value)).length) hC (Fr.kp F kp) N' kp
  exact codeAny_compStart_list go (hit _ _ _ _ kp go)

/-- a comprehension's turn ends -/
noncomputable def CompGo (h₀ : Heap) (L : Addr) (m : Str → Option Value) (s : Shared) (fix : List (Addr × Obj)) (I C D : Addr) (J : List (Addr × Obj) → Prop) (s₂ : Shared) : Prop :=
  ∃ h' g' tk news', s₂ = ⟨h', g', s.drawn, tk, s.os⟩ ∧ AllBare g' ∧ Fr h₀ L h' m ∧ News h₀ L h' (fix ++ news') ∧ (∀ p ∈ news', p.1 ≠ I ∧ p.1 ≠ C ∧ p.1 ≠ D) ∧ J news'

theorem CompGo.mk {h₀ h' : Heap} {L I C D : Addr} {m : Str → Option Value} {s : Shared} {fix all news' : List (Addr × Obj)} {J : List (Addr × Obj) → Prop} {g' : Array GenState} {tk : Nat}
    (hb : AllBare g') (F : Fr h₀ L h' m) (N : News h₀ L h' all) (hs : ∀ p ∈ fix ++ news', p ∈ all) (hoff : ∀ p ∈ news', p.1 ≠ I ∧ p.1 ≠ C ∧ p.1 ≠ D) (hj : J news') : CompGo h₀ L m s fix I C D J ⟨h', g', s.drawn, tk, s.os⟩ :=
  ⟨h', g', tk, news', rfl, hb, F, fun p hp => N p (hs p hp), hoff, hj⟩

noncomputable def CompGoG {γ : Type} (lo : γ → Obj) (h₀ : Heap) (L : Addr) (m : Str → Option Value) (s : Shared) (keep : List (Addr × Obj)) (I C D : Addr) (oI : Obj) (Mok : (Str → Option Value) → Prop) (J : γ → List (Addr × Obj) → Prop) (s₂ : Shared) : Prop :=
  ∃ h' g' tk ys' news' oC' m', s₂ = ⟨h', g', s.drawn, tk, s.os⟩ ∧ AllBare g' ∧ Fr h₀ L h' m ∧ News h₀ L h' ((I, oI) :: (C, oC') :: (D, lo ys') :: (keep ++ news')) ∧ NsObj oC' m' ∧ Mok m' ∧ (∀ p ∈ news', p.1 ≠ I ∧ p.1 ≠ C ∧ p.1 ≠ D) ∧ J ys' news'

theorem comp_walksG {x : Str} {px : Pos} {scope : Scope} {cl : List (Str × Addr)} {I C D : Addr} {oI oC : Obj} {fp : List Addr} {n : Nat} {P : Nat → Value → Prop} {St : Nat → Heap → Prop} {keep news₀ : List (Addr × Obj)} {γ : Type} (lo : γ → Obj) {ys₀ : γ} {R : Result → Shared → Prop} {code : Code}
    (T : (Shared → Prop) → Shared → Prop) (hT : ∀ P P' s, (∀ s, P s → P' s) → T P s → T P' s)
    (lr : ∀ (Inv : Nat → Shared → Prop), (∀ k s, Inv k s → wpAny (model prog w) A (pyNext (.ref I)) (fun r s₁ => match r with
      | none => R (.ok .next) s₁
      | some v => wpAny (model prog w) A (assign (.Name x px) (compEnvC scope cl C env) v) (fun _ s₂ => T (Again Inv k) s₂) (fun _ _ => False) s₁) (fun _ _ => False) s) → ∀ k s, Inv k s → codeAny (model prog w) A code R s)
    (Mok : (Str → Option Value) → Prop) (hMok : ∀ m v, Mok m → Mok (fun y => if y = x then some v else m y))
    (J : Nat → γ → List (Addr × Obj) → Prop) (W : Walks prog w A I fp [I] n P St) (hlive : ∀ i h, St i h → ∃ o, h.get? I = some o)
    (hkind : scope.kind = .function) (hx : scope.names.lookup x = some .local)
    (hst : St 0 s.heap) (F : Fr h₀ L s.heap m) (N : News h₀ L s.heap ((I, oI) :: (C, oC) :: (D, lo ys₀) :: (keep ++ news₀))) {m₀ : Str → Option Value} (hC : NsObj oC m₀) (hm₀ : Mok m₀)
    (hfp : ∀ b ∈ fp, b = I ∨ (∃ o, h₀.get? b = some o) ∨ ∃ o, (b, o) ∈ keep) (hkeep : ∀ p ∈ keep, p.1 ≠ I ∧ p.1 ≠ C ∧ p.1 ≠ D) (hnews : ∀ p ∈ news₀, p.1 ≠ I ∧ p.1 ≠ C ∧ p.1 ≠ D)
    (hIC : I ≠ C) (hID : I ≠ D) (hCD : C ≠ D) (hb : AllBare s.gens) (hj : J 0 ys₀ news₀)
    (turn : ∀ i v ys news oI oC m₂ h g tk, i < n → P i v → J i ys news → AllBare g → NsObj oC m₂ → m₂ x = some v → Mok m₂ → Fr h₀ L h m → News h₀ L h ((I, oI) :: (C, oC) :: (D, lo ys) :: (keep ++ news)) → (∀ p ∈ news, p.1 ≠ I ∧ p.1 ≠ C ∧ p.1 ≠ D) →
      T (CompGoG lo h₀ L m s keep I C D oI Mok (J (i + 1))) ⟨h, g, s.drawn, tk, s.os⟩)
    (done : ∀ ys news oC m₂ h g tk, J n ys news → AllBare g → NsObj oC m₂ → Mok m₂ → Fr h₀ L h m → News h₀ L h ((C, oC) :: (D, lo ys) :: (keep ++ news)) → (∀ p ∈ news, p.1 ≠ I ∧ p.1 ≠ C ∧ p.1 ≠ D) → R (.ok .next) ⟨h, g, s.drawn, tk, s.os⟩) :
    codeAny (model prog w) A code R s := by
  refine lr (fun k s' => ∃ i ys h g tk news oI oC m₂, i + k = n ∧ s' = ⟨h, g, s.drawn, tk, s.os⟩ ∧ AllBare g ∧ NsObj oC m₂ ∧ Mok m₂ ∧ Fr h₀ L h m ∧ News h₀ L h ((I, oI) :: (C, oC) :: (D, lo ys) :: (keep ++ news)) ∧ (∀ p ∈ news, p.1 ≠ I ∧ p.1 ≠ C ∧ p.1 ≠ D) ∧ J i ys news ∧ St i h) ?_ n s
    ⟨0, ys₀, s.heap, s.gens, s.toks, news₀, oI, oC, m₀, by omega, rfl, hb, hC, hm₀, F, N, hnews, hj, hst⟩
  rintro k s' ⟨i, ys, h, g, tk, news, oI, oC, m₂, hik, rfl, hg, hC, hmo, F₁, N₁, hoff, hj₁, hst₁⟩
  have hIL := (N₁ _ (.head _)).2
  have hCL := (N₁ _ (.tail _ (.head _))).2
  have hDL := (N₁ _ (.tail _ (.tail _ (.head _)))).2
  have offI : ∀ p ∈ (C, oC) :: (D, lo ys) :: (keep ++ news), p.1 ≠ I := fun p hp => by
    rcases List.mem_cons.mp hp with rfl | hp
    · exact Ne.symm hIC
    · rcases List.mem_cons.mp hp with rfl | hp
      · exact Ne.symm hID
      · rcases List.mem_append.mp hp with hp | hp
        · exact (hkeep p hp).1
        · exact (hoff p hp).1
  cases k with
  | zero =>
    have : i = n := by omega
    subst this
    refine W.done _ _ _ hst₁ fun h' tk' hk => ?_
    exact done ys news oC m₂ h' g tk' hj₁ hg hC hmo (Fr.but F₁ hk hIL.1 hIL.2) (News.but (fun p hp => N₁ p (.tail _ hp)) hk offI) hoff
  | succ k =>
    have hin : i < n := by omega
    refine W.item i _ _ _ hin hst₁ fun v h' tk' hP hst' hk => ?_
    have F' := Fr.but F₁ hk hIL.1 hIL.2
    have N' : News h₀ L h' ((C, oC) :: (D, lo ys) :: (keep ++ news)) := News.but (fun p hp => N₁ p (.tail _ hp)) hk offI
    obtain ⟨o', ho'⟩ := hlive _ _ hst'
    refine wpAny_assign_Name (wpAny_storeName_local (env := compEnvC scope cl C env) (lookup_relabel_local hx) (hC.ns (N' _ (.head _)).1) (fun h'' hn hs => ?_) (by simp [compEnvC, relabel, hkind]))
    obtain ⟨oC', hoC', hC'⟩ := ns_obj hn
    have F'' := F'.change hs hCL.1 hCL.2
    have N'' : News h₀ L h'' ((I, o') :: (C, oC') :: (D, lo ys) :: (keep ++ news)) := fun p hp => by
      rcases List.mem_cons.mp hp with rfl | hp
      · exact ⟨hs.extBut _ _ hIC ho', hIL⟩
      · rcases List.mem_cons.mp hp with rfl | hp
        · exact ⟨hoC', hCL⟩
        · have z := N' p (.tail _ hp)
          refine ⟨hs.extBut _ _ ?_ z.1, z.2⟩
          rcases List.mem_cons.mp hp with rfl | hp
          · exact Ne.symm hCD
          · rcases List.mem_append.mp hp with hp | hp
            · exact (hkeep p hp).2.1
            · exact (hoff p hp).2.1
    have hst'' : St (i + 1) h'' := W.frame _ _ _ hst' fun b hb' o e => by
      rcases hfp b hb' with rfl | ⟨o₀, e₀⟩ | ⟨o₀, e₀⟩
      · exact hs.extBut _ _ hIC e
      · exact hs.extBut _ _ (fun q => by have q' : b = C := q; have z : h₀.get? C = none := hCL.2; rw [q', z] at e₀; cases e₀) e
      · exact hs.extBut _ _ (hkeep _ e₀).2.1 e
    refine hT _ _ _ ?_ (turn i v ys news o' oC' _ h'' g _ hin hP hj₁ hg hC' (by simp) (hMok _ v hmo) F'' N'' hoff)
    rintro s₂ ⟨h₂, g₂, tk₂, ys₂, news₂, oC₂, m₃, rfl, hg₂, F₂, N₂, hC₂, hmo₂, off₂, hj₂⟩
    refine Again.mk (Nat.lt_succ_self k) ⟨i + 1, ys₂, h₂, g₂, tk₂, news₂, o', oC₂, m₃, by omega, rfl, hg₂, hC₂, hmo₂, F₂, N₂, off₂, hj₂, W.frame _ _ _ hst'' fun b hb' o e => ?_⟩
    rcases hfp b hb' with rfl | ⟨o₀, e₀⟩ | ⟨o₀, e₀⟩
    · rw [(N'' _ (.head _)).1] at e; cases e; exact (N₂ _ (.head _)).1
    · have q : o = o₀ := by
        have := F''.keep b o₀ e₀
        rw [e] at this; exact Option.some.inj this
      subst q
      exact F₂.keep b o e₀
    · have q : o = o₀ := by
        have := (N'' (b, o₀) (.tail _ (.tail _ (.tail _ (List.mem_append_left _ e₀))))).1
        rw [e] at this; exact Option.some.inj this
      subst q
      exact (N₂ (b, o) (.tail _ (.tail _ (.tail _ (List.mem_append_left _ e₀))))).1

/-- a loop of a comprehension with one clause -/
theorem comp_walks {elt iter : PySem.Expr} {x : Str} {px : Pos} {ifs : List PySem.Expr} {scope : Scope} {cl : List (Str × Addr)} {pos : Pos} {I C D : Addr} {oI oC : Obj} {fp : List Addr} {n : Nat} {P : Nat → Value → Prop} {St : Nat → Heap → Prop} {keep news₀ : List (Addr × Obj)} {R : Result → Shared → Prop}
    (J : Nat → List Value → List (Addr × Obj) → Prop) (W : Walks prog w A I fp [I] n P St) (hsz : n ≤ 1000000) (hlive : ∀ i h, St i h → ∃ o, h.get? I = some o)
    (hkind : scope.kind = .function) (hx : scope.names.lookup x = some .local)
    (hst : St 0 s.heap) (F : Fr h₀ L s.heap m) (N : News h₀ L s.heap ((I, oI) :: (C, oC) :: (D, lst []) :: (keep ++ news₀))) {m₀ : Str → Option Value} (hC : NsObj oC m₀)
    (hfp : ∀ b ∈ fp, b = I ∨ (∃ o, h₀.get? b = some o) ∨ ∃ o, (b, o) ∈ keep) (hkeep : ∀ p ∈ keep, p.1 ≠ I ∧ p.1 ≠ C ∧ p.1 ≠ D) (hnews : ∀ p ∈ news₀, p.1 ≠ I ∧ p.1 ≠ C ∧ p.1 ≠ D)
    (hIC : I ≠ C) (hID : I ≠ D) (hCD : C ≠ D) (hb : AllBare s.gens) (hj : J 0 [] news₀)
    (turn : ∀ i v ys news oI oC m₂ h g tk, i < n → P i v → J i ys news → ys.length ≤ i → AllBare g → NsObj oC m₂ → m₂ x = some v → Fr h₀ L h m → News h₀ L h ((I, oI) :: (C, oC) :: (D, lst ys) :: (keep ++ news)) → (∀ p ∈ news, p.1 ≠ I ∧ p.1 ≠ C ∧ p.1 ≠ D) →
      wpAny (model prog w) A (forIn ifs true fun c r => if r = true then do let ok ← isTrue c (compEnvC scope cl C env) (eval c (compEnvC scope cl C env)); pure (ForInStep.yield ok) else pure (ForInStep.yield r)) (fun ok s₃ =>
        if ok = true then wpAny (model prog w) A (eval elt (compEnvC scope cl C env)) (fun y s₄ => CompGo h₀ L m s ((I, oI) :: (C, oC) :: (D, lst ys) :: keep) I C D (J (i + 1) (ys ++ [y])) s₄) (fun _ _ => False) s₃
        else CompGo h₀ L m s ((I, oI) :: (C, oC) :: (D, lst ys) :: keep) I C D (J (i + 1) ys) s₃) (fun _ _ => False) ⟨h, g, s.drawn, tk, s.os⟩)
    (done : ∀ ys news oC m₂ h g tk, J n ys news → AllBare g → NsObj oC m₂ → Fr h₀ L h m → News h₀ L h ((C, oC) :: (D, lst ys) :: (keep ++ news)) → (∀ p ∈ news, p.1 ≠ I ∧ p.1 ≠ C ∧ p.1 ≠ D) → R (.ok .next) ⟨h, g, s.drawn, tk, s.os⟩) :
    codeAny (model prog w) A (.compLoop (.ListComp elt [⟨.Name x px, iter, ifs, 0⟩] scope pos) 0 (.ref I) (.ref D) (compEnvC scope cl C env)) R s := by
  have calm : ∀ {α : Type} {t : Sem α} {Q Q' : α → Shared → Prop} {E' : Value → Shared → Prop} {s' : Shared}, wpAny (model prog w) A t Q (fun _ _ => False) s' → (∀ v s, Q v s → Q' v s) → wpAny (model prog w) A t Q' E' s' := fun h hq => wpAny_mono h hq fun _ _ x => x.elim
  refine comp_walksG (prog := prog) (w := w) (A := A) (x := x) (px := px) (scope := scope) (cl := cl) (env := env) (R := R) (code := .compLoop (.ListComp elt [⟨.Name x px, iter, ifs, 0⟩] scope pos) 0 (.ref I) (.ref D) (compEnvC scope cl C env)) lst (ys₀ := []) (fun P s => wpAny (model prog w) A (forIn ifs true fun c r => if r = true then do let ok ← isTrue c (compEnvC scope cl C env) (eval c (compEnvC scope cl C env)); pure (ForInStep.yield ok) else pure (ForInStep.yield r)) (fun ok s₃ =>
      if ok = true then wpAny (model prog w) A (eval elt (compEnvC scope cl C env)) (fun y s₄ => wpAny (model prog w) A (call (.builtin "list.append") [.ref D, y]) (fun _ s₅ => P s₅) (fun _ _ => False) s₄) (fun _ _ => False) s₃ else P s₃) (fun _ _ => False) s)
    ?_ ?_ (fun _ => True) (fun _ _ _ => trivial) (fun i ys news => ys.length ≤ i ∧ J i ys news) W hlive hkind hx hst F N hC trivial hfp hkeep hnews hIC hID hCD hb ⟨Nat.le_refl _, hj⟩ ?_ (fun ys news oC m₂ h g tk hj hg hC _ F N hoff => done ys news oC m₂ h g tk hj.2 hg hC F N hoff)
  · intro P P' s h t
    refine calm t fun ok s₃ h₃ => ?_
    cases ok with
    | false => exact h _ h₃
    | true => exact calm (α := Value) h₃ fun y s₄ h₄ => calm h₄ fun _ s₅ h₅ => h _ h₅
  · intro Inv ht k s hI
    refine codeAny_compLoop_tests Inv (fun n s hI => calm (ht n s hI) fun r s₁ h₁ => ?_) k hI
    cases r with
    | none => exact h₁
    | some v =>
      refine calm h₁ fun _ s₂ h₂ => calm h₂ fun ok s₃ h₃ => ?_
      cases ok with
      | false => exact h₃
      | true => exact calm (α := Value) h₃ fun y s₄ h₄ => calm h₄ fun _ s₅ h₅ => h₅
  · intro i v ys news oI oC m₂ h g tk hin hP hj hg hC hm _ F N hoff
    refine calm (turn i v ys news oI oC m₂ h g tk hin hP hj.2 hj.1 hg hC hm F N hoff) fun ok s₃ h₃ => ?_
    have hIL := (N _ (.head _)).2
    have hCL := (N _ (.tail _ (.head _))).2
    have hDL := (N _ (.tail _ (.tail _ (.head _)))).2
    cases ok with
    | false =>
      obtain ⟨h₂, g₂, tk₂, news₂, rfl, hg₂, F₂, N₂, off₂, hj₂⟩ : CompGo _ _ _ _ _ _ _ _ _ _ := h₃
      exact ⟨h₂, g₂, tk₂, ys, news₂, oC, m₂, rfl, hg₂, F₂, N₂, hC, trivial, off₂, Nat.le_succ_of_le hj.1, hj₂⟩
    | true =>
      refine calm (α := Value) h₃ fun y s₄ h₄ => ?_
      obtain ⟨h₂, g₂, tk₂, news₂, rfl, hg₂, F₂, N₂, off₂, hj₂⟩ := h₄
      have hyl := hj.1
      refine append_at (hsz := by show ys.toArray.size ≤ sizeLine; rw [List.size_toArray, PySem.sizeLine_eq]; omega) (N₂ _ (.tail _ (.tail _ (.head _)))).1 fun h₅ hs₅ hD₅ => ?_
      refine ⟨h₅, g₂, tk₂, ys ++ [y], news₂, oC, m₂, rfl, hg₂, F₂.change hs₅ hDL.1 hDL.2, fun p hp => ?_, hC, trivial, off₂, by rw [List.length_append]; exact Nat.succ_le_succ hyl, hj₂⟩
      rcases List.mem_cons.mp hp with rfl | hp
      · exact ⟨hs₅.extBut _ _ hID (N₂ _ (.head _)).1, hIL⟩
      rcases List.mem_cons.mp hp with rfl | hp
      · exact ⟨hs₅.extBut _ _ hCD (N₂ _ (.tail _ (.head _))).1, hCL⟩
      rcases List.mem_cons.mp hp with rfl | hp
      · exact ⟨hD₅.trans (congrArg some (lst_snoc ys y)), hDL⟩
      have z := N₂ p (.tail _ (.tail _ (.tail _ hp)))
      refine ⟨hs₅.extBut _ _ ?_ z.1, z.2⟩
      rcases List.mem_append.mp hp with hp | hp
      · exact (hkeep p hp).2.2
      · exact (off₂ p hp).2.2

theorem comp_srcR {elt iter : PySem.Expr} {x : Str} {px : Pos} {ifs : List PySem.Expr} {scope : Scope} {cl : List (Str × Addr)} {pos : Pos} {I : Addr} {oI : Obj} {fp : List Addr} {n : Nat} {P : Nat → Value → Prop} {St : Nat → Heap → Prop} {keep news₀ : List (Addr × Obj)} {RR : Value → Addr → Result → Shared → Prop}
    (J : Nat → List Value → List (Addr × Obj) → Prop) (W : Walks prog w A I fp [I] n P St) (hsz : n ≤ 1000000) (hlive : ∀ i h, St i h → ∃ o, h.get? I = some o)
    (hcell : ∀ y ∈ scope.names, y.2 ≠ .cell) (hkind : scope.kind = .function) (hx : scope.names.lookup x = some .local)
    (hst : St 0 s.heap) (F : Fr h₀ L s.heap m) (N : News h₀ L s.heap ((I, oI) :: (keep ++ news₀)))
    (hfp : ∀ b ∈ fp, b = I ∨ (∃ o, h₀.get? b = some o) ∨ ∃ o, (b, o) ∈ keep) (hkeep : ∀ p ∈ keep ++ news₀, p.1 ≠ I) (hb : AllBare s.gens) (hj : J 0 [] news₀)
    (turn : ∀ i v ys news I C D oI oC m₂ h g tk, i < n → P i v → J i ys news → ys.length ≤ i → AllBare g → NsObj oC m₂ → m₂ x = some v → Fr h₀ L h m → News h₀ L h ((I, oI) :: (C, oC) :: (D, lst ys) :: (keep ++ news)) → (∀ p ∈ keep ++ news, p.1 ≠ I ∧ p.1 ≠ C ∧ p.1 ≠ D) → ((@Ne Nat I C) ∧ (@Ne Nat I D) ∧ (@Ne Nat C D)) →
      wpAny (model prog w) A (forIn ifs true fun c r => if r = true then do let ok ← isTrue c (compEnvC scope cl C env) (eval c (compEnvC scope cl C env)); pure (ForInStep.yield ok) else pure (ForInStep.yield r)) (fun ok s₃ =>
        if ok = true then wpAny (model prog w) A (eval elt (compEnvC scope cl C env)) (fun y s₄ => CompGo h₀ L m s ((I, oI) :: (C, oC) :: (D, lst ys) :: keep) I C D (J (i + 1) (ys ++ [y])) s₄) (fun _ _ => False) s₃
        else CompGo h₀ L m s ((I, oI) :: (C, oC) :: (D, lst ys) :: keep) I C D (J (i + 1) ys) s₃) (fun _ _ => False) ⟨h, g, s.drawn, tk, s.os⟩)
    (done : ∀ C D oC m₂ ys news h g tk, J n ys news → AllBare g → NsObj oC m₂ → Fr h₀ L h m → News h₀ L h ((C, oC) :: (D, lst ys) :: (keep ++ news)) → (∀ p ∈ keep ++ news, p.1 ≠ D ∧ p.1 ≠ C) → @Ne Nat D C → RR (.ref D) C (.ok .next) ⟨h, g, s.drawn, tk, s.os⟩) :
    wpAny (model prog w) A (newList []) (fun acc s₃ => wpAny (model prog w) A (newFunctionEnv scope env.globals cl [] env.qual none .none (some env)) (fun cenv s₄ =>
      codeAny (model prog w) A (.compStart (.ListComp elt [⟨.Name x px, iter, ifs, 0⟩] scope pos) 0 (.ref I) acc { cenv with scope := relabel scope env }) (RR acc cenv.locals) s₄) E s₃) E s := by
  have lt : ∀ p ∈ keep ++ news₀, @LT.lt Nat _ p.1 s.heap.objs.size := fun p hp => Heap.lt_size (N p (.tail _ hp)).1
  have hI : @LT.lt Nat _ I s.heap.objs.size := Heap.lt_size (N _ (.head _)).1
  have hkd : ∀ p ∈ keep ++ news₀, p.1 ≠ I ∧ p.1 ≠ s.heap.objs.size + 1 ∧ p.1 ≠ s.heap.objs.size := fun p hp => by
    have z := lt p hp
    exact ⟨hkeep p hp, (by show @Ne Nat p.1 (s.heap.objs.size + 1); omega), (by show @Ne Nat p.1 s.heap.objs.size; omega)⟩
  refine comp_begin (RR := RR) hcell hkind F N (fun h₁ tk Q' E' kp hq => W.self 0 _ _ _ (W.frame _ _ _ hst fun b _ o e => kp b o e) hq) fun h₁ oC tk hC F₁ N₁ kp => ?_
  refine comp_walks (s := { s with heap := h₁, toks := tk }) J W hsz hlive hkind hx (W.frame _ _ _ hst fun b _ o e => kp b o e) F₁ N₁ hC hfp (fun p hp => hkd p (List.mem_append_left _ hp)) (fun p hp => hkd p (List.mem_append_right _ hp))
    (by show @Ne Nat I (s.heap.objs.size + 1); omega) (by show @Ne Nat I s.heap.objs.size; omega) (by show @Ne Nat (s.heap.objs.size + 1) s.heap.objs.size; omega) hb hj
    (fun i v ys news oI oC m₂ h g tk hi hP hj hyl hg hC hm F N hoff => turn i v ys news I _ _ oI oC m₂ h g tk hi hP hj hyl hg hC hm F N (fun p hp => ?_) ⟨(by omega), (by omega), (by omega)⟩)
    (fun ys news oC m₂ h g tk hj hg hC F N hoff => ?_)
  · rcases List.mem_append.mp hp with hp | hp
    · exact hkd p (List.mem_append_left _ hp)
    · exact hoff p hp
  · have offD : ∀ p ∈ keep ++ news, p.1 ≠ s.heap.objs.size ∧ p.1 ≠ s.heap.objs.size + 1 := fun p hp => by
      rcases List.mem_append.mp hp with hp | hp
      · have := hkd p (List.mem_append_left _ hp); exact ⟨this.2.2, this.2.1⟩
      · exact ⟨(hoff p hp).2.2, (hoff p hp).2.1⟩
    exact done _ _ oC m₂ ys news h g tk hj hg hC F N offD (by omega)

theorem comp_src {elt iter : PySem.Expr} {x : Str} {px : Pos} {ifs : List PySem.Expr} {scope : Scope} {cl : List (Str × Addr)} {pos : Pos} {I : Addr} {oI : Obj} {fp : List Addr} {n : Nat} {P : Nat → Value → Prop} {St : Nat → Heap → Prop} {keep news₀ : List (Addr × Obj)} {Q : Value → Shared → Prop}
    (J : Nat → List Value → List (Addr × Obj) → Prop) (W : Walks prog w A I fp [I] n P St) (hsz : n ≤ 1000000) (hlive : ∀ i h, St i h → ∃ o, h.get? I = some o)
    (hcell : ∀ y ∈ scope.names, y.2 ≠ .cell) (hkind : scope.kind = .function) (hx : scope.names.lookup x = some .local)
    (hst : St 0 s.heap) (F : Fr h₀ L s.heap m) (N : News h₀ L s.heap ((I, oI) :: (keep ++ news₀)))
    (hfp : ∀ b ∈ fp, b = I ∨ (∃ o, h₀.get? b = some o) ∨ ∃ o, (b, o) ∈ keep) (hkeep : ∀ p ∈ keep ++ news₀, p.1 ≠ I) (hb : AllBare s.gens) (hj : J 0 [] news₀)
    (turn : ∀ i v ys news I C D oI oC m₂ h g tk, i < n → P i v → J i ys news → ys.length ≤ i → AllBare g → NsObj oC m₂ → m₂ x = some v → Fr h₀ L h m → News h₀ L h ((I, oI) :: (C, oC) :: (D, lst ys) :: (keep ++ news)) → (∀ p ∈ keep ++ news, p.1 ≠ I ∧ p.1 ≠ C ∧ p.1 ≠ D) → ((@Ne Nat I C) ∧ (@Ne Nat I D) ∧ (@Ne Nat C D)) →
      wpAny (model prog w) A (forIn ifs true fun c r => if r = true then do let ok ← isTrue c (compEnvC scope cl C env) (eval c (compEnvC scope cl C env)); pure (ForInStep.yield ok) else pure (ForInStep.yield r)) (fun ok s₃ =>
        if ok = true then wpAny (model prog w) A (eval elt (compEnvC scope cl C env)) (fun y s₄ => CompGo h₀ L m s ((I, oI) :: (C, oC) :: (D, lst ys) :: keep) I C D (J (i + 1) (ys ++ [y])) s₄) (fun _ _ => False) s₃
        else CompGo h₀ L m s ((I, oI) :: (C, oC) :: (D, lst ys) :: keep) I C D (J (i + 1) ys) s₃) (fun _ _ => False) ⟨h, g, s.drawn, tk, s.os⟩)
    (done : ∀ D ys news h g tk, J n ys news → AllBare g → Fr h₀ L h m → News h₀ L h ((D, lst ys) :: (keep ++ news)) → (∀ p ∈ keep ++ news, p.1 ≠ D) → Q (.ref D) ⟨h, g, s.drawn, tk, s.os⟩) :
    wpAny (model prog w) A (newList []) (fun acc s₃ => wpAny (model prog w) A (newFunctionEnv scope env.globals cl [] env.qual none .none (some env)) (fun cenv s₄ =>
      codeAny (model prog w) A (.compStart (.ListComp elt [⟨.Name x px, iter, ifs, 0⟩] scope pos) 0 (.ref I) acc { cenv with scope := relabel scope env }) (compPost (model prog w) A E none Q acc cenv.locals) s₄) E s₃) E s := by
  refine comp_srcR (RR := fun acc C => compPost (model prog w) A E none Q acc C) J W hsz hlive hcell hkind hx hst F N hfp hkeep hb hj turn fun C D oC m₂ ys news h g tk hj hg hC F N off hDC => ?_
  have hCL := (N _ (.head _)).2
  refine ⟨m₂, hC.ns (N _ (.head _)).1, fun h' hs => done _ ys news h' g tk hj hg (F.change hs hCL.1 hCL.2) (fun p hp => ?_) (fun p hp => (off p hp).1)⟩
  have z := N p (.tail _ hp)
  refine ⟨hs.extBut _ _ ?_ z.1, z.2⟩
  rcases List.mem_cons.mp hp with rfl | hp
  · exact hDC
  · exact (off p hp).2

theorem comp_list {elt iter : PySem.Expr} {x : Str} {px : Pos} {ifs : List PySem.Expr} {scope : Scope} {cl : List (Str × Addr)} {pos : Pos} {l : Addr} {vs : List Value} {keep news₀ : List (Addr × Obj)} {Q : Value → Shared → Prop}
    (J : Nat → List Value → List (Addr × Obj) → Prop) (hh : A.handled = none) (hl : s.heap.IsList l vs.toArray) (hsz : vs.length ≤ 1000000)
    (hcell : ∀ y ∈ scope.names, y.2 ≠ .cell) (hkind : scope.kind = .function) (hx : scope.names.lookup x = some .local)
    (F : Fr h₀ L s.heap m) (N : News h₀ L s.heap (keep ++ news₀)) (hin : (∃ o, h₀.get? l = some o) ∨ ∃ o, (l, o) ∈ keep) (hb : AllBare s.gens) (hj : J 0 [] news₀)
    (turn : ∀ i v ys news I C D oI oC m₂ h g tk, vs[i]? = some v → J i ys news → ys.length ≤ i → AllBare g → NsObj oC m₂ → m₂ x = some v → Fr h₀ L h m → News h₀ L h ((I, oI) :: (C, oC) :: (D, lst ys) :: (keep ++ news)) → (∀ p ∈ keep ++ news, p.1 ≠ I ∧ p.1 ≠ C ∧ p.1 ≠ D) → ((@Ne Nat I C) ∧ (@Ne Nat I D) ∧ (@Ne Nat C D)) →
      wpAny (model prog w) A (forIn ifs true fun c r => if r = true then do let ok ← isTrue c (compEnvC scope cl C env) (eval c (compEnvC scope cl C env)); pure (ForInStep.yield ok) else pure (ForInStep.yield r)) (fun ok s₃ =>
        if ok = true then wpAny (model prog w) A (eval elt (compEnvC scope cl C env)) (fun y s₄ => CompGo h₀ L m s ((I, oI) :: (C, oC) :: (D, lst ys) :: keep) I C D (J (i + 1) (ys ++ [y])) s₄) (fun _ _ => False) s₃
        else CompGo h₀ L m s ((I, oI) :: (C, oC) :: (D, lst ys) :: keep) I C D (J (i + 1) ys) s₃) (fun _ _ => False) ⟨h, g, s.drawn, tk, s.os⟩)
    (done : ∀ D ys news h g tk, J vs.length ys news → AllBare g → Fr h₀ L h m → News h₀ L h ((D, lst ys) :: (keep ++ news)) → (∀ p ∈ keep ++ news, p.1 ≠ D) → Q (.ref D) ⟨h, g, s.drawn, tk, s.os⟩) :
    CompIn prog w A E env (.ListComp elt [⟨.Name x px, iter, ifs, 0⟩] scope pos) scope cl Q (.ref l) s := by
  refine wpAny_pyIter_list hl ?_
  have hlt : l < s.heap.objs.size := let ⟨o, ho, _⟩ := hl; Heap.lt_size ho
  have W := Walks.list (prog := prog) (w := w) hh s.heap.objs.size l (Nat.ne_of_lt hlt) vs.toArray
  rw [List.size_toArray] at W
  have hkp : Kp s.heap (s.heap.push { cls := .type "list_iterator", data := .fields #[.ref l, .int 0 0] }) := fun b o e => Heap.get?_push_of_some _ e
  have hL := ltN F.ns.lt
  have N2 : News h₀ L (s.heap.push { cls := .type "list_iterator", data := .fields #[.ref l, .int 0 0] }) ((s.heap.objs.size, { cls := .type "list_iterator", data := .fields #[.ref l, .int 0 0] }) :: (keep ++ news₀)) := fun p hp => by
    rcases List.mem_cons.mp hp with rfl | hp
    · refine ⟨Heap.get?_push_size _ rfl, Nat.ne_of_gt hL, ?_⟩
      cases hq : h₀.get? s.heap.objs.size with
      | none => rfl
      | some o' => exact absurd (Heap.lt_size (F.keep _ _ hq)) (Nat.lt_irrefl _)
    · exact News.kp N hkp p hp
  refine comp_src J W hsz (fun i h st => let ⟨o, ho, _⟩ := st.1; ⟨o, ho⟩) hcell hkind hx ⟨⟨_, Heap.get?_push_size _ rfl, rfl, rfl⟩, hl.push _⟩ (Fr.kp F hkp) N2 (fun b hb => ?_) (fun p hp => Nat.ne_of_lt (Heap.lt_size (N p hp).1)) hb hj
    (fun i v ys news I C D oI oC m₂ h g tk hi hP => turn i v ys news I C D oI oC m₂ h g tk (by simpa using hP)) done
  rcases List.mem_cons.mp hb with rfl | hb
  · exact .inl rfl
  · rw [List.mem_singleton.mp hb]; exact .inr hin

theorem comp_tuple {elt iter : PySem.Expr} {x : Str} {px : Pos} {ifs : List PySem.Expr} {scope : Scope} {cl : List (Str × Addr)} {pos : Pos} {l : Addr} {vs : List Value} {keep news₀ : List (Addr × Obj)} {Q : Value → Shared → Prop}
    (J : Nat → List Value → List (Addr × Obj) → Prop) (hh : A.handled = none) (hl : s.heap.IsTuple l vs.toArray) (hsz : vs.length ≤ 1000000)
    (hcell : ∀ y ∈ scope.names, y.2 ≠ .cell) (hkind : scope.kind = .function) (hx : scope.names.lookup x = some .local)
    (F : Fr h₀ L s.heap m) (N : News h₀ L s.heap (keep ++ news₀)) (hin : (∃ o, h₀.get? l = some o) ∨ ∃ o, (l, o) ∈ keep) (hb : AllBare s.gens) (hj : J 0 [] news₀)
    (turn : ∀ i v ys news I C D oI oC m₂ h g tk, vs[i]? = some v → J i ys news → ys.length ≤ i → AllBare g → NsObj oC m₂ → m₂ x = some v → Fr h₀ L h m → News h₀ L h ((I, oI) :: (C, oC) :: (D, lst ys) :: (keep ++ news)) → (∀ p ∈ keep ++ news, p.1 ≠ I ∧ p.1 ≠ C ∧ p.1 ≠ D) → ((@Ne Nat I C) ∧ (@Ne Nat I D) ∧ (@Ne Nat C D)) →
      wpAny (model prog w) A (forIn ifs true fun c r => if r = true then do let ok ← isTrue c (compEnvC scope cl C env) (eval c (compEnvC scope cl C env)); pure (ForInStep.yield ok) else pure (ForInStep.yield r)) (fun ok s₃ =>
        if ok = true then wpAny (model prog w) A (eval elt (compEnvC scope cl C env)) (fun y s₄ => CompGo h₀ L m s ((I, oI) :: (C, oC) :: (D, lst ys) :: keep) I C D (J (i + 1) (ys ++ [y])) s₄) (fun _ _ => False) s₃
        else CompGo h₀ L m s ((I, oI) :: (C, oC) :: (D, lst ys) :: keep) I C D (J (i + 1) ys) s₃) (fun _ _ => False) ⟨h, g, s.drawn, tk, s.os⟩)
    (done : ∀ D ys news h g tk, J vs.length ys news → AllBare g → Fr h₀ L h m → News h₀ L h ((D, lst ys) :: (keep ++ news)) → (∀ p ∈ keep ++ news, p.1 ≠ D) → Q (.ref D) ⟨h, g, s.drawn, tk, s.os⟩) :
    CompIn prog w A E env (.ListComp elt [⟨.Name x px, iter, ifs, 0⟩] scope pos) scope cl Q (.ref l) s := by
  refine wpAny_pyIter_tuple hl ?_
  have hlt : l < s.heap.objs.size := let ⟨o, ho, _⟩ := hl; Heap.lt_size ho
  have W := Walks.tuple (prog := prog) (w := w) hh s.heap.objs.size l (Nat.ne_of_lt hlt) vs.toArray
  rw [List.size_toArray] at W
  have hkp : Kp s.heap (s.heap.push { cls := .type "tuple_iterator", data := .fields #[.ref l, .int 0 0] }) := fun b o e => Heap.get?_push_of_some _ e
  have hL := ltN F.ns.lt
  have N2 : News h₀ L (s.heap.push { cls := .type "tuple_iterator", data := .fields #[.ref l, .int 0 0] }) ((s.heap.objs.size, { cls := .type "tuple_iterator", data := .fields #[.ref l, .int 0 0] }) :: (keep ++ news₀)) := fun p hp => by
    rcases List.mem_cons.mp hp with rfl | hp
    · refine ⟨Heap.get?_push_size _ rfl, Nat.ne_of_gt hL, ?_⟩
      cases hq : h₀.get? s.heap.objs.size with
      | none => rfl
      | some o' => exact absurd (Heap.lt_size (F.keep _ _ hq)) (Nat.lt_irrefl _)
    · exact News.kp N hkp p hp
  refine comp_src J W hsz (fun i h st => let ⟨o, ho, _⟩ := st.1; ⟨o, ho⟩) hcell hkind hx ⟨⟨_, Heap.get?_push_size _ rfl, rfl, rfl⟩, hl.at (hkp _)⟩ (Fr.kp F hkp) N2 (fun b hb => ?_) (fun p hp => Nat.ne_of_lt (Heap.lt_size (N p hp).1)) hb hj
    (fun i v ys news I C D oI oC m₂ h g tk hi hP => turn i v ys news I C D oI oC m₂ h g tk (by simpa using hP)) done
  rcases List.mem_cons.mp hb with rfl | hb
  · exact .inl rfl
  · rw [List.mem_singleton.mp hb]; exact .inr hin

theorem comp_range {elt iter : PySem.Expr} {x : Str} {px : Pos} {ifs : List PySem.Expr} {scope : Scope} {cl : List (Str × Addr)} {pos : Pos} {r : Addr} {a b c : Int} {t u v : Tok} {n : Nat} {keep news₀ : List (Addr × Obj)} {Q : Value → Shared → Prop}
    (J : Nat → List Value → List (Addr × Obj) → Prop) (hh : A.handled = none) (hr : IsRange s.heap r a b c t u v) (hsmall : Builtin.Range.small a b c = true) (hn : Builtin.Range.rangeSize a b c = (n : Int)) (hsz : n ≤ 1000000)
    (hcell : ∀ y ∈ scope.names, y.2 ≠ .cell) (hkind : scope.kind = .function) (hx : scope.names.lookup x = some .local)
    (F : Fr h₀ L s.heap m) (N : News h₀ L s.heap (keep ++ news₀)) (hb : AllBare s.gens) (hj : J 0 [] news₀)
    (turn : ∀ i ti ys news I C D oI oC m₂ h g tk, i < n → J i ys news → ys.length ≤ i → AllBare g → NsObj oC m₂ → m₂ x = some (.int (a + i * c) ti) → Fr h₀ L h m → News h₀ L h ((I, oI) :: (C, oC) :: (D, lst ys) :: (keep ++ news)) → (∀ p ∈ keep ++ news, p.1 ≠ I ∧ p.1 ≠ C ∧ p.1 ≠ D) → ((@Ne Nat I C) ∧ (@Ne Nat I D) ∧ (@Ne Nat C D)) →
      wpAny (model prog w) A (forIn ifs true fun c r => if r = true then do let ok ← isTrue c (compEnvC scope cl C env) (eval c (compEnvC scope cl C env)); pure (ForInStep.yield ok) else pure (ForInStep.yield r)) (fun ok s₃ =>
        if ok = true then wpAny (model prog w) A (eval elt (compEnvC scope cl C env)) (fun y s₄ => CompGo h₀ L m s ((I, oI) :: (C, oC) :: (D, lst ys) :: keep) I C D (J (i + 1) (ys ++ [y])) s₄) (fun _ _ => False) s₃
        else CompGo h₀ L m s ((I, oI) :: (C, oC) :: (D, lst ys) :: keep) I C D (J (i + 1) ys) s₃) (fun _ _ => False) ⟨h, g, s.drawn, tk, s.os⟩)
    (done : ∀ D ys news h g tk, J n ys news → AllBare g → Fr h₀ L h m → News h₀ L h ((D, lst ys) :: (keep ++ news)) → (∀ p ∈ keep ++ news, p.1 ≠ D) → Q (.ref D) ⟨h, g, s.drawn, tk, s.os⟩) :
    CompIn prog w A E env (.ListComp elt [⟨.Name x px, iter, ifs, 0⟩] scope pos) scope cl Q (.ref r) s := by
  refine wpAny_pyIter_range hr hsmall ?_
  rw [hn]
  have W := Walks.range (prog := prog) (w := w) hh s.heap.objs.size a c n
  have hkp : Kp s.heap (s.heap.push { cls := .type "range_iterator", data := .fields #[rawInt a, rawInt (n : Int), rawInt c] }) := fun b o e => Heap.get?_push_of_some _ e
  have hL := ltN F.ns.lt
  have N2 : News h₀ L (s.heap.push { cls := .type "range_iterator", data := .fields #[rawInt a, rawInt (n : Int), rawInt c] }) ((s.heap.objs.size, { cls := .type "range_iterator", data := .fields #[rawInt a, rawInt (n : Int), rawInt c] }) :: (keep ++ news₀)) := fun p hp => by
    rcases List.mem_cons.mp hp with rfl | hp
    · refine ⟨Heap.get?_push_size _ rfl, Nat.ne_of_gt hL, ?_⟩
      cases hq : h₀.get? s.heap.objs.size with
      | none => rfl
      | some o' => exact absurd (Heap.lt_size (F.keep _ _ hq)) (Nat.lt_irrefl _)
    · exact News.kp N hkp p hp
  refine comp_src J W hsz (fun i h st => ⟨_, st⟩) hcell hkind hx (by
    show IsRangeIter _ _ (a + ((0 : Nat) : Int) * c) ((n : Int) - ((0 : Nat) : Int)) c
    have e1 : a + ((0 : Nat) : Int) * c = a := by simp
    have e2 : (n : Int) - ((0 : Nat) : Int) = n := by simp
    rw [e1, e2]; exact Heap.get?_push_size _ rfl) (Fr.kp F hkp) N2 (fun b hb => .inl (List.mem_singleton.mp hb)) (fun p hp => Nat.ne_of_lt (Heap.lt_size (N p hp).1)) hb hj
    (fun i v ys news I C D oI oC m₂ h g tk hi hP hj hyl hg hC hm => ?_) done
  obtain ⟨ti, rfl⟩ := hP
  exact turn i ti ys news I C D oI oC m₂ h g tk hi hj hyl hg hC hm
end
end
section /- NamesA -/
open PyProof.Rows.LCg (NsObj NsObj.ns ns_obj lst lst_snoc)

theorem IntsAre.nth : ∀ {vs : List Value} {ns : List Int} {i : Nat} {v : Value}, IntsAre vs ns → vs[i]? = some v → ∃ n t, v = .int n t ∧ ns[i]? = some n
  | _, _, _, _, .nil, h => by simp at h
  | _, _, 0, _, .cons n t _, h => by
    simp at h
    exact ⟨n, t, h.symm, by simp⟩
  | _, _, i + 1, _, .cons n t r, h => by
    obtain ⟨k, t', e, h'⟩ := IntsAre.nth r (i := i) (by simpa using h)
    exact ⟨k, t', e, by simpa using h'⟩
noncomputable def nm (n : Nat) : Str := Txt.mul (Str.ofString "a") ((n : Int) + 1)
theorem take_map_snoc {α β : Type} (f : α → β) (l : List α) (i : Nat) (c : α) (h : l[i]? = some c) : (l.take (i + 1)).map f = (l.take i).map f ++ [f c] := by
  rw [List.take_add_one, h]; simp

theorem names_spec {w : World} {mg mb : Str → Option Value} {mean : ExcName → Option Value} {s : Shared} {d u : Nat} {l : Addr} {vs : List Value} {ns : List Nat} {R : Result → Shared → Prop}
    (X : (hd.heap_1 w.params).In s.heap) (T : Top view39 (looseW view39 []) mean mg mb s.heap) (hd : d < 430) (hb : AllBare s.gens)
    (hl : s.heap.IsList l vs.toArray) (hi : IntsAre vs (ns.map fun (n : Nat) => (n : Int))) (hn : ns.length ≤ 100) (hle : ∀ n ∈ ns, n ≤ 100)
    (hR : ∀ h' g' tk D ys, Kp s.heap h' → AllBare g' → h'.get? D = some (lst ys) → s.heap.get? D = none → StrsAre ys (ns.map nm) → R (.ok (.ret (.ref D))) ⟨h', g', s.drawn, tk, s.os⟩) :
    codeAny (model PySem.Challenge.rw_ik0197_01.row.prog w) (ar d u) (.call (.ref 181) ⟨[.ref l], []⟩) R s := by
  refine enter (binds := [(Str.ofString "row", .ref l)]) X T.nolimit (by k_is) (by k_is) (show d < 1000 by omega) (BindsTo.of_eq rfl) (locs rfl) ?_
  intro L h₁ F N
  dsimp only [List.reverse_cons, List.reverse_nil, List.nil_append, List.length_cons, List.length_nil] at F ⊢
  repeat' (walk_at "wG")
  refine comp_eval (cl := []) (by rfl) (by rfl) (by decide) ?_
  repeat' (walk_at "wG")
  have N0 : News s.heap L h₁ ([] ++ []) := N
  have hvl : vs.length ≤ 1000000 := by have := IntsAre.length hi; simp at this; omega
  refine comp_list (fun i ys news => news = [] ∧ StrsAre ys ((ns.take i).map nm)) rfl (hl.at fun o e => F.keep _ _ e) hvl (by decide) rfl rfl F N0 (.inl ⟨_, hl.choose_spec.1⟩) hb ⟨rfl, .nil⟩
    (fun i v ys news I C D oI oC m₂ h g tk hv hj hyl hg hC hm F N hoff hne => ?_) (fun D ys news h g tk hj hg F N hoff => ?_)
  · obtain ⟨rfl, hys⟩ := hj
    obtain ⟨n, t, rfl, hn'⟩ := IntsAre.nth hi hv
    rw [List.getElem?_map] at hn'
    obtain ⟨n, hn2, rfl⟩ := Option.map_eq_some_iff.mp hn'
    have hnl : n ≤ 100 := hle n (List.mem_of_getElem? hn2)
    simp only [List.append_nil, List.nil_append] at N hoff
    refine wpAny_tests_nil ?_
    show wpAny _ _ _ _ _ _
    repeat' (walk_at "wG")
    refine CompGo.mk hg F N (fun p hp => by simpa using hp) (fun p hp => by cases hp) ⟨rfl, ?_⟩
    rw [take_map_snoc nm ns i n hn2]
    exact hys.append' (.cons _ _ .nil)
  · obtain ⟨rfl, hys⟩ := hj
    rw [List.take_of_length_le (by have := IntsAre.length hi; simp at this; omega)] at hys
    exact hR _ _ _ D ys F.keep hg (N _ (.head _)).1 (N _ (.head _)).2.2 hys
end
section /- RaiseA -/
theorem plain_unchain : plainId "proto.unchain" = true := by decide +kernel
theorem entry_unchain : entryFor table "proto.unchain" = some Builtin.«proto.unchain» := entryFor_of_fast (by kernel_rfl)

section
variable {α : Type} {prog : Program} {w : World} {A : Around} {E : Value → Shared → Prop} {s : Shared}

structure NewExcC (h h' : Heap) (e : Addr) (cls : String) (c : Value) : Prop where
  keeps : ∀ b o, h.get? b = some o → h'.get? b = some o
  new : h.get? e = none
  there : ∃ ob vs, h'.get? e = some ob ∧ ob.cls = .type cls ∧ ob.data = .fields vs ∧ vs[1]? = some .none ∧ vs[2]? = some c
theorem NewExcC.of {h h' : Heap} {e : Addr} {cls : String} (x : Heap.NewExc h h' e cls) : NewExcC h h' e cls .none :=
  ⟨x.keeps, x.new, by obtain ⟨ob, t, he, hc, hd⟩ := x.there; exact ⟨ob, _, he, hc, hd, rfl, rfl⟩⟩

theorem raiseNew_ctx {x e : Addr} {ox oe : Obj} {vs ws : Array Value} {Q : α → Shared → Prop} (hh : A.handled = some (.ref x)) (hx : s.heap.get? x = some ox) (hd : ox.data = .fields vs) (h2 : vs[2]? = some .none) (hxe : x ≠ e)
    (he : s.heap.get? e = some oe) (hde : oe.data = .fields ws) (hw : 2 < ws.size)
    (h : E (.ref e) { s with heap := s.heap.update e (Obj.mapFields (·.setIfInBounds 2 (.ref x))) }) :
    wpAny (model prog w) A (raiseNew (.ref e) : Sem α) Q E s := by
  unfold raiseNew
  refine wpAny_bind (wpAny_handled ?_)
  rw [hh]
  dsimp only
  have hne : (Value.ref x != Value.ref e) = true := by simpa using hxe
  rw [if_pos hne]
  refine wpAny_bind (wpAny_holding (wpAny_runValue (codeAny_builtin entry_unchain ?_)))
  rw [Around.under_plainId plain_unchain _]
  show wpAny _ A.in1 (field (.ref x) 2 >>= _) _ _ s
  refine wpAny_bind (wpAny_field hx hd h2 ?_)
  show wpAny _ A.in1 (ret Value.none : Sem Fin) _ _ s
  refine wpAny_pure ?_
  show wpAny _ A ((setField (.ref e) 2 (.ref x)) >>= fun _ => throw (.ref e)) _ _ s
  refine wpAny_bind (wpAny_setField he hde hw ?_)
  exact wpAny_throw h

theorem raiseWords_ctx {cls msg : String} {x : Addr} {ox : Obj} {vs : Array Value} {Q : α → Shared → Prop} (hp : PlainExc cls) (hh : A.handled = some (.ref x)) (hx : s.heap.get? x = some ox) (hd : ox.data = .fields vs) (h2 : vs[2]? = some .none)
    (h : ∀ h' tk e, NewExcC s.heap h' e cls (.ref x) → E (.ref e) { s with heap := h', toks := tk }) :
    wpAny (model prog w) A (raiseErrorWords cls msg : Sem α) Q E s := by
  unfold raiseErrorWords
  refine wpAny_bind (wpAny_mkText (wpAny_bind ?_))
  unfold newExc newTuple
  refine wpAny_bind (wpAny_newObj_type ?_)
  refine wpAny_bind (m := firstArgMember _ _) (wpAny_of_eq (a := Value.none) (by simp only [firstArgMember, hp.first]; rfl) ?_)
  rw [hp.own]
  refine wpAny_newObj_type ?_
  have lx := ltN (Heap.lt_size hx)
  refine raiseNew_ctx hh (Heap.get?_push_of_some _ (Heap.get?_push_of_some _ hx)) hd h2 (by
    show @Ne Nat x (s.heap.push _).objs.size
    rw [Heap.size_push]; omega) (Heap.get?_push_size _ rfl) rfl (by show 2 < 6; decide) ?_
  refine h _ _ _ ⟨fun b o hb => ?_, Heap.get?_none_of_le (by simp), _, _, Heap.get?_update_self _ (Heap.get?_push_size _ rfl) rfl, rfl, rfl, by simp, by simp⟩
  have lb := ltN (Heap.lt_size hb)
  exact (Heap.get?_update_other _ _ (by
    show @Ne Nat (s.heap.push _).objs.size b
    rw [Heap.size_push]; omega)).trans (Heap.get?_push_of_some _ (Heap.get?_push_of_some _ hb))

theorem getItem_out_ctx {l : Addr} {items : Array Value} {k : Int} {t : Tok} {x : Addr} {ox : Obj} {vs : Array Value} {Q : Value → Shared → Prop} (hh : A.handled = some (.ref x)) (hx : s.heap.get? x = some ox) (hd : ox.data = .fields vs) (h2 : vs[2]? = some .none) (hl : s.heap.IsList l items)
    (h0 : 0 ≤ k) (hout : (items.size : Int) ≤ k) (hhi : k < 2 ^ 63)
    (hE : ∀ h' tk e, NewExcC s.heap h' e "IndexError" (.ref x) → E (.ref e) { s with heap := h', toks := tk }) :
    wpAny (model prog w) A (getItem (.ref l) (.int k t)) Q E s := by
  obtain ⟨o, ho, hc, ne, hd'⟩ := id hl
  unfold getItem
  try with_reducible refine wpAny_holding ?_
  first | refine wpAny_bind (wpAny_pure ?_) | skip
  refine wpAny_bind (wpAny_sequenceKey hl.typeIs (by decide) ?_)
  refine wpAny_bind (wpAny_callSpecial?_slot (name := Str.ofString "__getitem__") hl.typeIs slot_list_getitem
    (wpAny_call_entry slot_list_getitem hl.typeIs entry_list_getitem ?_ (args_list_getitem _ _)))
  show wpAny _ _ (Builtin.List.listSubscript? (.int k t) >>= _) _ _ s
  refine wpAny_bind (wpAny_listSubscript_int (fitsIndex_both (by omega) (by omega)) ?_)
  clear hhi
  cases k with
  | ofNat j =>
    have hx' : items[j]? = none := Array.getElem?_eq_none (by have : (items.size : Int) ≤ (j : Int) := hout; omega)
    show wpAny _ _ ((seqItemAt l j >>= fun r => pure (r.map (j, ·))) >>= _) _ _ s
    refine wpAny_bind (wpAny_bind (wpAny_seqItemAt ho hd' (wpAny_pure ?_)))
    rw [hx']
    first
      | exact wpAny_bind (wpAny_rule (raiseWords_ctx plainExc_IndexError hh hx hd h2 hE))
      | exact wpAny_bind (wpAny_rule (wpAny_bind (raiseWords_ctx plainExc_IndexError hh hx hd h2 hE)))
      | exact wpAny_bind (wpAny_bind (wpAny_rule (raiseWords_ctx plainExc_IndexError hh hx hd h2 hE)))
      | exact wpAny_rule (raiseWords_ctx plainExc_IndexError hh hx hd h2 hE)
  | negSucc j => exact absurd h0 (by have := Int.negSucc_lt_zero j; omega)

/-- out of range, in a plain or in a held context -/
noncomputable def CtxOk (A : Around) (c : Value) (h : Heap) : Prop :=
  (A.handled = none ∧ c = .none) ∨ ∃ x ox vs, A.handled = some (.ref x) ∧ c = .ref x ∧ h.get? x = some ox ∧ ox.data = .fields vs ∧ vs[2]? = some .none
theorem item_out {value slice : PySem.Expr} {l : Addr} {items : Array Value} {k : Int} {t : Tok} {c : Value} {Q : Value → Shared → Prop} (hc : CtxOk A c s.heap) (hl : s.heap.IsList l items) (h0 : 0 ≤ k) (hout : (items.size : Int) ≤ k) (hhi : k < 2 ^ 62)
    (hE : ∀ h' tk e, NewExcC s.heap h' e "IndexError" c → E (.ref e) { s with heap := h', toks := tk })
    (hs : subscripted slice false (.ref l) (.int k t) = operate [.ref l, .int k t] (getItem (.ref l) (.int k t)) := by with_unfolding_all rfl) :
    wpAny (model prog w) A (subscriptTail value slice (.ref l) (.int k t)) Q E s := by
  refine tail_any hl.typeIs slot_list_getitem.lookup ?_ hs
  rcases hc with ⟨hh, rfl⟩ | ⟨x, ox, vs, hh, rfl, hx, hd, h2⟩
  · exact wpAny_getItem_list_out hh hl (.inr hout) (by omega) (by omega) fun h' tk e hn => hE h' tk e (.of hn)
  · exact getItem_out_ctx hh hx hd h2 hl h0 hout (by omega) hE
theorem item_in {value slice : PySem.Expr} {l : Addr} {items : Array Value} {k : Int} {t : Tok} {v : Value} {Q : Value → Shared → Prop} (hl : s.heap.IsList l items) (h0 : 0 ≤ k) (hhi : k < 2 ^ 62) (hv : items[k.toNat]? = some v) (h : Q v s)
    (hs : subscripted slice false (.ref l) (.int k t) = operate [.ref l, .int k t] (getItem (.ref l) (.int k t)) := by with_unfolding_all rfl) :
    wpAny (model prog w) A (subscriptTail value slice (.ref l) (.int k t)) Q E s :=
  tail_any hl.typeIs slot_list_getitem.lookup (wpAny_getItem_list hl h0 (by omega) hv h) hs
end
end
section
local macro_rules | `(tactic| walk_at "call builtin:list.append") => `(tactic| (k_dflt (refine' append_led ?F ?N ?U ?z ?_; (case F => k_asm); (case N => k_asm); (case U => k_upd); (case z => (try simp only [List.length_append, List.length_cons, List.length_nil]); omega)); intro h' F' N'; (try k_sweep)))
local macro_rules | `(tactic| walk_at "callWith builtin:list.append") => `(tactic| (k_dflt (refine callWith_method1 ?_)))
local macro_rules | `(tactic| walk_at "call builtin:len") => `(tactic| (k_dflt (refine' len_led ?N ?m ?z ?_; (case N => k_asm); (case m => k_mem); (case z => omega)); intro _ _))
section /- PieceS -/
open PyProof.Rows.LCg (NsObj NsObj.ns ns_obj lst lst_snoc)
/-- the text of a kind -/
noncomputable def pc : Nat → Str
  | 0 => Str.ofString "("
  | 1 => Str.ofString ")"
  | 2 => Str.ofString "\\\\("
  | 3 => Str.ofString "\\\\)"
  | 4 => Str.ofString "\\)"
  | 5 => Str.ofString "\"(\""
  | 6 => Str.ofString "\"\\\")\""
  | _ => Str.ofString "\\\""
noncomputable abbrev LawSt := List Str × List Str × Int
noncomputable def lawStep (st : LawSt) (x : Int) : LawSt :=
  if (x % 8 = 1 ∨ x % 8 = 3) ∧ st.2.2 = 0 then st
  else if x % 8 = 0 ∨ x % 8 = 2 then (st.1 ++ [pc (x % 8).toNat], st.2.1 ++ [nm st.1.length], st.2.2 + 1)
  else if x % 8 = 1 ∨ x % 8 = 3 then (st.1 ++ [pc (x % 8).toNat], st.2.1 ++ [Str.ofString ".."], st.2.2 - 1)
  else (st.1 ++ [pc (x % 8).toNat], st.2.1 ++ [Str.ofString "."], st.2.2)
theorem ls_open {st : LawSt} {x : Int} (k : Nat) (h : x % 8 = k) (hk : k = 0 ∨ k = 2) : lawStep st x = (st.1 ++ [pc k], st.2.1 ++ [nm st.1.length], st.2.2 + 1) := by
  unfold lawStep; rw [h]
  rcases hk with rfl | rfl <;> rfl
theorem ls_skip {st : LawSt} {x : Int} (k : Nat) (h : x % 8 = k) (hk : k = 1 ∨ k = 3) (hd : st.2.2 = 0) : lawStep st x = st := by
  unfold lawStep; rw [h]
  rcases hk with rfl | rfl <;> simp [hd]
theorem ls_close {st : LawSt} {x : Int} (k : Nat) (h : x % 8 = k) (hk : k = 1 ∨ k = 3) (hd : st.2.2 ≠ 0) : lawStep st x = (st.1 ++ [pc k], st.2.1 ++ [Str.ofString ".."], st.2.2 - 1) := by
  unfold lawStep; rw [h]
  rcases hk with rfl | rfl <;> simp [hd]
theorem ls_dot {st : LawSt} {x : Int} (k : Nat) (h : x % 8 = k) (hk : k = 4 ∨ k = 5 ∨ k = 6 ∨ k = 7) : lawStep st x = (st.1 ++ [pc k], st.2.1 ++ [Str.ofString "."], st.2.2) := by
  unfold lawStep; rw [h]
  rcases hk with rfl | rfl | rfl | rfl <;> rfl

noncomputable def pcFn : Stmt := PySem.Challenge.rw_ik0197_01.row.prog.main.body.getD 25 (.Pass ⟨0, 0, 0, 0⟩)
noncomputable def pcScope : Scope := scopeOf pcFn
noncomputable def pcTurn : List Stmt := bodyOf ((bodyOf pcFn).getD 1 (.Pass ⟨0, 0, 0, 0⟩))
noncomputable abbrev pcEnv (L : Addr) : Env := envOf (Str.ofString "_law_pieces") pcScope L 169 (.ref 168)
section
variable {prog : Program} {w : World} {A : Around} {E : Value → Shared → Prop} {s : Shared} {h₀ : Heap} {L l : Addr} {news : List (Addr × Obj)} {vs : List Value} {n : Nat} {value slice : PySem.Expr}
theorem item_led {k : Nat} {t : Tok} {v : Value} {Q : Value → Shared → Prop} (N : News h₀ L s.heap news) (hm : (l, W.listOf vs.toArray n) ∈ news) (hk : k ≤ 1000) (hv : vs[k]? = some v) (h : Q v s)
    (hs : subscripted slice false (.ref l) (.int k t) = operate [.ref l, .int k t] (getItem (.ref l) (.int k t)) := by with_unfolding_all rfl) : wpAny (model prog w) A (subscriptTail value slice (.ref l) (.int (k : Int) t)) Q E s :=
  item_in (led_list N hm) (Int.natCast_nonneg k) (by omega) (by rw [Int.toNat_natCast, List.getElem?_toArray]; exact hv) h hs
end
theorem pc_at {k : Nat} (hk : k < 8) (t0 t1 t2 t3 t4 t5 t6 t7 : Tok) : ∃ t, ([.str (Str.ofString "(") t0, .str (Str.ofString ")") t1, .str (Str.ofString "\\\\(") t2, .str (Str.ofString "\\\\)") t3, .str (Str.ofString "\\)") t4, .str (Str.ofString "\"(\"") t5, .str (Str.ofString "\"\\\")\"") t6, .str (Str.ofString "\\\"") t7] : List Value)[k]? = some (.str (pc k) t) := by
  match k, hk with
  | 0, _ => exact ⟨t0, rfl⟩
  | 1, _ => exact ⟨t1, rfl⟩
  | 2, _ => exact ⟨t2, rfl⟩
  | 3, _ => exact ⟨t3, rfl⟩
  | 4, _ => exact ⟨t4, rfl⟩
  | 5, _ => exact ⟨t5, rfl⟩
  | 6, _ => exact ⟨t6, rfl⟩
  | 7, _ => exact ⟨t7, rfl⟩
theorem any02 : ∀ k < 8, (([0, 2] : List Int).any fun x => x == ((k : Nat) : Int)) = decide (k = 0 ∨ k = 2) := by decide
theorem any13 : ∀ k < 8, (([1, 3] : List Int).any fun x => x == ((k : Nat) : Int)) = decide (k = 1 ∨ k = 3) := by decide
theorem piece_end {w : World} {mg mb : Str → Option Value} {mean : ExcName → Option Value} {h₀ h : Heap} {L lp lq I : Addr} {pv qv : List Value} {np nq : Nat} {oI : Obj} {m : Str → Option Value} {g : Array GenState} {dr : Drawn} {d u tk k : Nat} {t : Tok} {os : OsState} {Q : Flow → Shared → Prop}
    (X : (hd.heap_1 w.params).In h₀) (T : Top view39 (looseW view39 []) mean mg mb h₀) (F : Fr h₀ L h m) (N : News h₀ L h [(I, oI), (lp, W.listOf pv.toArray np), (lq, W.listOf qv.toArray nq)])
    (hk : k < 8) (hm1 : m (Str.ofString "kind") = some (.int (k : Int) t)) (hm2 : m (Str.ofString "pieces") = some (.ref lp)) (q1 : @Ne Nat I lp) (q2 : @Ne Nat lp lq) (hpl : pv.length ≤ 100)
    (H : ∀ h' tk' t', Fr h₀ L h' m → News h₀ L h' [(I, oI), (lp, W.listOf (pv ++ [Value.str (pc k) t']).toArray (np + 1)), (lq, W.listOf qv.toArray nq)] → Q .next ⟨h', g, dr, tk', os⟩) :
    wpAny (model PySem.Challenge.rw_ik0197_01.row.prog w) ((ar d u).deeper (pcEnv L)) (execs (pcTurn.drop 3) (pcEnv L)) Q (fun _ _ => False) ⟨h, g, dr, tk, os⟩ := by
  obtain ⟨b, hb⟩ : ∃ b, b = pcTurn.drop 3 := ⟨_, rfl⟩
  obtain ⟨sc, hsc⟩ : ∃ sc, sc = pcScope := ⟨_, rfl⟩
  unfold pcEnv
  rw [← hb, ← hsc]
  conv at hb => rhs; whnf
  conv at hsc => rhs; whnf
  subst hb hsc
  have hkn : knowL [(Str.ofString "kind", .int (k : Int) t), (Str.ofString "pieces", .ref lp)] m = m := knowL_eq (by simpa using ⟨hm1, hm2⟩)
  have F : Fr h₀ L h (knowL [(Str.ofString "kind", .int (k : Int) t), (Str.ofString "pieces", .ref lp)] m) := hkn.symm ▸ F
  dsimp only [knowL, List.foldr] at F
  walk1
  repeat' (walk_at "w1")
  (with_reducible rename News _ _ _ _ => N₁)
  obtain ⟨tv, hv⟩ := pc_at hk _ _ _ _ _ _ _ _
  refine item_led N₁ (.head _) (by omega) hv ?_
  repeat' (walk_at "w1")
  (with_reducible rename Fr _ _ _ _ => F₁)
  (with_reducible rename News _ _ _ _ => N₁)
  exact H _ _ tv (hkn ▸ (F₁ : Fr h₀ L _ (knowL [(Str.ofString "kind", .int (k : Int) t), (Str.ofString "pieces", .ref lp)] m))) fun p hp => N₁ p (.tail _ hp)
theorem piece_step {w : World} {mg mb : Str → Option Value} {mean : ExcName → Option Value} {h₀ h : Heap} {L lp lq I : Addr} {pv qv : List Value} {np nq : Nat} {oI : Obj} {m : Str → Option Value} {g : Array GenState} {dr : Drawn} {d u tk k : Nat} {dep : Int} {t td : Tok} {os : OsState} {Q : Flow → Shared → Prop}
    (X : (hd.heap_1 w.params).In h₀) (T : Top view39 (looseW view39 []) mean mg mb h₀) (F : Fr h₀ L h m) (N : News h₀ L h [(I, oI), (lp, W.listOf pv.toArray np), (lq, W.listOf qv.toArray nq)])
    (hk : k < 8) (hm1 : m (Str.ofString "kind") = some (.int (k : Int) t)) (hm2 : m (Str.ofString "pieces") = some (.ref lp)) (hm3 : m (Str.ofString "steps") = some (.ref lq)) (hm4 : m (Str.ofString "depth") = some (.int dep td)) (q1 : @Ne Nat I lp) (q2 : @Ne Nat lp lq) (q3 : @Ne Nat I lq) (hpl : pv.length ≤ 100) (hql : qv.length ≤ 100) (hd0 : 0 ≤ dep) (hd1 : dep ≤ 100)
    (Ho : k = 0 ∨ k = 2 → ∀ h' tk' t' td', Fr h₀ L h' (fun y => if y = Str.ofString "depth" then some (.int (dep + 1) td') else m y) → News h₀ L h' [(I, oI), (lp, W.listOf pv.toArray np), (lq, W.listOf (qv ++ [Value.str (nm pv.length) t']).toArray (nq + 1))] → wpAny (model PySem.Challenge.rw_ik0197_01.row.prog w) ((ar d u).deeper (pcEnv L)) (execs (pcTurn.drop 3) (pcEnv L)) Q (fun _ _ => False) ⟨h', g, dr, tk', os⟩)
    (Hc : k = 1 ∨ k = 3 → ∀ h' tk' t' td', Fr h₀ L h' (fun y => if y = Str.ofString "depth" then some (.int (dep - 1) td') else m y) → News h₀ L h' [(I, oI), (lp, W.listOf pv.toArray np), (lq, W.listOf (qv ++ [Value.str (Str.ofString "..") t']).toArray (nq + 1))] → wpAny (model PySem.Challenge.rw_ik0197_01.row.prog w) ((ar d u).deeper (pcEnv L)) (execs (pcTurn.drop 3) (pcEnv L)) Q (fun _ _ => False) ⟨h', g, dr, tk', os⟩)
    (Hd : ¬ (k = 0 ∨ k = 2) → ¬ (k = 1 ∨ k = 3) → ∀ h' tk' t', Fr h₀ L h' m → News h₀ L h' [(I, oI), (lp, W.listOf pv.toArray np), (lq, W.listOf (qv ++ [Value.str (Str.ofString ".") t']).toArray (nq + 1))] → wpAny (model PySem.Challenge.rw_ik0197_01.row.prog w) ((ar d u).deeper (pcEnv L)) (execs (pcTurn.drop 3) (pcEnv L)) Q (fun _ _ => False) ⟨h', g, dr, tk', os⟩) :
    wpAny (model PySem.Challenge.rw_ik0197_01.row.prog w) ((ar d u).deeper (pcEnv L)) (execs (pcTurn.drop 2) (pcEnv L)) Q (fun _ _ => False) ⟨h, g, dr, tk, os⟩ := by
  obtain ⟨r, hr⟩ : ∃ r, r = pcTurn.drop 3 := ⟨_, rfl⟩
  obtain ⟨b, hb⟩ : ∃ b, b = pcTurn.drop 2 := ⟨_, rfl⟩
  obtain ⟨sc, hsc⟩ : ∃ sc, sc = pcScope := ⟨_, rfl⟩
  unfold pcEnv at Ho Hc Hd ⊢
  rw [← hr, ← hsc] at Ho Hc Hd
  rw [← hb, ← hsc]
  conv at hb => rhs; whnf
  conv at hr => rhs; whnf
  conv at hsc => rhs; whnf
  subst hb hr hsc
  have hkn : knowL [(Str.ofString "kind", .int (k : Int) t), (Str.ofString "pieces", .ref lp), (Str.ofString "steps", .ref lq), (Str.ofString "depth", .int dep td)] m = m := knowL_eq (by simpa using ⟨hm1, hm2, hm3, hm4⟩)
  have F : Fr h₀ L h (knowL [(Str.ofString "kind", .int (k : Int) t), (Str.ofString "pieces", .ref lp), (Str.ofString "steps", .ref lq), (Str.ofString "depth", .int dep td)] m) := hkn.symm ▸ F
  dsimp only [knowL, List.foldr] at F
  walk1
  repeat' (walk_at "w1")
  · (with_reducible rename Fr _ _ _ _ => F₁)
    (with_reducible rename News _ _ _ _ => N₁)
    (with_reducible rename _ = true => hc)
    rw [any02 k hk] at hc
    have F₂ : Fr h₀ L _ (fun y => if y = Str.ofString "depth" then some (.int (dep + 1) _) else knowL [(Str.ofString "kind", .int (k : Int) t), (Str.ofString "pieces", .ref lp), (Str.ofString "steps", .ref lq), (Str.ofString "depth", .int dep td)] m y) := F₁
    rw [hkn] at F₂
    exact Ho (of_decide_eq_true hc) _ _ _ _ F₂ fun p hp => N₁ p (.tail _ hp)
  walk1
  walk1
  repeat' (walk_at "w1")
  · (with_reducible rename Fr _ _ _ _ => F₁)
    (with_reducible rename News _ _ _ _ => N₁)
    (with_reducible rename _ = true => hc)
    rw [any13 k hk] at hc
    have F₂ : Fr h₀ L _ (fun y => if y = Str.ofString "depth" then some (.int (dep - 1) _) else knowL [(Str.ofString "kind", .int (k : Int) t), (Str.ofString "pieces", .ref lp), (Str.ofString "steps", .ref lq), (Str.ofString "depth", .int dep td)] m y) := F₁
    rw [hkn] at F₂
    exact Hc (of_decide_eq_true hc) _ _ _ _ F₂ fun p hp => N₁ p (.tail _ (.tail _ hp))
  · (with_reducible rename Fr _ _ _ _ => F₁)
    (with_reducible rename News _ _ _ _ => N₁)
    (with_reducible rename ([1, 3] : List Int).any _ = false => hc)
    (with_reducible rename ([0, 2] : List Int).any _ = false => hc0)
    rw [any13 k hk] at hc
    rw [any02 k hk] at hc0
    exact Hd (of_decide_eq_false hc0) (of_decide_eq_false hc) _ _ _ (hkn ▸ (F₁ : Fr h₀ L _ (knowL [(Str.ofString "kind", .int (k : Int) t), (Str.ofString "pieces", .ref lp), (Str.ofString "steps", .ref lq), (Str.ofString "depth", .int dep td)] m))) fun p hp => N₁ p (.tail _ (.tail _ hp))
theorem piece_skip {w : World} {mg mb : Str → Option Value} {mean : ExcName → Option Value} {h₀ h : Heap} {L : Addr} {news : List (Addr × Obj)} {m : Str → Option Value} {g : Array GenState} {dr : Drawn} {d u tk k : Nat} {dep : Int} {t td : Tok} {os : OsState} {Q : Flow → Shared → Prop}
    (X : (hd.heap_1 w.params).In h₀) (T : Top view39 (looseW view39 []) mean mg mb h₀) (F : Fr h₀ L h m) (N : News h₀ L h news)
    (hk : k < 8) (hm1 : m (Str.ofString "kind") = some (.int (k : Int) t)) (hm4 : m (Str.ofString "depth") = some (.int dep td))
    (Hs : k = 1 ∨ k = 3 → dep = 0 → ∀ h' tk', Fr h₀ L h' m → News h₀ L h' news → Q .cont ⟨h', g, dr, tk', os⟩)
    (Hn : k = 1 ∨ k = 3 → ¬ dep = 0 → ∀ h' tk', Fr h₀ L h' m → News h₀ L h' news → wpAny (model PySem.Challenge.rw_ik0197_01.row.prog w) ((ar d u).deeper (pcEnv L)) (execs (pcTurn.drop 2) (pcEnv L)) Q (fun _ _ => False) ⟨h', g, dr, tk', os⟩)
    (Hm : ¬ (k = 1 ∨ k = 3) → ∀ h' tk', Fr h₀ L h' m → News h₀ L h' news → wpAny (model PySem.Challenge.rw_ik0197_01.row.prog w) ((ar d u).deeper (pcEnv L)) (execs (pcTurn.drop 2) (pcEnv L)) Q (fun _ _ => False) ⟨h', g, dr, tk', os⟩) :
    wpAny (model PySem.Challenge.rw_ik0197_01.row.prog w) ((ar d u).deeper (pcEnv L)) (execs (pcTurn.drop 1) (pcEnv L)) Q (fun _ _ => False) ⟨h, g, dr, tk, os⟩ := by
  obtain ⟨r, hr⟩ : ∃ r, r = pcTurn.drop 2 := ⟨_, rfl⟩
  obtain ⟨b, hb⟩ : ∃ b, b = pcTurn.drop 1 := ⟨_, rfl⟩
  obtain ⟨sc, hsc⟩ : ∃ sc, sc = pcScope := ⟨_, rfl⟩
  unfold pcEnv at Hn Hm ⊢
  rw [← hr, ← hsc] at Hn Hm
  rw [← hb, ← hsc]
  conv at hb => rhs; whnf
  conv at hr => rhs; whnf
  conv at hsc => rhs; whnf
  subst hb hr hsc
  have hkn : knowL [(Str.ofString "kind", .int (k : Int) t), (Str.ofString "depth", .int dep td)] m = m := knowL_eq (by simpa using ⟨hm1, hm4⟩)
  have F : Fr h₀ L h (knowL [(Str.ofString "kind", .int (k : Int) t), (Str.ofString "depth", .int dep td)] m) := hkn.symm ▸ F
  dsimp only [knowL, List.foldr] at F
  walk1
  repeat' (walk_at "w1")
  all_goals (with_reducible rename Fr _ _ _ _ => F₁)
  all_goals (with_reducible rename News _ _ _ _ => N₁)
  all_goals have F₂ : Fr h₀ L _ (knowL [(Str.ofString "kind", .int (k : Int) t), (Str.ofString "depth", .int dep td)] m) := F₁
  all_goals rw [hkn] at F₂
  · (with_reducible rename _ = true => hc)
    rw [any13 k hk] at hc
    exact Hs (of_decide_eq_true hc) (by assumption) _ _ F₂ fun p hp => N₁ p (.tail _ hp)
  · (with_reducible rename _ = true => hc)
    rw [any13 k hk] at hc
    exact Hn (of_decide_eq_true hc) (by assumption) _ _ F₂ fun p hp => N₁ p (.tail _ hp)
  · (with_reducible rename _ = false => hc)
    rw [any13 k hk] at hc
    exact Hm (of_decide_eq_false hc) _ _ F₂ fun p hp => N₁ p (.tail _ hp)
end
section /- PiecesA -/
open PyProof.Rows.LCg (NsObj NsObj.ns ns_obj lst lst_snoc)

noncomputable def PJ (xs : List Int) (lp lq : Addr) (i : Nat) (m : Str → Option Value) (news : List (Addr × Obj)) : Prop :=
  ∃ (pv qv : List Value) (np nq : Nat) (t : Tok), news = [(lp, W.listOf pv.toArray np), (lq, W.listOf qv.toArray nq)] ∧ StrsAre pv ((xs.take i).foldl lawStep ([], [], 0)).1 ∧ StrsAre qv ((xs.take i).foldl lawStep ([], [], 0)).2.1 ∧ pv.length ≤ i ∧ qv.length ≤ i ∧
    m (Str.ofString "pieces") = some (.ref lp) ∧ m (Str.ofString "steps") = some (.ref lq) ∧ m (Str.ofString "depth") = some (.int ((xs.take i).foldl lawStep ([], [], 0)).2.2 t) ∧ (0 ≤ ((xs.take i).foldl lawStep ([], [], 0)).2.2 ∧ ((xs.take i).foldl lawStep ([], [], 0)).2.2 ≤ i)

theorem pieces_spec {w : World} {mg mb : Str → Option Value} {mean : ExcName → Option Value} {s : Shared} {d u : Nat} {l : Addr} {vs : List Value} {xs : List Int} {R : Result → Shared → Prop}
    (X : (hd.heap_1 w.params).In s.heap) (T : Top view39 (looseW view39 []) mean mg mb s.heap) (hd : d < 430) (hb : AllBare s.gens)
    (hl : s.heap.IsList l vs.toArray) (hi : IntsAre vs xs) (hn : xs.length ≤ 100)
    (hR : ∀ h' g' tk D lp lq pv qv np nq, Kp s.heap h' → AllBare g' → h'.get? D = some { cls := .type "tuple", data := .seq #[.ref lp, .ref lq] } → h'.get? lp = some (W.listOf pv.toArray np) → h'.get? lq = some (W.listOf qv.toArray nq) → s.heap.get? D = none → s.heap.get? lp = none → s.heap.get? lq = none → @Ne Nat lp lq → @Ne Nat D lp → @Ne Nat D lq →
      StrsAre pv (xs.foldl lawStep ([], [], 0)).1 → StrsAre qv (xs.foldl lawStep ([], [], 0)).2.1 → R (.ok (.ret (.ref D))) ⟨h', g', s.drawn, tk, s.os⟩) :
    codeAny (model PySem.Challenge.rw_ik0197_01.row.prog w) (ar d u) (.call (.ref 169) ⟨[.ref l], []⟩) R s := by
  refine enter (binds := [(Str.ofString "cells", .ref l)]) X T.nolimit (by k_is) (by k_is) (show d < 1000 by omega) (BindsTo.of_eq rfl) (locs rfl) ?_
  intro L h₁ F N
  dsimp only [List.reverse_cons, List.reverse_nil, List.nil_append, List.length_cons, List.length_nil] at F ⊢
  repeat' (walk_at "wH")
  refine wpAny_For ?_
  repeat' (walk_at "wH")
  (with_reducible rename Fr _ _ _ _ => F₁)
  (with_reducible rename News _ _ _ _ => N₁)
  rename_i tk0 lp h4 _ lq h5 hlq D h6 hD h7 h8 h9 h10
  have N₂ : News s.heap L h10 ([] ++ [(lp, W.listOf ([] : List Value).toArray 0), (lq, W.listOf ([] : List Value).toArray 0)]) := fun p hp => N₁ p (by
    rcases List.mem_cons.mp hp with rfl | hp
    · exact .tail _ (.tail _ (.head _))
    · rw [List.mem_singleton.mp hp]; exact .tail _ (.head _))
  refine for_list (PJ xs lp lq) rfl (hl.at fun o e => F₁.keep _ _ e) F₁ N₂ (.inl ⟨_, hl.choose_spec.1⟩) hb rfl rfl (fun i m news hj p hp => ?_) ⟨[], [], 0, 0, _, rfl, .nil, .nil, Nat.zero_le _, Nat.zero_le _, rfl, rfl, rfl, by simp⟩ (fun i v m₁ news₁ h g tk I oI' hv hj hg F N hoff => ?_) (fun m₁ news₁ h g tk hj hg F N => ?_)
  · obtain ⟨pv, qv, np, nq, t, rfl, _⟩ := hj
    rcases List.mem_cons.mp hp with rfl | hp
    · exact Heap.lt_size (N₂ _ (.head _)).1
    · rw [List.mem_singleton.mp hp]; exact Heap.lt_size (N₂ _ (.tail _ (.head _))).1
  · obtain ⟨pv, qv, np, nq, t, rfl, hp1, hq1, hpl, hql, hm1, hm2, hm3, hdp⟩ := hj
    obtain ⟨x, tx, rfl, hx⟩ := IntsAre.nth hi hv
    change Fr s.heap L h _ at F
    change News s.heap L h _ at N
    have F' := (Fr.know (Fr.know (Fr.know F (a := Str.ofString "pieces") (by rw [if_neg (by decide)]; exact hm1)) (a := Str.ofString "steps") (by rw [if_neg (by decide), if_neg (by decide)]; exact hm2)) (a := Str.ofString "depth") (by rw [if_neg (by decide), if_neg (by decide), if_neg (by decide)]; exact hm3))
    clear F F₁ N₁ N₂
    simp only [List.nil_append, List.map_cons, List.map_nil] at N hoff
    have hil : i < xs.length := (List.getElem?_eq_some_iff.mp hx).1
    have hst := foldl_next lawStep ([], [], 0) xs i x hx
    generalize (xs.take i).foldl lawStep ([], [], 0) = st at hp1 hq1 hst F' hm3 hdp
    obtain ⟨ps, qs, dep⟩ := st
    dsimp only at hp1 hq1 F' hm3 hdp
    have q1 : @Ne Nat I lp := hoff _ (.head _) _ (.head _)
    have q2 : @Ne Nat I lq := hoff _ (.head _) _ (.tail _ (.head _))
    have fin : ∀ h6 tk6 m6 all6 pv6 qv6 np6 nq6 st6 t6, Fr s.heap L h6 m6 → News s.heap L h6 all6 → (I, oI') ∈ all6 → (lp, W.listOf pv6.toArray np6) ∈ all6 → (lq, W.listOf qv6.toArray nq6) ∈ all6 → lawStep (ps, qs, dep) x = st6 → StrsAre pv6 st6.1 → StrsAre qv6 st6.2.1 → pv6.length ≤ i + 1 → qv6.length ≤ i + 1 → (0 ≤ st6.2.2 ∧ st6.2.2 ≤ (i : Int) + 1) →
        m6 (Str.ofString "pieces") = some (.ref lp) → m6 (Str.ofString "steps") = some (.ref lq) → m6 (Str.ofString "depth") = some (.int st6.2.2 t6) →
        GoOn s.heap L (I, oI') [] (PJ xs lp lq (i + 1)) s ⟨h6, g, s.drawn, tk6, s.os⟩ :=
      fun h6 tk6 m6 all6 pv6 qv6 np6 nq6 st6 t6 F6 N6 e1 e2 e3 hs hp6 hq6 hl1 hl2 hd6 h1 h2 h3 => GoOn.mk hg F6 N6 (fun p hp => by
        rcases List.mem_cons.mp hp with rfl | hp
        · exact e1
        · rcases List.mem_cons.mp hp with rfl | hp
          · exact e2
          · rw [List.mem_singleton.mp hp]; exact e3) ⟨pv6, qv6, np6, nq6, t6, rfl, by rw [hst, hs]; exact hp6, by rw [hst, hs]; exact hq6, hl1, hl2, h1, h2, by rw [hst, hs]; exact h3, by rw [hst, hs]; push_cast; exact hd6⟩
    have hpl2 : pv.length = ps.length := StrsAre.length hp1
    obtain ⟨k, hk, hk8⟩ : ∃ k : Nat, x % 8 = (k : Int) ∧ k < 8 := ⟨(x % 8).toNat, by omega, by omega⟩
    walk_at "wH"
    walk_at "wH"
    walk_at "wH"
    walk_at "wH"
    walk_at "wH"
    walk_at "wH"
    have hf : x.fmod 8 = x % 8 := Int.fmod_eq_emod_of_nonneg x (by decide)
    rw [hf, hk]
    walk_at "wH"
    refine wpAny_abs fun Qx hQx => ?_
    (with_reducible rename Fr _ _ _ _ => F₁)
    (with_reducible rename News _ _ _ _ => N₁)
    have q0 : @Ne Nat lp lq := by omega
    have hpl3 : pv.length ≤ 100 := by omega
    have hql3 : qv.length ≤ 100 := by omega
    have hd0 : dep ≤ 100 := by omega
    clear hoff hv hx hil hn hi hl
    have go : ∀ mm t0, mm (Str.ofString "kind") = some (.int (k : Int) t0) → mm (Str.ofString "pieces") = some (.ref lp) → mm (Str.ofString "steps") = some (.ref lq) → mm (Str.ofString "depth") = some (.int dep t) → ¬ ((k = 1 ∨ k = 3) ∧ dep = 0) → ∀ h' tk', Fr s.heap L h' mm → News s.heap L h' [(I, oI'), (lp, W.listOf pv.toArray np), (lq, W.listOf qv.toArray nq)] → wpAny (model PySem.Challenge.rw_ik0197_01.row.prog w) ((ar d u).deeper (pcEnv L)) (execs (pcTurn.drop 2) (pcEnv L)) Qx (fun _ _ => False) ⟨h', g, s.drawn, tk', s.os⟩ := fun mm t0 k1 k2 k3 k4 hne h' tk' F N => by
      have i1 : ∀ v : Value, (fun y => if y = Str.ofString "depth" then some v else mm y) (Str.ofString "kind") = some (.int (k : Int) t0) := fun v => (if_neg (by decide)).trans k1
      have i2 : ∀ v : Value, (fun y => if y = Str.ofString "depth" then some v else mm y) (Str.ofString "pieces") = some (.ref lp) := fun v => (if_neg (by decide)).trans k2
      have i3 : ∀ v : Value, (fun y => if y = Str.ofString "depth" then some v else mm y) (Str.ofString "steps") = some (.ref lq) := fun v => (if_neg (by decide)).trans k3
      refine piece_step (k := k) (dep := dep) X T F N hk8 k1 k2 k3 k4 q1 q0 q2 hpl3 hql3 hdp.1 hd0 (fun hk1 h' tk' t' td' F N => ?_) (fun hk1 h' tk' t' td' F N => ?_) (fun hk1 hk2 h' tk' t' F N => ?_)
      · refine piece_end (k := k) X T F N hk8 (i1 _) (i2 _) q1 q0 hpl3 fun h' tk' t'' F N => hQx _ _ ?_
        exact fin _ _ _ _ _ _ _ _ _ _ F N (.head _) (.tail _ (.head _)) (.tail _ (.tail _ (.head _))) (ls_open k hk hk1) (hp1.append' (.cons _ _ .nil)) (by rw [← hpl2]; exact hq1.append' (.cons _ _ .nil)) (by rw [List.length_append]; exact Nat.succ_le_succ hpl) (by rw [List.length_append]; exact Nat.succ_le_succ hql) ⟨by dsimp only; omega, by dsimp only; omega⟩ (i2 _) (i3 _) rfl
      · refine piece_end (k := k) X T F N hk8 (i1 _) (i2 _) q1 q0 hpl3 fun h' tk' t'' F N => hQx _ _ ?_
        have hdn : dep ≠ 0 := fun e => hne ⟨hk1, e⟩
        exact fin _ _ _ _ _ _ _ _ _ _ F N (.head _) (.tail _ (.head _)) (.tail _ (.tail _ (.head _))) (ls_close k hk hk1 hdn) (hp1.append' (.cons _ _ .nil)) (hq1.append' (.cons _ _ .nil)) (by rw [List.length_append]; exact Nat.succ_le_succ hpl) (by rw [List.length_append]; exact Nat.succ_le_succ hql) ⟨by dsimp only; omega, by dsimp only; omega⟩ (i2 _) (i3 _) rfl
      · refine piece_end (k := k) X T F N hk8 k1 k2 q1 q0 hpl3 fun h' tk' t'' F N => hQx _ _ ?_
        exact fin _ _ _ _ _ _ _ _ _ _ F N (.head _) (.tail _ (.head _)) (.tail _ (.tail _ (.head _))) (ls_dot k hk (kind4 k hk8 hk1 hk2)) (hp1.append' (.cons _ _ .nil)) (hq1.append' (.cons _ _ .nil)) (by rw [List.length_append]; exact Nat.succ_le_succ hpl) (by rw [List.length_append]; exact Nat.succ_le_succ hql) ⟨hdp.1, by dsimp only; omega⟩ k2 k3 k4
    refine piece_skip (k := k) (dep := dep) X T F₁ N₁ hk8 rfl rfl (fun hk1 he h' tk' F N => hQx _ _ ?_) (fun hk1 he h' tk' F N => go _ _ rfl rfl rfl rfl (fun q => he q.2) h' tk' F N) (fun hk1 h' tk' F N => go _ _ rfl rfl rfl rfl (fun q => hk1 q.1) h' tk' F N)
    exact fin _ _ _ _ _ _ _ _ _ _ F N (.head _) (.tail _ (.head _)) (.tail _ (.tail _ (.head _))) (ls_skip k hk hk1 he) hp1 hq1 (Nat.le_succ_of_le hpl) (Nat.le_succ_of_le hql) ⟨hdp.1, by dsimp only; omega⟩ rfl rfl rfl
  · obtain ⟨pv, qv, np, nq, t, rfl, hp1, hq1, hpl, hql, hm1, hm2, hm3, hdp⟩ := hj
    change Fr s.heap L h _ at F
    change News s.heap L h _ at N
    have F' := (Fr.know (Fr.know F (a := Str.ofString "pieces") hm1) (a := Str.ofString "steps") (by rw [if_neg (by decide)]; exact hm2))
    clear F F₁ N₁ N₂
    show wpAny _ _ _ _ _ _
    simp only [List.nil_append] at N
    rw [show vs.length = xs.length from IntsAre.length hi, List.take_length] at hp1 hq1
    have q0 : @Ne Nat lp lq := by omega
    repeat' (walk_at "wH")
    (with_reducible rename Fr _ _ _ _ => F₁)
    (with_reducible rename News _ _ _ _ => N₁)
    rename_i hlt
    have q1 := ltN hlt.1
    have q2 := ltN hlt.2
    exact hR _ _ _ _ lp lq pv qv np nq F₁.keep hg (N₁ _ (.head _)).1 (N₁ _ (.tail _ (.head _))).1 (N₁ _ (.tail _ (.tail _ (.head _)))).1 (N₁ _ (.head _)).2.2 (N₁ _ (.tail _ (.head _))).2.2 (N₁ _ (.tail _ (.tail _ (.head _)))).2.2 q0 (by omega) (by omega) hp1 hq1
end
end
section
local macro_rules | `(tactic| walk_at "callWith builtin:list.append") => `(tactic| (k_dflt (refine callWith_method1 ?_)))
local macro_rules | `(tactic| walk_at "call builtin:list.append") => `(tactic| (k_dflt (refine' append_led ?F ?N ?U ?z ?_; (case F => k_asm); (case N => k_asm); (case U => k_upd); (case z => (try simp only [List.length_append, List.length_cons, List.length_nil]); omega)); intro h' F' N'; (try k_sweep)))
section /- AroundA -/
open PyProof.Rows.LCg (NsObj NsObj.ns ns_obj lst lst_snoc)

noncomputable def aStep (ps qs : List Str) (st : List Nat × Nat) (i : Nat) : List Nat × Nat :=
  if (qs[i]? = some (Str.ofString ".") ∨ qs[i]? = some (Str.ofString "..")) then st
  else if checked (Txt.join (Str.ofString "") ((ps.drop (i + 1)).take (st.2 - (i + 1)))) = true then (st.1 ++ [i], i) else st
noncomputable def AJ (ps qs : List Str) (lp lq : Addr) (k : Nat) (lf : Addr) (j : Nat) (m : Str → Option Value) (news : List (Addr × Obj)) : Prop :=
  ∃ (fv : List Value) (nf : Nat) (t : Tok), news = [(lf, W.listOf fv.toArray nf)] ∧ IntsAre fv (((List.range j).foldl (fun st j => aStep ps qs st (k - 1 - j)) ([], k)).1.map fun (n : Nat) => (n : Int)) ∧ fv.length ≤ j ∧
    m (Str.ofString "found") = some (.ref lf) ∧ m (Str.ofString "inner") = some (.int (((List.range j).foldl (fun st j => aStep ps qs st (k - 1 - j)) ([], k)).2 : Int) t) ∧ ((List.range j).foldl (fun st j => aStep ps qs st (k - 1 - j)) ([], k)).2 ≤ k ∧ k ≤ ((List.range j).foldl (fun st j => aStep ps qs st (k - 1 - j)) ([], k)).2 + j ∧ m (Str.ofString "pieces") = some (.ref lp) ∧ m (Str.ofString "steps") = some (.ref lq)

theorem as_dot {ps qs : List Str} {st : List Nat × Nat} {i : Nat} (h : ([Str.ofString ".", Str.ofString ".."].any fun x => x == qs.getD (i : Int).toNat Str.empty) = true) (hi : i < qs.length) : aStep ps qs st i = st := by
  have e : qs[i]? = some (qs.getD (i : Int).toNat Str.empty) := by rw [Int.toNat_natCast, List.getD_eq_getElem?_getD, List.getElem?_eq_getElem hi]; rfl
  unfold aStep
  rw [if_pos]
  rw [e]
  simp at h
  rcases h with h | h
  · exact .inl (congrArg some h.symm)
  · exact .inr (congrArg some h.symm)
theorem as_go {ps qs : List Str} {st : List Nat × Nat} {i : Nat} (h : ([Str.ofString ".", Str.ofString ".."].any fun x => x == qs.getD (i : Int).toNat Str.empty) = false) (hi : i < qs.length) :
    aStep ps qs st i = if checked (Txt.join (Str.ofString "") ((ps.drop (i + 1)).take (st.2 - (i + 1)))) = true then (st.1 ++ [i], i) else st := by
  have e : qs[i]? = some (qs.getD (i : Int).toNat Str.empty) := by rw [Int.toNat_natCast, List.getD_eq_getElem?_getD, List.getElem?_eq_getElem hi]; rfl
  unfold aStep
  rw [if_neg]
  rw [e]
  simp at h
  rintro (q | q)
  · exact h.1 (Option.some.inj q).symm
  · exact h.2 (Option.some.inj q).symm
theorem range_down : ∀ k < 21, Builtin.Range.small ((k : Nat) - 1 : Int) (-1) (-1) = true ∧ Builtin.Range.rangeSize ((k : Nat) - 1 : Int) (-1) (-1) = (k : Int) := by decide
noncomputable def around (ps qs : List Str) (k : Nat) : List Nat := ((List.range k).foldl (fun st j => aStep ps qs st (k - 1 - j)) ([], k)).1.reverse
theorem around_spec {w : World} {mg mb : Str → Option Value} {mean : ExcName → Option Value} {s : Shared} {d u : Nat} {lp lq : Addr} {pv qv : List Value} {ps qs : List Str} {k : Nat} {tk : Tok} {R : Result → Shared → Prop}
    (X : (hd.heap_1 w.params).In s.heap) (T : Top view39 (looseW view39 []) mean mg mb s.heap) (hd : d < 430) (hb : AllBare s.gens)
    (hlp : s.heap.IsList lp pv.toArray) (hlq : s.heap.IsList lq qv.toArray) (hp : StrsAre pv ps) (hq : StrsAre qv qs) (hn : ps.length ≤ 20) (hpq : qs.length = ps.length) (hk : k ≤ ps.length) (hle : ∀ y ∈ ps, y.length ≤ 10) (hle2 : ∀ y ∈ qs, y.length ≤ 100)
    (hR : ∀ h' g' tk D ws, Kp s.heap h' → AllBare g' → h'.get? D = some (W.listOf ws.toArray 0) → s.heap.get? D = none → IntsAre ws ((around ps qs k).map fun (n : Nat) => (n : Int)) → R (.ok (.ret (.ref D))) ⟨h', g', s.drawn, tk, s.os⟩) :
    codeAny (model PySem.Challenge.rw_ik0197_01.row.prog w) (ar d u) (.call (.ref 176) ⟨[.ref lp, .ref lq, .int k tk], []⟩) R s := by
  refine enter (binds := [(Str.ofString "pieces", .ref lp), (Str.ofString "steps", .ref lq), (Str.ofString "k", .int k tk)]) X T.nolimit (by k_is) (by k_is) (show d < 1000 by omega) (BindsTo.of_eq rfl) (locs rfl) ?_
  intro L h₁ F N
  dsimp only [List.reverse_cons, List.reverse_nil, List.nil_append, List.length_cons, List.length_nil, List.cons_append] at F ⊢
  repeat' (walk_at "wG")
  refine wpAny_For ?_
  repeat' (walk_at "wG")
  rename_i lf h4 _ D h5 hD h6 h7 h8 F0 N0 h9 tk2 t1 u1 v1 hrg F₁ N₁ hkp9
  have N₂ : News s.heap L h9 ([] ++ [(lf, W.listOf ([] : List Value).toArray 0)]) := fun p hp => N₁ p (by rw [List.mem_singleton.mp hp]; exact .tail _ (.head _))
  have hk21 : k < 21 := by omega
  refine for_range (n := k) (AJ ps qs lp lq k lf) rfl hrg (range_down k hk21).1 (range_down k hk21).2 F₁ N₂ hb rfl rfl (fun i m news hj p hp => ?_) ⟨[], 0, _, rfl, .nil, Nat.zero_le _, rfl, rfl, Nat.le_refl _, Nat.le_refl _, rfl, rfl⟩ (fun j tj m₁ news₁ h g tk I oI' hjk hj hg F N hoff => ?_) (fun m₁ news₁ h g tk hj hg F N => ?_)
  · obtain ⟨fv, nf, t, rfl, _⟩ := hj
    rw [List.mem_singleton.mp hp]; exact Heap.lt_size (N₂ _ (.head _)).1
  · obtain ⟨fv, nf, t, rfl, hf1, hfl, hm1, hm2, hin, hin2, hm3, hm4⟩ := hj
    obtain ⟨i, hi⟩ : ∃ i, i = k - 1 - j := ⟨_, rfl⟩
    have hil : i < qs.length := by omega
    have hik : i < k := by omega
    have ei : ((k : Int) - 1 + j * (-1)) = (i : Int) := by omega
    rw [ei] at F
    change Fr s.heap L h _ at F
    change News s.heap L h _ at N
    have F' := (Fr.know (Fr.know (Fr.know (Fr.know F (a := Str.ofString "found") (by rw [if_neg (by decide)]; exact hm1)) (a := Str.ofString "inner") (by rw [if_neg (by decide), if_neg (by decide)]; exact hm2)) (a := Str.ofString "pieces") (by rw [if_neg (by decide), if_neg (by decide), if_neg (by decide)]; exact hm3)) (a := Str.ofString "steps") (by rw [if_neg (by decide), if_neg (by decide), if_neg (by decide), if_neg (by decide)]; exact hm4))
    clear F F₁ N₁ N₂
    simp only [List.nil_append, List.map_cons, List.map_nil] at N hoff
    have q1 : @Ne Nat I lf := hoff _ (.head _) _ (.head _)
    have hst : (List.range (j + 1)).foldl (fun st j => aStep ps qs st (k - 1 - j)) ([], k) = aStep ps qs ((List.range j).foldl (fun st j => aStep ps qs st (k - 1 - j)) ([], k)) i := by rw [List.range_succ, List.foldl_append, hi]; rfl
    generalize (List.range j).foldl (fun st j => aStep ps qs st (k - 1 - j)) ([], k) = st at hf1 hst F' hm2 hin hin2
    obtain ⟨fd, inn⟩ := st
    dsimp only at hf1 F' hm2 hin hin2
    have hqi : qs[i]? = some qs[i] := List.getElem?_eq_getElem hil
    generalize qs[i] = q at hqi
    obtain ⟨tq, hqv⟩ := StrsAre.get hq i q hqi
    have hql : q.length ≤ 100 := hle2 q (List.mem_of_getElem? hqi)
    have fin : ∀ h6 g6 tk6 m6 all6 fv6 nf6 st6 t6, AllBare g6 → Fr s.heap L h6 m6 → News s.heap L h6 all6 → (I, oI') ∈ all6 → (lf, W.listOf fv6.toArray nf6) ∈ all6 → aStep ps qs (fd, inn) i = st6 → IntsAre fv6 (st6.1.map fun (n : Nat) => (n : Int)) → fv6.length ≤ j + 1 → st6.2 ≤ k → k ≤ st6.2 + (j + 1) →
        m6 (Str.ofString "found") = some (.ref lf) → m6 (Str.ofString "inner") = some (.int (st6.2 : Int) t6) → m6 (Str.ofString "pieces") = some (.ref lp) → m6 (Str.ofString "steps") = some (.ref lq) →
        GoOn s.heap L (I, oI') [] (AJ ps qs lp lq k lf (j + 1)) s ⟨h6, g6, s.drawn, tk6, s.os⟩ :=
      fun h6 g6 tk6 m6 all6 fv6 nf6 st6 t6 hg6 F6 N6 e1 e2 hs hf6 hl6 hk6 hk7 h1 h2 h3 h4 => GoOn.mk hg6 F6 N6 (fun p hp => by
        rcases List.mem_cons.mp hp with rfl | hp
        · exact e1
        · rw [List.mem_singleton.mp hp]; exact e2) ⟨fv6, nf6, t6, rfl, by rw [hst, hs]; exact hf6, hl6, h1, by rw [hst, hs]; exact h2, by rw [hst, hs]; exact hk6, by rw [hst, hs]; exact hk7, h3, h4⟩
    repeat' (walk_at "wG")
    · (with_reducible rename Fr _ _ _ _ => F₁)
      (with_reducible rename News _ _ _ _ => N₁)
      show GoOn _ _ _ _ _ _ _
      refine fin _ _ _ _ _ _ _ _ _ hg F₁ N₁ (by k_mem) (by k_mem) (as_dot (by assumption) hil) hf1 (by omega) hin (by dsimp only; omega) (by walk_at "turnMap0") (by walk_at "turnMap0") (by walk_at "turnMap0") (by walk_at "turnMap0")
    · (with_reducible rename News _ _ _ _ => N₁)
      dsimp only at N₁
      have esl : slicePick pv.toArray (some ((i : Int) + 1)) (some (inn : Int)) none = ((pv.drop (i + 1)).take (inn - (i + 1))).toArray := slicePick_run pv.toArray (i + 1) inn (by have := StrsAre.length hp; simp; omega) (by omega)
      rw [esl] at N₁
      have hss := StrsAre.take' (inn - (i + 1)) (StrsAre.drop' (i + 1) hp)
      have hsb : ∀ y ∈ (ps.drop (i + 1)).take (inn - (i + 1)), y.length ≤ 10 := fun y hy => hle y (List.drop_subset _ _ (List.take_subset _ _ hy))
      have hsl : ((ps.drop (i + 1)).take (inn - (i + 1))).length ≤ 20 := Nat.le_trans (mid_len ..) hn
      have hjl := join_lenC (x := Str.ofString "") hsb
      have e0 : (Str.ofString "").length = 0 := by decide
      rw [e0] at hjl
      refine join_led N₁ (.head _) hss (fun y hy => by have := hsb y hy; omega) (by omega) (by rw [e0]; omega) (fun t' k' _ => ?_)
      generalize hst2 : Txt.join (Str.ofString "") ((ps.drop (i + 1)).take (inn - (i + 1))) = tx at hjl
      have htx : tx.length ≤ 1000 := by omega
      repeat' (walk_at "wG")
      (with_reducible rename Fr _ _ _ _ => F₁)
      refine wpAny_call (check_spec (X.keeps F₁.keep) (T.keeps F₁.keep) (show d + 1 < 450 by omega) htx hg fun h₂ g₂ tk₂ hk₂ hg₂ => ?_)
      have F := Fr.kp F₁ hk₂
      have N := News.kp N₁ hk₂
      clear F₁ N₁
      show wpAny _ _ _ _ _ _
      dsimp only
      have N : News s.heap L h₂ _ := fun p hp => N p (.tail _ hp)
      have hgo := as_go (ps := ps) (st := (fd, inn)) (by assumption) hil
      dsimp only at hgo
      rw [hst2] at hgo
      repeat' (walk_at "wG")
      · (with_reducible rename Fr _ _ _ _ => F₁)
        (with_reducible rename News _ _ _ _ => N₁)
        show GoOn _ _ _ _ _ _ _
        rw [if_pos (by assumption)] at hgo
        refine fin _ _ _ _ _ _ _ _ _ hg₂ F₁ N₁ (by k_mem) (by k_mem) hgo (by rw [List.map_append]; exact hf1.append (.cons _ _ .nil)) (by simp; omega) (by dsimp only; omega) (by dsimp only; omega) (by walk_at "turnMap0") (by walk_at "turnMap0") (by walk_at "turnMap0") (by walk_at "turnMap0")
      · (with_reducible rename Fr _ _ _ _ => F₁)
        (with_reducible rename News _ _ _ _ => N₁)
        show GoOn _ _ _ _ _ _ _
        rw [if_neg (nt (by assumption))] at hgo
        refine fin _ _ _ _ _ _ _ _ _ hg₂ F₁ N₁ (by k_mem) (by k_mem) hgo hf1 (by omega) hin (by dsimp only; omega) (by walk_at "turnMap0") (by walk_at "turnMap0") (by walk_at "turnMap0") (by walk_at "turnMap0")
  · obtain ⟨fv, nf, t, rfl, hf1, hfl, hm1, hm2, hin, hin2, hm3, hm4⟩ := hj
    change Fr s.heap L h _ at F
    change News s.heap L h _ at N
    have F' := Fr.know F (a := Str.ofString "found") hm1
    clear F F₁ N₁ N₂
    show wpAny _ _ _ _ _ _
    simp only [List.nil_append] at N
    repeat' (walk_at "wG")
    (with_reducible rename Fr _ _ _ _ => F₁)
    (with_reducible rename News _ _ _ _ => N₁)
    (with_reducible rename IntsAre _ (List.reverse _) => hI)
    rw [← List.map_reverse] at hI
    exact hR _ _ _ _ _ F₁.keep hg (N₁ _ (.head _)).1 (N₁ _ (.head _)).2.2 hI
end
end
section /- CompX -/
open PyProof.Rows.LCg (NsObj NsObj.ns ns_obj lst lst_snoc)

section
variable {prog : Program} {w : World} {A : Around} {E : Value → Shared → Prop} {s : Shared} {env : Env} {h₀ : Heap} {L : Addr} {m : Str → Option Value}

/-- the outer loop of two -/
theorem comp2_outer {elt iter iter1 : PySem.Expr} {x y : Str} {px py : Pos} {scope : Scope} {pos : Pos} {it acc : Value} {cenv : Env} {R : Result → Shared → Prop} (Inv : Nat → Shared → Prop)
    (turn : ∀ k s, Inv k s → wpAny (model prog w) A (pyNext it) (fun r s₁ => match r with
      | none => R (.ok .next) s₁
      | some v => wpAny (model prog w) A (assign (.Name x px) cenv v) (fun _ s₂ => wpAny (model prog w) A (eval iter1 cenv) (fun xv s₃ => wpAny (model prog w) A (pyIter xv) (fun it' s₄ =>
          codeAny (model prog w) A (.compStart (.ListComp elt [⟨.Name x px, iter, [], 0⟩, ⟨.Name y py, iter1, [], 0⟩] scope pos) 1 it' acc cenv) (fun r s' => match r with | .ok _ => Again Inv k s' | .error _ => False) s₄) (fun _ _ => False) s₃) (fun _ _ => False) s₂) (fun _ _ => False) s₁) (fun _ _ => False) s)
    (hs : ∀ x, foldedSetIterable iter1 cenv x = pure x) (k : Nat) (s : Shared) (h : Inv k s) :
    codeAny (model prog w) A (.compLoop (.ListComp elt [⟨.Name x px, iter, [], 0⟩, ⟨.Name y py, iter1, [], 0⟩] scope pos) 0 it acc cenv) R s := by
  refine codeAny_loop rfl Inv (fun n s hI => ?_) k h
  show wpAny _ A ((compTurn (.ListComp elt [⟨.Name x px, iter, [], 0⟩, ⟨.Name y py, iter1, [], 0⟩] scope pos) 0 it acc cenv).onRaise (fun x => do noteFrame x cenv; theTreesLotGoes x)) _ _ s
  refine wpAny_noted ?_
  have e : compTurn (.ListComp elt [⟨.Name x px, iter, [], 0⟩, ⟨.Name y py, iter1, [], 0⟩] scope pos) 0 it acc cenv = (standAt iter.pos >>= fun _ => pyNext it >>= fun r => match r with
      | none => pure (.done .next)
      | some v => letOwnedTupleGo (.Name x px) it v >>= fun _ => assign (.Name x px) cenv v >>= fun _ =>
        eval iter1 cenv >>= fun xv => standAt iter1.pos >>= fun _ => foldedSetIterable iter1 cenv xv >>= fun xv => holding [xv] (pyIter xv) >>= fun it' =>
          runOwn (.compStart (.ListComp elt [⟨.Name x px, iter, [], 0⟩, ⟨.Name y py, iter1, [], 0⟩] scope pos) 1 it' acc cenv) cenv >>= fun _ =>
          again (.compLoop (.ListComp elt [⟨.Name x px, iter, [], 0⟩, ⟨.Name y py, iter1, [], 0⟩] scope pos) 0 it acc cenv)) := by rfl
  rw [e]
  have calm : ∀ {α : Type} {t : Sem α} {Q : α → Shared → Prop} {E' : Value → Shared → Prop} {s' : Shared}, wpAny (model prog w) A t Q (fun _ _ => False) s' → wpAny (model prog w) A t Q E' s' := fun h => wpAny_mono h (fun _ _ x => x) fun _ _ x => x.elim
  refine wpAny_bind (wpAny_standAt (wpAny_bind (wpAny_mono (turn n s hI) (fun r s₁ h₁ => ?_) fun _ _ x => x.elim)))
  cases r with
  | none => exact wpAny_pure h₁
  | some v =>
    refine wpAny_bind (wpAny_of_eq (a := ()) rfl ?_)
    refine wpAny_bind (wpAny_mono h₁ (fun _ s₂ h₂ => ?_) fun _ _ x => x.elim)
    refine wpAny_bind (wpAny_mono h₂ (fun xv s₃ h₃ => ?_) fun _ _ x => x.elim)
    refine wpAny_bind (wpAny_standAt ?_)
    refine wpAny_bind (wpAny_of_eq (hs xv) ?_)
    refine wpAny_bind (wpAny_holding (wpAny_mono h₃ (fun it' s₄ h₄ => ?_) fun _ _ x => x.elim))
    refine wpAny_bind (wpAny_runOwn ?_)
    rw [Around.mark_none]
    refine codeAny_mono h₄ fun r s₅ h₅ => ?_
    cases r with
    | ok f => exact wpAny_pure ⟨rfl, h₅⟩
    | error x => exact h₅.elim

/-- the inner loop of two -/
theorem comp2_inner {elt iter iter1 : PySem.Expr} {x y : Str} {px py : Pos} {scope : Scope} {pos : Pos} {it acc : Value} {cenv : Env} {R : Result → Shared → Prop} (Inv : Nat → Shared → Prop)
    (turn : ∀ k s, Inv k s → wpAny (model prog w) A (pyNext it) (fun r s₁ => match r with
      | none => R (.ok .next) s₁
      | some v => wpAny (model prog w) A (assign (.Name y py) cenv v) (fun _ s₂ => wpAny (model prog w) A (eval elt cenv) (fun xv s₃ => wpAny (model prog w) A (call (.builtin "list.append") [acc, xv]) (fun _ s₄ => Again Inv k s₄) (fun _ _ => False) s₃) (fun _ _ => False) s₂) (fun _ _ => False) s₁) (fun _ _ => False) s)
    (k : Nat) (s : Shared) (h : Inv k s) :
    codeAny (model prog w) A (.compLoop (.ListComp elt [⟨.Name x px, iter, [], 0⟩, ⟨.Name y py, iter1, [], 0⟩] scope pos) 1 it acc cenv) R s := by
  refine codeAny_loop rfl Inv (fun n s hI => ?_) k h
  show wpAny _ A ((compTurn (.ListComp elt [⟨.Name x px, iter, [], 0⟩, ⟨.Name y py, iter1, [], 0⟩] scope pos) 1 it acc cenv).onRaise (fun x => do noteFrame x cenv; theTreesLotGoes x)) _ _ s
  refine wpAny_noted ?_
  have e : compTurn (.ListComp elt [⟨.Name x px, iter, [], 0⟩, ⟨.Name y py, iter1, [], 0⟩] scope pos) 1 it acc cenv = (standAt iter1.pos >>= fun _ => pyNext it >>= fun r => match r with
      | none => pure (.done .next)
      | some v => letOwnedTupleGo (.Name y py) it v >>= fun _ => assign (.Name y py) cenv v >>= fun _ =>
        (eval elt cenv >>= fun x => call (.builtin "list.append") [acc, x] >>= fun _ => pure ()) >>= fun _ =>
          again (.compLoop (.ListComp elt [⟨.Name x px, iter, [], 0⟩, ⟨.Name y py, iter1, [], 0⟩] scope pos) 1 it acc cenv)) := by rfl
  rw [e]
  refine wpAny_bind (wpAny_standAt (wpAny_bind (wpAny_mono (turn n s hI) (fun r s₁ h₁ => ?_) fun _ _ x => x.elim)))
  cases r with
  | none => exact wpAny_pure h₁
  | some v =>
    refine wpAny_bind (wpAny_of_eq (a := ()) rfl ?_)
    refine wpAny_bind (wpAny_mono h₁ (fun _ s₂ h₂ => ?_) fun _ _ x => x.elim)
    refine wpAny_bind (wpAny_bind (wpAny_mono h₂ (fun xv s₃ h₃ => ?_) fun _ _ x => x.elim))
    refine wpAny_bind (wpAny_mono h₃ (fun _ s₄ h₄ => ?_) fun _ _ x => x.elim)
    exact wpAny_pure (wpAny_pure ⟨rfl, h₄⟩)

theorem comp2_start {elt iter iter1 : PySem.Expr} {x y : Str} {px py : Pos} {scope : Scope} {pos : Pos} {it acc : Value} {cenv : Env} {R : Result → Shared → Prop}
    (h0 : codeAny (model prog w) A (.compLoop (.ListComp elt [⟨.Name x px, iter, [], 0⟩, ⟨.Name y py, iter1, [], 0⟩] scope pos) 1 it acc cenv) R s)
    (h : wpAny (model prog w) A (pyIter it) (fun it' s' => codeAny (model prog w) A (.compLoop (.ListComp elt [⟨.Name x px, iter, [], 0⟩, ⟨.Name y py, iter1, [], 0⟩] scope pos) 1 it' acc cenv) R s')
      (notedBy (model prog w) A cenv fun x s' => R (.error x) s') s) :
    codeAny (model prog w) A (.compStart (.ListComp elt [⟨.Name x px, iter, [], 0⟩, ⟨.Name y py, iter1, [], 0⟩] scope pos) 1 it acc cenv) R s := by
  refine codeAny_of_tree ?_
  show wpAny _ _ ((compStart (.ListComp elt [⟨.Name x px, iter, [], 0⟩, ⟨.Name y py, iter1, [], 0⟩] scope pos) 1 it acc cenv).onRaise (fun x => do noteFrame x cenv; standAt theWindowsPlace)) _ _ s
  refine wpAny_notedAt ?_
  unfold compStart
  show wpAny _ _ (ask >>= _) _ _ s
  refine wpAny_bind (wpAny_askSetting (wpAny_ite ?_))
  split
  · first
      | exact wpAny_bind (wpAny_pure (wpAny_pure (And.intro rfl h0)))
      | exact wpAny_pure (And.intro rfl h0)
  · refine wpAny_bind (wpAny_rule ?_)
    show wpAny _ _ (standAt iter1.pos >>= _) _ _ s
    exact wpAny_bind (wpAny_standAt (wpAny_bind (wpAny_mono h (fun it' s' h' => wpAny_pure (And.intro rfl h')) fun _ _ x => x)))
end
noncomputable def repsTo (cnt : Nat → Nat) (vs : List Value) : Nat → List Value
  | 0 => []
  | i + 1 => repsTo cnt vs i ++ List.replicate (cnt i) (vs.getD i .none)
theorem repsTo_length (cnt : Nat → Nat) (vs : List Value) (c : Nat) (h : ∀ i, cnt i ≤ c) : ∀ i, (repsTo cnt vs i).length ≤ i * c
  | 0 => Nat.zero_le _
  | i + 1 => by
    have h1 := repsTo_length cnt vs c h i
    have h2 := h i
    rw [repsTo, List.length_append, List.length_replicate, Nat.succ_mul]
    omega

theorem walks_str {prog : Program} {w : World} {A : Around} (hh : A.handled = none) (I : Addr) (x : Str) (t : Tok) : Walks prog w A I [I] [I] x.cps.size (SignAt x) (fun i h => h.IsStrIter I (strIterType x) x t i) := by
  cases ha : x.cps.all (· < 128)
  · have e : strIterType x = "str_iterator" := by simp [strIterType, ha]
    rw [e]; exact Walks.strWide hh I x t
  · have e : strIterType x = "str_ascii_iterator" := by simp [strIterType, ha]
    rw [e]; exact Walks.strAscii hh I x t

/-- `[x for x in l for y in text(x)]` -/
theorem comp2_repeat {prog : Program} {w : World} {A : Around} {E : Value → Shared → Prop} {s : Shared} {env : Env} {h₀ : Heap} {L : Addr} {m : Str → Option Value} {iter iter1 : PySem.Expr} {x y : Str} {ex px py : Pos} {scope : Scope} {cl : List (Str × Addr)} {pos : Pos} {l : Addr} {vs : List Value} {keep : List (Addr × Obj)} {Q : Value → Shared → Prop}
    (cnt : Nat → Nat) (hcnt : ∀ i, cnt i ≤ 100) (hh : A.handled = none) (hl : s.heap.IsList l vs.toArray) (hsz : vs.length ≤ 100)
    (hcell : ∀ y ∈ scope.names, y.2 ≠ .cell) (hkind : scope.kind = .function) (hx : scope.names.lookup x = some .local) (hy : scope.names.lookup y = some .local) (hxy : x ≠ y) (hdb : (x == ("__debug__" : Str)) = false)
    (hs : ∀ C x, foldedSetIterable iter1 (compEnvC scope cl C env) x = pure x)
    (F : Fr h₀ L s.heap m) (N : News h₀ L s.heap keep) (hin : (∃ o, h₀.get? l = some o) ∨ ∃ o, (l, o) ∈ keep) (hb : AllBare s.gens)
    (turn : ∀ i v ys I C D oI oC m₂ h g tk, vs[i]? = some v → NsObj oC m₂ → m₂ x = some v → Fr h₀ L h m → News h₀ L h ((I, oI) :: (C, oC) :: (D, lst ys) :: keep) → (∀ p ∈ keep, p.1 ≠ I ∧ p.1 ≠ C ∧ p.1 ≠ D) → ((@Ne Nat I C) ∧ (@Ne Nat I D) ∧ (@Ne Nat C D)) →
      wpAny (model prog w) A (eval iter1 (compEnvC scope cl C env)) (fun xv s₃ => ∃ txt t h₃ tk₃, xv = .str txt t ∧ txt.length = cnt i ∧ s₃ = ⟨h₃, g, s.drawn, tk₃, s.os⟩ ∧ Fr h₀ L h₃ m ∧ News h₀ L h₃ ((I, oI) :: (C, oC) :: (D, lst ys) :: keep)) (fun _ _ => False) ⟨h, g, s.drawn, tk, s.os⟩)
    (done : ∀ D h g tk, AllBare g → Fr h₀ L h m → News h₀ L h ((D, lst (repsTo cnt vs vs.length)) :: keep) → (∀ p ∈ keep, p.1 ≠ D) → Q (.ref D) ⟨h, g, s.drawn, tk, s.os⟩) :
    CompIn prog w A E env (.ListComp (.Name x ex) [⟨.Name x px, iter, [], 0⟩, ⟨.Name y py, iter1, [], 0⟩] scope pos) scope cl Q (.ref l) s := by
  refine wpAny_pyIter_list hl ?_
  have hlt : l < s.heap.objs.size := let ⟨o, ho, _⟩ := hl; Heap.lt_size ho
  have W := Walks.list (prog := prog) (w := w) hh s.heap.objs.size l (Nat.ne_of_lt hlt) vs.toArray
  rw [show vs.toArray.size = vs.length from rfl] at W
  have hkp : Kp s.heap (s.heap.push { cls := .type "list_iterator", data := .fields #[.ref l, .int 0 0] }) := fun b o e => Heap.get?_push_of_some _ e
  have hL := ltN F.ns.lt
  have N2 : News h₀ L (s.heap.push { cls := .type "list_iterator", data := .fields #[.ref l, .int 0 0] }) ((s.heap.objs.size, { cls := .type "list_iterator", data := .fields #[.ref l, .int 0 0] }) :: keep) := fun p hp => by
    rcases List.mem_cons.mp hp with rfl | hp
    · refine ⟨Heap.get?_push_size _ rfl, Nat.ne_of_gt hL, ?_⟩
      cases hq : h₀.get? s.heap.objs.size with
      | none => rfl
      | some o' => exact absurd (Heap.lt_size (F.keep _ _ hq)) (Nat.lt_irrefl _)
    · exact News.kp N hkp p hp
  have hsz1 : (s.heap.push { cls := .type "list_iterator", data := .fields #[.ref l, .int 0 0] }).objs.size = s.heap.objs.size + 1 := Heap.size_push ..
  have hst : (fun i (h : Heap) => h.IsListIter s.heap.objs.size l i ∧ h.IsList l vs.toArray) 0 (s.heap.push { cls := .type "list_iterator", data := .fields #[.ref l, .int 0 0] }) := ⟨⟨_, Heap.get?_push_size _ rfl, rfl, rfl⟩, hl.push _⟩
  have hkd : ∀ p ∈ keep, p.1 ≠ s.heap.objs.size ∧ p.1 ≠ s.heap.objs.size + 1 + 1 ∧ p.1 ≠ s.heap.objs.size + 1 := fun p hp => by
    have z : @LT.lt Nat _ p.1 s.heap.objs.size := Heap.lt_size (N p hp).1
    exact ⟨(by show @Ne Nat p.1 s.heap.objs.size; omega), (by show @Ne Nat p.1 (s.heap.objs.size + 1 + 1); omega), (by show @Ne Nat p.1 (s.heap.objs.size + 1); omega)⟩
  have n1 : @Ne Nat s.heap.objs.size (s.heap.objs.size + 1 + 1) := by omega
  have n2 : @Ne Nat s.heap.objs.size (s.heap.objs.size + 1) := by omega
  have n3 : @Ne Nat (s.heap.objs.size + 1 + 1) (s.heap.objs.size + 1) := by omega
  refine comp_begin (RR := fun acc C => compPost (model prog w) A E none Q acc C) hcell hkind (Fr.kp F hkp) N2 (fun h₁ tk Q' E' kp hq => W.self 0 _ _ _ (W.frame _ _ _ hst fun b _ o e => kp b o e) hq) fun h₁ oC tk hC F₁ N₁ kp => ?_
  dsimp only at F₁ N₁ kp ⊢
  rw [hsz1] at N₁ ⊢
  generalize s.heap.objs.size = I0 at W hst hkd n1 n2 n3 N₁ ⊢
  refine comp_walksG (lo := lst) (s := { s with heap := h₁, toks := tk }) (news₀ := []) (keep := keep)
    (fun P s₂ => wpAny (model prog w) A (eval iter1 (compEnvC scope cl (I0 + 1 + 1) env)) (fun xv s₃ => wpAny (model prog w) A (pyIter xv) (fun it' s₄ =>
          codeAny (model prog w) A (.compStart (.ListComp (.Name x ex) [⟨.Name x px, iter, [], 0⟩, ⟨.Name y py, iter1, [], 0⟩] scope pos) 1 it' (.ref (I0 + 1)) (compEnvC scope cl (I0 + 1 + 1) env)) (fun r s' => match r with | .ok _ => P s' | .error _ => False) s₄) (fun _ _ => False) s₃) (fun _ _ => False) s₂)
    (fun P P' s hP h => wpAny_mono h (fun xv s₃ h₃ => wpAny_mono h₃ (fun it' s₄ h₄ => codeAny_mono h₄ fun r s₅ h₅ => by cases r with | ok _ => exact hP _ h₅ | error _ => exact h₅) fun _ _ x => x) fun _ _ x => x)
    (fun Inv t k s' hI => comp2_outer Inv t (hs _) k s' hI)
    (fun _ => True) (fun _ _ _ => trivial) (fun i ys news => ys = repsTo cnt vs i ∧ news = []) W (fun i h st => let ⟨o, ho, _⟩ := st.1; ⟨o, ho⟩) hkind hx (W.frame _ _ _ hst fun b _ o e => kp b o e) F₁ (by rw [List.append_nil]; exact N₁) hC trivial
    (fun b hb => ?_) hkd (fun p hp => by cases hp) n1 n2 n3 hb ⟨rfl, rfl⟩
    (fun i v ys news oI oC m₂ h g tk hi hP hj hg hC hm _ F N hoff => ?_)
    (fun ys news oC m₂ h g tk hj hg hC _ F N hoff => ?_)
  · rcases List.mem_cons.mp hb with rfl | hb
    · exact .inl rfl
    · rw [List.mem_singleton.mp hb]; exact .inr hin
  · obtain ⟨rfl, rfl⟩ := hj
    rw [List.append_nil] at N
    have hv : vs[i]? = some v := by simpa using hP
    refine wpAny_mono (turn i v _ _ _ _ oI oC m₂ h g tk hv hC hm F N hkd ⟨n1, n2, n3⟩) (fun xv s₃ h₃ => ?_) fun _ _ x => x.elim
    obtain ⟨txt, t, h₃, tk₃, rfl, htl, rfl, F₃, N₃⟩ := h₃
    refine wpAny_pyIter_strU ?_
    have W2 := walks_str (prog := prog) (w := w) hh h₃.objs.size txt t
    have kp2 : Kp h₃ (h₃.push { cls := .type (strIterType txt), data := .fields #[.str txt t, .int 0 0] }) := fun b o e => Heap.get?_push_of_some _ e
    have hst2 : (h₃.push { cls := .type (strIterType txt), data := .fields #[.str txt t, .int 0 0] }).IsStrIter h₃.objs.size (strIterType txt) txt t 0 := ⟨_, Heap.get?_push_size _ rfl, rfl, rfl⟩
    have big : ∀ p ∈ (I0, oI) :: (I0 + 1 + 1, oC) :: (I0 + 1, lst (repsTo cnt vs i)) :: keep, @Ne Nat p.1 h₃.objs.size := fun p hp => Nat.ne_of_lt (Heap.lt_size (N₃ p hp).1)
    have hL3 := ltN F₃.ns.lt
    have N4 : News h₀ L (h₃.push { cls := .type (strIterType txt), data := .fields #[.str txt t, .int 0 0] }) ((h₃.objs.size, { cls := .type (strIterType txt), data := .fields #[.str txt t, .int 0 0] }) :: (I0 + 1 + 1, oC) :: (I0 + 1, lst (repsTo cnt vs i)) :: (((I0, oI) :: keep) ++ [])) := fun p hp => by
      rcases List.mem_cons.mp hp with rfl | hp
      · refine ⟨Heap.get?_push_size _ rfl, (by show @Ne Nat h₃.objs.size L; omega), ?_⟩
        cases hq : h₀.get? h₃.objs.size with
        | none => rfl
        | some o' => exact absurd (Heap.lt_size (F₃.keep _ _ hq)) (Nat.lt_irrefl _)
      · rw [List.append_nil] at hp
        refine News.kp N₃ kp2 p ?_
        rcases List.mem_cons.mp hp with rfl | hp
        · exact .tail _ (.head _)
        · rcases List.mem_cons.mp hp with rfl | hp
          · exact .tail _ (.tail _ (.head _))
          · rcases List.mem_cons.mp hp with rfl | hp
            · exact .head _
            · exact .tail _ (.tail _ (.tail _ hp))
    have loop : ∀ s₅ : Shared, s₅ = ⟨h₃.push { cls := .type (strIterType txt), data := .fields #[.str txt t, .int 0 0] }, g, s.drawn, tk₃, s.os⟩ →
        codeAny (model prog w) A (.compLoop (.ListComp (.Name x ex) [⟨.Name x px, iter, [], 0⟩, ⟨.Name y py, iter1, [], 0⟩] scope pos) 1 (.ref h₃.objs.size) (.ref (I0 + 1)) (compEnvC scope cl (I0 + 1 + 1) env)) (fun r s' => match r with
          | .ok _ => CompGoG lst h₀ L m { s with heap := h₁, toks := tk } keep I0 (I0 + 1 + 1) (I0 + 1) oI (fun _ => True) (fun ys news => ys = repsTo cnt vs (i + 1) ∧ news = []) s'
          | .error _ => False) s₅ := by
      rintro s₅ rfl
      refine comp_walksG (lo := lst) (s := ⟨h₃.push { cls := .type (strIterType txt), data := .fields #[.str txt t, .int 0 0] }, g, s.drawn, tk₃, s.os⟩) (news₀ := []) (keep := (I0, oI) :: keep)
        (fun P s₂ => wpAny (model prog w) A (eval (.Name x ex) (compEnvC scope cl (I0 + 1 + 1) env)) (fun xv s₃ => wpAny (model prog w) A (call (.builtin "list.append") [.ref (I0 + 1), xv]) (fun _ s₄ => P s₄) (fun _ _ => False) s₃) (fun _ _ => False) s₂)
        (fun P P' s hP h => wpAny_mono h (fun xv s₃ h₃ => wpAny_mono h₃ (fun _ s₄ h₄ => hP _ h₄) fun _ _ x => x) fun _ _ x => x)
        (fun Inv t k s' hI => comp2_inner Inv t k s' hI)
        (fun m' => m' x = some v) (fun m' u hm' => by show (if x = y then some u else m' x) = some v; rw [if_neg hxy]; exact hm')
        (fun j ys news => ys = repsTo cnt vs i ++ List.replicate j v ∧ news = []) W2 (fun i h st => let ⟨o, ho, _⟩ := st; ⟨o, ho⟩) hkind hy hst2 (Fr.kp F₃ kp2) (by rw [List.replicate_zero, List.append_nil]; exact N4) hC hm
        (fun b hb => .inl (List.mem_singleton.mp hb)) (fun p hp => ?_) (fun p hp => by cases hp) (Ne.symm (big _ (.tail _ (.head _)))) (Ne.symm (big _ (.tail _ (.tail _ (.head _))))) n3 hg ⟨rfl, rfl⟩
        (fun j u ys news oI2 oC2 m₃ h4 g4 tk4 hj4 hP4 hj5 hg4 hC4 hm4 hmok F4 N5 hoff4 => ?_)
        (fun ys news oC2 m₃ h4 g4 tk4 hj4 hg4 hC4 hmok F4 N5 hoff4 => ?_)
      · rcases List.mem_cons.mp hp with rfl | hp
        · exact ⟨big _ (.head _), n1, n2⟩
        · exact ⟨big _ (.tail _ (.tail _ (.tail _ hp))), (hkd p hp).2.1, (hkd p hp).2.2⟩
      · obtain ⟨rfl, rfl⟩ := hj5
        rw [List.append_nil] at N5
        refine wpAny_Name (wpAny_loadName_local (by simp [compEnvC, relabel, hkind]) (lookup_relabel_local hx) (hC4.ns (N5 _ (.tail _ (.head _))).1) hmok ?_) hdb
        have hDL := (N5 _ (.tail _ (.tail _ (.head _)))).2
        have hCL := (N5 _ (.tail _ (.head _))).2
        have hlen : (repsTo cnt vs i ++ List.replicate j v).length ≤ 1000000 := by
          have h1 := repsTo_length cnt vs 100 hcnt i
          have h2 : j < txt.length := hj4
          have h3 := hcnt i
          rw [List.length_append, List.length_replicate]
          omega
        refine append_at (hsz := by rw [List.size_toArray, PySem.sizeLine_eq]; omega) (N5 _ (.tail _ (.tail _ (.head _)))).1 fun h₅ hs₅ hD₅ => ?_
        refine ⟨h₅, g4, tk4, repsTo cnt vs i ++ List.replicate (j + 1) v, [], oC2, m₃, rfl, hg4, F4.change hs₅ hDL.1 hDL.2, fun p hp => ?_, hC4, hmok, fun p hp => (by cases hp), rfl, rfl⟩
        rw [List.append_nil] at hp
        rcases List.mem_cons.mp hp with rfl | hp
        · exact ⟨hs₅.extBut _ _ (Ne.symm (big _ (.tail _ (.tail _ (.head _))))) (N5 _ (.head _)).1, (N5 _ (.head _)).2⟩
        · rcases List.mem_cons.mp hp with rfl | hp
          · exact ⟨hs₅.extBut _ _ n3 (N5 _ (.tail _ (.head _))).1, hCL⟩
          · rcases List.mem_cons.mp hp with rfl | hp
            · refine ⟨hD₅.trans (congrArg some ?_), hDL⟩
              rw [lst_snoc, List.replicate_succ', List.append_assoc]
            · have z := N5 p (.tail _ (.tail _ (.tail _ hp)))
              refine ⟨hs₅.extBut _ _ ?_ z.1, z.2⟩
              rcases List.mem_cons.mp hp with rfl | hp
              · exact n2
              · exact (hkd p hp).2.2
      · obtain ⟨rfl, rfl⟩ := hj4
        rw [List.append_nil] at N5
        have e : repsTo cnt vs i ++ List.replicate txt.cps.size v = repsTo cnt vs (i + 1) := by
          rw [repsTo, ← htl, List.getD_eq_getElem?_getD, hv]; rfl
        rw [e] at N5
        refine ⟨h4, g4, tk4, repsTo cnt vs (i + 1), [], oC2, m₃, rfl, hg4, F4, fun p hp => N5 p ?_, hC4, trivial, fun p hp => (by cases hp), rfl, rfl⟩
        rw [List.append_nil] at hp
        rcases List.mem_cons.mp hp with rfl | hp
        · exact .tail _ (.tail _ (.head _))
        · rcases List.mem_cons.mp hp with rfl | hp
          · exact .head _
          · rcases List.mem_cons.mp hp with rfl | hp
            · exact .tail _ (.head _)
            · exact .tail _ (.tail _ (.tail _ hp))
    exact comp2_start (loop _ rfl) (W2.self 0 _ _ _ hst2 (loop _ rfl))
  · obtain ⟨rfl, rfl⟩ := hj
    rw [List.append_nil] at N
    have hCL := (N _ (.head _)).2
    refine ⟨m₂, hC.ns (N _ (.head _)).1, fun h' hs => done _ h' g tk hg (F.change hs hCL.1 hCL.2) (fun p hp => ?_) (fun p hp => (hkd p hp).2.2)⟩
    have z := N p (.tail _ hp)
    refine ⟨hs.extBut _ _ ?_ z.1, z.2⟩
    rcases List.mem_cons.mp hp with rfl | hp
    · exact Ne.symm n3
    · exact (hkd p hp).2.1

theorem enterC {w : World} {A : Around} {s : Shared} {K : Frag} {R : Result → Shared → Prop} {name qual : Str} {params : Arguments} {body : List Stmt} {scope : Scope} {dV kV doc pm cdv ct oc : Value} {an od : Option Addr} {osl : Array (Option Value)} {f : Addr} {args : Args} {binds : List (Str × Value)}
    (X : K.In s.heap) (hlim : s.heap.NoLimit)
    (ho : K.lookup f = some ⟨oc, od, .func (fnOf name qual params body scope dV kV doc pm an cdv ct), osl⟩) (hcd : codeIn K cdv qual = true) (hroom : A.depth < recursionLimit)
    (hbind : BindsTo s (fnOf name qual params body scope dV kV doc pm an cdv ct) args binds) (hkind : (binds.all fun y => scope.names.lookup y.1 == some .local || scope.names.lookup y.1 == some .cell) = true)
    (hnd : ((cellsFrom 0 scope.names []).map (·.1)).Nodup)
    (h : ∀ L h₁ tk cells, Fr s.heap L h₁ (bindL (envOfC qual scope L f cdv).kindOf binds fun _ => none) → News s.heap L h₁ cells →
      CellsAre (bindC (envOfC qual scope L f cdv).kindOf binds fun _ => none) (cellsFrom (L + 1) scope.names []) cells →
      wpAny (model PySem.Challenge.rw_ik0197_01.row.prog w) (A.deeper (envOfC qual scope L f cdv)) (execs body (envOfC qual scope L f cdv))
        (fun fl s' => R (.ok (.ret (match fl with | .ret v => v | _ => .none))) s') (fun _ _ => False)
        { s with heap := h₁, toks := tk })
    (hco : scope.isCoroutine = false := by rfl) (hgen : scope.isGenerator = false := by rfl) (hk : scope.kind = .function := by rfl) :
    codeAny (model PySem.Challenge.rw_ik0197_01.row.prog w) A (.call (.ref f) args) R s := by
  refine codeAny_call_function hroom (X _ _ ho) rfl hco hgen rfl (codeRec_of X hcd) (hbind _ _ _ _ ?_)
  refine wpAny_newFunctionEnv_cells hk (kindsX hkind _) fun env' he s' x => ?_
  subst he
  refine ⟨hlim.keeps x.toInCall.keep, codeAny_func ?_⟩
  obtain ⟨h₁, tk, rfl, _⟩ := x.done
  have hk₁ := x.toInCall.keep
  obtain ⟨cells, NC, Y⟩ := Cl.news (h₀ := s.heap) (Nat.le_refl _) fun n c hm => ⟨x.cell n c (lookup_of_mem_nodup (cellsFrom_names scope.names 0 (s.heap.objs.size + 1) [] [] rfl ▸ hnd) hm), x.above n c hm⟩
  exact wpAny_mono (h s.heap.objs.size h₁ tk cells ⟨x.toInCall.ns, fun b o e => hk₁ b o e, Nat.le_refl _⟩ NC Y) (fun _ _ y => y) fun _ _ y => y.elim
end
section /- SignsA -/
open PyProof.Rows.LCg (NsObj NsObj.ns ns_obj lst lst_snoc)

noncomputable def sCnt (ps : List Str) (rs : List Nat) (times i : Nat) : Nat := (ps.getD (rs.getD i 0) Str.empty).length * times
theorem sCnt_le {ps : List Str} {rs : List Nat} {times i : Nat} (hle : ∀ y ∈ ps, y.length ≤ 10) (ht : times ≤ 2) : sCnt ps rs times i ≤ 100 := by
  unfold sCnt
  have h : (ps.getD (rs.getD i 0) Str.empty).length ≤ 10 := by
    rw [List.getD_eq_getElem?_getD]
    cases e : ps[rs.getD i 0]? with
    | none => exact Nat.zero_le _
    | some y => exact hle y (List.mem_of_getElem? e)
  have := Nat.mul_le_mul h ht
  omega
noncomputable def signsTo (ps : List Str) (rs : List Nat) (times : Nat) : Nat → List Nat
  | 0 => []
  | i + 1 => signsTo ps rs times i ++ List.replicate (sCnt ps rs times i) (rs.getD i 0)
noncomputable def signs (ps : List Str) (rs : List Nat) (times : Nat) : List Nat := signsTo ps rs times rs.length
theorem ints_replicate (n : Int) (t : Tok) : ∀ k, IntsAre (List.replicate k (.int n t)) (List.replicate k n)
  | 0 => .nil
  | k + 1 => .cons n t (ints_replicate n t k)
theorem signs_ints (ps : List Str) {rs : List Nat} {rv : List Value} {times : Nat} (hr : IntsAre rv (rs.map fun (n : Nat) => (n : Int))) : ∀ i, i ≤ rs.length → IntsAre (repsTo (sCnt ps rs times) rv i) ((signsTo ps rs times i).map fun (n : Nat) => (n : Int))
  | 0, _ => .nil
  | i + 1, hi => by
    rw [repsTo, signsTo, List.map_append, List.map_replicate]
    refine (signs_ints ps hr i (by omega)).append ?_
    have hn : rs[i]? = some rs[i] := List.getElem?_eq_getElem (by omega)
    obtain ⟨t, hv⟩ := IntsAre.get hr i (rs[i] : Nat) (by rw [List.getElem?_map, hn]; rfl)
    rw [List.getD_eq_getElem?_getD, hv, List.getD_eq_getElem?_getD, hn]
    exact ints_replicate _ _ _
theorem signs_spec {w : World} {mg mb : Str → Option Value} {mean : ExcName → Option Value} {s : Shared} {d u : Nat} {lp lr : Addr} {pv rv : List Value} {ps : List Str} {rs : List Nat} {times : Nat} {tk : Tok} {R : Result → Shared → Prop}
    (X : (hd.heap_1 w.params).In s.heap) (T : Top view39 (looseW view39 []) mean mg mb s.heap) (hd : d < 430) (hb : AllBare s.gens)
    (hlp : s.heap.IsList lp pv.toArray) (hlr : s.heap.IsList lr rv.toArray) (hp : StrsAre pv ps) (hr : IntsAre rv (rs.map fun (n : Nat) => (n : Int))) (hn : rs.length ≤ 20) (hin : ∀ i ∈ rs, i < ps.length) (hpn : ps.length ≤ 20) (hle : ∀ y ∈ ps, y.length ≤ 10) (htm : times ≤ 2)
    (hR : ∀ h' g' tk D ys, Kp s.heap h' → AllBare g' → h'.get? D = some (lst ys) → s.heap.get? D = none → IntsAre ys ((signs ps rs times).map fun (n : Nat) => (n : Int)) → R (.ok (.ret (.ref D))) ⟨h', g', s.drawn, tk, s.os⟩) :
    codeAny (model PySem.Challenge.rw_ik0197_01.row.prog w) (ar d u) (.call (.ref 186) ⟨[.ref lp, .ref lr, .int times tk], []⟩) R s := by
  refine enterC (binds := [(Str.ofString "pieces", .ref lp), (Str.ofString "row", .ref lr), (Str.ofString "times", .int times tk)]) X T.nolimit (by k_is) (by k_is) (show d < 1000 by omega) (BindsTo.of_eq rfl) (by rfl) (by decide +kernel) ?_
  intro L h₁ tk' cells' F N Y'
  k_cells Y'
  try simp only [List.cons_append, List.nil_append] at N
  try dsimp only
  repeat' (walk_at "wG")
  refine comp_eval (by rfl) (by rfl) (by decide) ?_
  repeat' (walk_at "wG")
  have hrl : rv.length = rs.length := by have := IntsAre.length hr; simpa using this
  refine comp2_repeat (sCnt ps rs times) (fun i => sCnt_le hle htm) rfl (hlr.at fun o e => F.keep _ _ e) (by omega) (by decide) rfl rfl rfl (by decide) (by decide) (fun _ _ => by rfl) F N (.inl ⟨_, hlr.choose_spec.1⟩) hb
    (fun i v ys I C D oI oC m₂ h g tk hv hC hm F N hoff hne => ?_) (fun D h g tk hg F N hoff => ?_)
  · obtain ⟨n', t, rfl, hn'⟩ := IntsAre.nth hr hv
    rw [List.getElem?_map] at hn'
    obtain ⟨n, hn2, rfl⟩ := Option.map_eq_some_iff.mp hn'
    have hnm := hin n (List.mem_of_getElem? hn2)
    have hqi : ps[n]? = some ps[n] := List.getElem?_eq_getElem hnm
    obtain ⟨tq, hqv⟩ := StrsAre.get hp n _ hqi
    have hql : ps[n].length ≤ 10 := hle _ (List.mem_of_getElem? hqi)
    have hgd : (ps.getD (n : Int).toNat Str.empty).length ≤ 10 := by rw [Int.toNat_natCast, List.getD_eq_getElem?_getD, hqi]; exact hql
    repeat' (walk_at "wG")
    · have h1 := len_mul (ps.getD (n : Int).toNat Str.empty) (times : Int)
      have h0 : ¬ ((times : Int) < 0) := by omega
      rw [if_neg (by simpa using h0)] at h1
      unfold sCnt
      rw [List.getD_eq_getElem?_getD (l := rs), hn2]
      rw [Int.toNat_natCast] at h1 ⊢
      show _ = (ps.getD n Str.empty).length * times
      exact_mod_cast h1
    · with_reducible assumption
    · with_reducible assumption
  · refine hR _ _ _ D _ F.keep hg (N _ (.head _)).1 (N _ (.head _)).2.2 ?_
    rw [hrl]
    exact signs_ints ps hr rs.length (Nat.le_refl _)
end
section /- HoldA -/
/-- an exception with its traceback, held in the ledger; `fl` is the frame in flight, `c` the context -/
structure HeldX (h₀ : Heap) (L' L : Addr) (oL : Obj) (m : Str → Option Value) (e : Addr) (fl c : Value) (rest : List (Addr × Obj)) (oe : Obj) (tb : Addr) (otb : Obj) (sl : Array (Option Value)) (h : Heap) : Prop where
  fr : Fr h₀ L' h m
  news : News h₀ L' h ((e, oe) :: (tb, otb) :: (L, { oL with slots := sl }) :: rest)
  cls : oe.cls = .type "IndexError"
  dat : ∃ vs, oe.data = .fields vs ∧ vs[1]? = some (.ref tb) ∧ vs[2]? = some c
  tbd : ∃ tvs, otb.data = .fields tvs ∧ tvs[3]? = some fl
  ne1 : @Ne Nat e tb
  ne2 : @Ne Nat e L
  ne3 : @Ne Nat tb L
  off : ∀ p ∈ rest, p.1 ≠ e ∧ p.1 ≠ tb ∧ p.1 ≠ L

noncomputable def Held (h₀ : Heap) (L' L : Addr) (oL : Obj) (m : Str → Option Value) (e : Addr) (fl c : Value) (rest : List (Addr × Obj)) (h : Heap) : Prop :=
  ∃ oe tb otb sl, HeldX h₀ L' L oL m e fl c rest oe tb otb sl h

section
variable {prog : Program} {w : World} {A : Around} {E : Value → Shared → Prop} {s : Shared} {h₀ : Heap} {L' L e : Addr} {oL : Obj} {m : Str → Option Value} {fl c : Value} {rest : List (Addr × Obj)} {env envL : Env}

theorem note_new {oe : Obj} {vs : Array Value} {sl : Array (Option Value)} {Q : Unit → Shared → Prop} (hfr : A.frames = some [env, envL]) (hf : env.frame = some L') (hfL : envL.frame = some L) (hk : env.scope.kind ≠ .module) (hkL : envL.scope.kind ≠ .module) (hoL : ∃ es ep, oL.data = .dict es ep)
    (F : Fr h₀ L' s.heap m) (N : News h₀ L' s.heap ((e, oe) :: (L, { oL with slots := sl }) :: rest)) (hcls : oe.cls = .type "IndexError") (hd : oe.data = .fields vs) (h1 : vs[1]? = some .none) (h2 : vs[2]? = some c)
    (ne2 : @Ne Nat e L) (off : ∀ p ∈ rest, p.1 ≠ e ∧ p.1 ≠ L)
    (h : ∀ h', Held h₀ L' L oL m e (rawInt L') c rest h' → Q () { s with heap := h' }) : wpAny (model prog w) A (noteFrame (.ref e) env) Q E s := by
  obtain ⟨esL, epL, hLd⟩ := hoL
  obtain ⟨oL', esl, epl, hL', hL'd, hLk, hLf⟩ := F.ns
  have he := (N _ (.head _)).1
  have hL := (N _ (.tail _ (.head _))).1
  have hsz1 : 1 < vs.size := (Array.getElem?_eq_some_iff.mp h1).1
  have hl : s.heap.FunFrames h₀ [env, envL] := ⟨hk, ⟨L', oL', hf, Heap.get?_none_of_le F.above, hL', fun vs q => by rw [hL'd] at q; cases q⟩, hkL, ⟨L, _, hfL, (N _ (.tail _ (.head _))).2.2, hL, fun vs q => by
    have q' : oL.data = .fields vs := q
    rw [hLd] at q'; cases q'⟩, trivial⟩
  unfold noteFrame
  simp only [hf]
  refine wpAny_bind (wpAny_field he hd h1 ?_)
  rw [if_neg (by decide)]
  refine wpAny_bind (wpAny_frameOf_fun hfr hl hf fun h₁ hs₁ => ?_)
  refine wpAny_bind (wpAny_entryPlaceOf fun pl hpl => ?_)
  unfold EntryCells.newEntry newFields
  refine wpAny_bind (wpAny_newObj_type ?_ (hpl.sizeOk5 _ _ _ _ _))
  have hS : [env, envL].filterMap (·.frame) = [L', L] := by simp [hf, hfL]
  rw [hS] at hs₁
  have neL'e : e ≠ L' := (N _ (.head _)).2.1
  have he₁ : h₁.get? e = some oe := (hs₁.2.1 e (by simp [neL'e]; exact ne2)).trans he
  obtain ⟨slL, hL₁⟩ := hs₁.2.2 L _ hL
  obtain ⟨slL', hL'₁⟩ := hs₁.2.2 L' _ hL'
  have le := ltN (Heap.lt_size he₁)
  have lL := ltN (Heap.lt_size hL₁)
  have lL' := ltN (Heap.lt_size hL'₁)
  have he₂ := Heap.get?_push_of_some (h := h₁) { cls := .type "traceback", dict := none, data := .fields ([Value.none, .ref L', .none, rawInt L', .none] ++ (if pl.isEmpty then List.replicate 6 Value.none else pl)).toArray } he₁
  refine wpAny_setField he₂ hd hsz1 (h _ ?_)
  have hd₃ := Obj.data_mapFields hd (·.setIfInBounds 1 (Value.ref h₁.objs.size))
  have he₃ := Heap.get?_update_self (Obj.mapFields (·.setIfInBounds 1 (Value.ref h₁.objs.size))) he₂ (Obj.isFreed_of_fields hd₃)
  have up : ∀ (b : Addr) o, @Ne Nat b e → h₁.get? b = some o → ((h₁.push { cls := .type "traceback", dict := none, data := .fields ([Value.none, .ref L', .none, rawInt L', .none] ++ (if pl.isEmpty then List.replicate 6 Value.none else pl)).toArray }).update e (Obj.mapFields (·.setIfInBounds 1 (Value.ref h₁.objs.size)))).get? b = some o := fun b o hb ho =>
    (Heap.get?_update_other _ _ (Ne.symm hb)).trans (Heap.get?_push_of_some _ ho)
  have fresh : h₀.get? h₁.objs.size = none := by
    cases q : h₀.get? h₁.objs.size with
    | none => rfl
    | some o =>
      have q1 := Heap.lt_size (F.keep _ _ q)
      rw [hs₁.1] at q1
      exact absurd q1 (Nat.lt_irrefl _)
  refine ⟨_, h₁.objs.size, { cls := .type "traceback", dict := none, data := .fields ([Value.none, .ref L', .none, rawInt L', .none] ++ (if pl.isEmpty then List.replicate 6 Value.none else pl)).toArray }, slL, ⟨⟨⟨_, esl, epl, up L' _ (Ne.symm neL'e) hL'₁, hL'd, hLk, hLf⟩, fun b o hb => ?_, F.above⟩, fun p hp => ?_, (Obj.cls_mapFields _ _).trans hcls, ⟨_, hd₃, by simp [hsz1], by rw [Array.getElem?_setIfInBounds_ne (by decide)]; exact h2⟩, ⟨_, rfl, by simp⟩, ?_, ne2, ?_, fun p hp => ?_⟩⟩
  · have q1 := ltN (Heap.lt_size hb)
    have q2 : @LE.le Nat _ h₀.objs.size L' := F.above
    have hbe : @Ne Nat b e := fun q => by rw [q, (N _ (.head _)).2.2] at hb; cases hb
    have hbL : b ≠ L := fun q => by
      have z : h₀.get? L = none := (N _ (.tail _ (.head _))).2.2
      rw [q, z] at hb; cases hb
    have hbL' : b ≠ L' := by show @Ne Nat b L'; omega
    exact up b o hbe ((hs₁.2.1 b (by simp [hbL, hbL'])).trans (F.keep b o hb))
  · rcases List.mem_cons.mp hp with rfl | hp
    · exact ⟨he₃, (N _ (.head _)).2⟩
    · rcases List.mem_cons.mp hp with rfl | hp
      · exact ⟨(Heap.get?_update_other _ _ (by show @Ne Nat e h₁.objs.size; omega)).trans (Heap.get?_push_size _ rfl), (by show @Ne Nat h₁.objs.size L'; omega), fresh⟩
      · rcases List.mem_cons.mp hp with rfl | hp
        · exact ⟨up L _ (Ne.symm ne2) hL₁, (N _ (.tail _ (.head _))).2⟩
        · have z := N p (.tail _ (.tail _ hp))
          have zo := off p hp
          exact ⟨up p.1 _ zo.1 ((hs₁.2.1 p.1 (by simp [zo.2, z.2.1])).trans z.1), z.2⟩
  · show @Ne Nat e h₁.objs.size; omega
  · show @Ne Nat h₁.objs.size L; omega
  · have z := N p (.tail _ (.tail _ hp))
    have zo := off p hp
    have zl := ltN (Heap.lt_size ((hs₁.2.1 p.1 (by simp [zo.2, z.2.1])).trans z.1))
    exact ⟨zo.1, (by show @Ne Nat p.1 h₁.objs.size; omega), zo.2⟩

theorem note_again {Q : Unit → Shared → Prop} (hf : env.frame = some L') (H : Held h₀ L' L oL m e (rawInt L') c rest s.heap) (h : Q () s) : wpAny (model prog w) A (noteFrame (.ref e) env) Q E s := by
  obtain ⟨oe, tb, otb, sl, H⟩ := H
  obtain ⟨vs, hd, h1, h2⟩ := H.dat
  obtain ⟨tvs, htd, h3⟩ := H.tbd
  exact wpAny_noteFrame_inFlight hf (H.news _ (.head _)).1 hd h1 (H.news _ (.tail _ (.head _))).1 htd h3 h

theorem set_flight {Q : Unit → Shared → Prop} {fo : Option Addr} (H : Held h₀ L' L oL m e fl c rest s.heap)
    (h : ∀ h', Held h₀ L' L oL m e (fo.elim .none fun f => rawInt f) c rest h' → Q () { s with heap := h' }) : wpAny (model prog w) A (setFlight (.ref e) fo) Q E s := by
  obtain ⟨oe, tb, otb, sl, H⟩ := H
  obtain ⟨vs, hd, h1, h2⟩ := H.dat
  obtain ⟨tvs, htd, h3⟩ := H.tbd
  have he := (H.news _ (.head _)).1
  have htb := (H.news _ (.tail _ (.head _))).1
  have hsz : 3 < tvs.size := (Array.getElem?_eq_some_iff.mp h3).1
  unfold setFlight
  refine wpAny_bind (wpAny_field he hd h1 ?_)
  rw [if_pos (show (Value.ref tb != Value.none) = true from by simp)]
  refine wpAny_setField htb htd hsz (h _ ?_)
  have other : ∀ (b : Addr), @Ne Nat b tb → (s.heap.update tb (Obj.mapFields (·.setIfInBounds 3 (fo.elim .none fun f => rawInt f)))).get? b = s.heap.get? b := fun b hb => Heap.get?_update_other _ _ (Ne.symm hb)
  obtain ⟨oL', esl, epl, hL', hL'd, hLk, hLf⟩ := H.fr.ns
  have htd' := Obj.data_mapFields htd (·.setIfInBounds 3 (fo.elim .none fun f => rawInt f))
  have h3' : (tvs.setIfInBounds 3 (fo.elim Value.none fun f => rawInt f))[3]? = some (fo.elim .none fun f => rawInt f) := by rw [Array.getElem?_setIfInBounds_self_of_lt hsz]
  have tbL' : tb ≠ L' := (H.news _ (.tail _ (.head _))).2.1
  have tb0 : h₀.get? tb = none := (H.news _ (.tail _ (.head _))).2.2
  refine ⟨oe, tb, _, sl, ⟨⟨⟨_, esl, epl, (other L' (Ne.symm tbL')).trans hL', hL'd, hLk, hLf⟩, fun b o hb => (other b (fun q => by
      have q' : b = tb := q
      rw [q', tb0] at hb; cases hb)).trans (H.fr.keep b o hb), H.fr.above⟩, fun p hp => ?_, H.cls, ⟨vs, hd, h1, h2⟩, ⟨_, htd', h3'⟩, H.ne1, H.ne2, H.ne3, H.off⟩⟩
  rcases List.mem_cons.mp hp with rfl | hp
  · exact ⟨(other _ H.ne1).trans he, (H.news _ (.head _)).2⟩
  · rcases List.mem_cons.mp hp with rfl | hp
    · exact ⟨Heap.get?_update_self _ htb (Obj.isFreed_of_fields htd'), (H.news _ (.tail _ (.head _))).2⟩
    · have z := H.news p (.tail _ (.tail _ hp))
      refine ⟨(other _ ?_).trans z.1, z.2⟩
      rcases List.mem_cons.mp hp with rfl | hp
      · exact Ne.symm H.ne3
      · exact (H.off p hp).2.1

theorem came_back (hf : env.frame = some L') (H : Held h₀ L' L oL m e fl c rest s.heap) (h : ∀ h', Held h₀ L' L oL m e (rawInt L') c rest h' → E (.ref e) { s with heap := h' }) : cameBackBy (model prog w) A env E (.ref e) s := by
  unfold cameBackBy
  obtain ⟨oe, tb, otb, sl, H'⟩ := id H
  obtain ⟨vs, hd, h1, h2⟩ := H'.dat
  refine wpAny_bind (wpAny_field (H'.news _ (.head _)).1 hd h1 ?_)
  rw [if_neg (by simp)]
  rw [hf]
  exact set_flight H fun h' H' => h h' H'

theorem pass_on {Q : Flow → Shared → Prop} {tag : String} (hf : env.frame = some L') (H : Held h₀ L' L oL m e fl c rest s.heap) (h : ∀ h', Held h₀ L' L oL m e (rawInt L') c rest h' → E (.ref e) { s with heap := h' }) : wpAny (model prog w) A (PySem.passOn tag (.ref e) env) Q E s := by
  unfold PySem.passOn
  obtain ⟨oe, tb, otb, sl, H'⟩ := id H
  obtain ⟨vs, hd, h1, h2⟩ := H'.dat
  refine wpAny_bind (wpAny_field (H'.news _ (.head _)).1 hd h1 ?_)
  rw [if_neg (by simp)]
  rw [hf]
  exact wpAny_bind (set_flight H fun h' H' => wpAny_throw (h h' H'))

theorem Held.drop (H : Held h₀ L' L oL m e fl c rest s.heap) : ∃ sl, Fr h₀ L' s.heap m ∧ News h₀ L' s.heap ((L, { oL with slots := sl }) :: rest) ∧ s.TypeIs (.ref e) "IndexError" := by
  obtain ⟨oe, tb, otb, sl, H⟩ := H
  exact ⟨sl, H.fr, fun p hp => H.news p (.tail _ (.tail _ hp)), ⟨oe, (H.news _ (.head _)).1, H.cls⟩⟩
end
end
section
local macro_rules | `(tactic| walk_at "subscriptTail Name Name ref int") => `(tactic| k_dflt (first | (refine' item_in ?l ?z ?u ?v ?_; (case l => assumption); (case z => omega); (case u => omega); (case v => assumption))))
section /- SldS -/
theorem enterL {w : World} {A : Around} {s : Shared} {K : Frag} {R : Result → Shared → Prop} {name qual : Str} {params : Arguments} {body : List Stmt} {scope : Scope} {dV kV doc pm cdv ct oc : Value} {an od : Option Addr} {osl : Array (Option Value)} {f : Addr} {args : Args} {binds : List (Str × Value)}
    {h₀ : Heap} {L : Addr} {m : Str → Option Value} {news : List (Addr × Obj)} (F : Fr h₀ L s.heap m) (N : News h₀ L s.heap news)
    (X : K.In s.heap) (hlim : s.heap.NoLimit)
    (ho : K.lookup f = some ⟨oc, od, .func (fnOf name qual params body scope dV kV doc pm an cdv ct), osl⟩) (hcd : codeIn K cdv qual = true) (hroom : A.depth < recursionLimit)
    (hbind : BindsTo s (fnOf name qual params body scope dV kV doc pm an cdv ct) args binds) (hloc : ∀ y ∈ binds, scope.names.lookup y.1 = some .local)
    (h : ∀ (oL : Obj) (L' : Addr) (h₁ : Heap), (∃ es ep, oL.data = .dict es ep) → (∀ (h' : Heap) sl, h'.get? L = some { oL with slots := sl } → h'.Ns L m) → (∀ p ∈ news, p.1 ≠ L) → (∀ p ∈ news, @LT.lt Nat _ p.1 L') → @LT.lt Nat _ L L' →
      Fr h₀ L' h₁ (fun y => binds.reverse.lookup y) → News h₀ L' h₁ ((L, { oL with slots := oL.slots }) :: news) →
      wpAny (model PySem.Challenge.rw_ik0197_01.row.prog w) (A.deeper (envOf qual scope L' f cdv)) (execs body (envOf qual scope L' f cdv))
        (fun fl s' => R (.ok (.ret (match fl with | .ret v => v | _ => .none))) s') (fun _ _ => False)
        { s with heap := h₁, toks := s.toks + binds.length })
    (hco : scope.isCoroutine = false := by rfl) (hgen : scope.isGenerator = false := by rfl) (hk : scope.kind = .function := by rfl)
    (hcell : ∀ x ∈ scope.names, x.2 ≠ .cell := by decide) : codeAny (model PySem.Challenge.rw_ik0197_01.row.prog w) A (.call (.ref f) args) R s := by
  refine codeAny_call_def (fd := fnOf name qual params body scope dV kV doc pm an cdv ct) (body := body) (binds := binds) hroom (X _ _ ho) rfl hlim (codeRec_of X hcd) rfl hbind hcell hloc (fun h₁ hns hk₁ => ?_) hco hgen hk
  obtain ⟨oL, es, ep, hL, hLd, hLk, hLf⟩ := F.ns
  have hLt := Heap.lt_size hL
  refine wpAny_mono (h oL s.heap.objs.size h₁ ⟨es, ep, hLd⟩ (fun h' sl e => ⟨_, es, ep, e, hLd, hLk, hLf⟩) (fun p hp => (N p hp).2.1) (fun p hp => Heap.lt_size (N p hp).1) hLt ⟨hns, fun b o e => hk₁ b o (F.keep b o e), Nat.le_trans F.above (Nat.le_of_lt hLt)⟩ (fun p hp => ?_)) (fun _ _ x => x) (fun _ _ x => x.elim)
  rcases List.mem_cons.mp hp with rfl | hp
  · exact ⟨hk₁ _ _ hL, Nat.ne_of_lt hLt, Heap.get?_none_of_le F.above⟩
  · obtain ⟨h1, h2, h3⟩ := N p hp
    exact ⟨hk₁ _ _ h1, Nat.ne_of_lt (Heap.lt_size h1), h3⟩

theorem leaveL {h₀ h' : Heap} {L L' : Addr} {m m' : Str → Option Value} {oL : Obj} {sl : Array (Option Value)} {news : List (Addr × Obj)} (hns : ∀ (h' : Heap) sl, h'.get? L = some { oL with slots := sl } → h'.Ns L m) (hab : h₀.objs.size ≤ L)
    (F : Fr h₀ L' h' m') (N : News h₀ L' h' ((L, { oL with slots := sl }) :: news)) (hne : ∀ p ∈ news, p.1 ≠ L) : Fr h₀ L h' m ∧ News h₀ L h' news :=
  ⟨⟨hns _ sl (N _ (.head _)).1, F.keep, hab⟩, fun p hp => ⟨(N p (.tail _ hp)).1, hne p hp, (N p (.tail _ hp)).2.2⟩⟩

section
variable {prog : Program} {w : World} {A : Around} {E : Value → Shared → Prop} {s : Shared} {h₀ : Heap} {L' L e : Addr} {oL : Obj} {m : Str → Option Value} {fl c : Value} {rest : List (Addr × Obj)} {env envL : Env}

/-- just raised -/
noncomputable def Fresh (h₀ : Heap) (L' L : Addr) (oL : Obj) (m : Str → Option Value) (e : Addr) (c : Value) (rest : List (Addr × Obj)) (h : Heap) : Prop :=
  ∃ oe vs sl, Fr h₀ L' h m ∧ News h₀ L' h ((e, oe) :: (L, { oL with slots := sl }) :: rest) ∧ oe.cls = .type "IndexError" ∧ oe.data = .fields vs ∧ vs[1]? = some .none ∧ vs[2]? = some c ∧ @Ne Nat e L ∧ ∀ p ∈ rest, p.1 ≠ e ∧ p.1 ≠ L

theorem fresh_of {h h' : Heap} {sl : Array (Option Value)} (hx : NewExcC h h' e "IndexError" c) (F : Fr h₀ L' h m) (N : News h₀ L' h ((L, { oL with slots := sl }) :: rest)) (off : ∀ p ∈ rest, p.1 ≠ L) : Fresh h₀ L' L oL m e c rest h' := by
  obtain ⟨ob, vs, he, hcls, hd, h1, h2⟩ := hx.there
  have fr : ∀ (b : Addr) o, h.get? b = some o → @Ne Nat b e := fun b o q r => by rw [r, hx.new] at q; cases q
  obtain ⟨oL', _, _, hL', _⟩ := F.ns
  refine ⟨ob, vs, sl, Fr.kp F hx.keeps, fun p hp => ?_, hcls, hd, h1, h2, Ne.symm (fr _ _ (N _ (.head _)).1), fun p hp => ⟨fr _ _ (N _ (.tail _ hp)).1, off p hp⟩⟩
  rcases List.mem_cons.mp hp with rfl | hp
  · refine ⟨he, Ne.symm (fr _ _ hL'), ?_⟩
    cases q : h₀.get? e with
    | none => rfl
    | some o => have := F.keep _ _ q; rw [hx.new] at this; cases this
  · exact News.kp N hx.keeps p hp

theorem note_any {Q : Unit → Shared → Prop} (hfr : A.frames = some [env, envL]) (hf : env.frame = some L') (hfL : envL.frame = some L) (hk : env.scope.kind ≠ .module) (hkL : envL.scope.kind ≠ .module) (hoL : ∃ es ep, oL.data = .dict es ep)
    (H : Fresh h₀ L' L oL m e c rest s.heap ∨ Held h₀ L' L oL m e (rawInt L') c rest s.heap)
    (h : ∀ h', Held h₀ L' L oL m e (rawInt L') c rest h' → Q () { s with heap := h' }) : wpAny (model prog w) A (noteFrame (.ref e) env) Q E s := by
  rcases H with ⟨oe, vs, sl, F, N, hcls, hd, h1, h2, ne, off⟩ | H
  · exact note_new hfr hf hfL hk hkL hoL F N hcls hd h1 h2 ne off h
  · exact note_again hf H (h s.heap H)

theorem while_idx {test : PySem.Expr} {body : List Stmt} {pos : Pos} {Q : Flow → Shared → Prop} (Inv : Nat → Shared → Prop) (Ex : Value → Shared → Prop)
    (hE : ∀ x s', Ex x s' → notedBy (model prog w) A env (cameBackBy (model prog w) A env E) x s')
    (turn : ∀ k s, Inv k s → wpAny (model prog w) A (isTrue test env (eval test env)) (fun b s₂ =>
        if b = true then wpAny (model prog w) A (execs body env) (fun f s₃ => match f with
            | .next => Again Inv k s₃
            | .cont => Again Inv k s₃
            | .brk => Q .next s₃
            | .ret v => Q (.ret v) s₃) Ex s₂
        else Q .next s₂) Ex s) (k : Nat) (h : Inv k s) : wpAny (model prog w) A (exec (.While test body [] pos) env) Q E s := by
  refine wpAny_While ?_
  refine codeAny_whileLoop Inv (fun k s hI => ?_) k h
  refine wpAny_mono (turn k s hI) (fun b s₂ h₂ => ?_) hE
  cases b with
  | true =>
    simp only [if_true] at h₂ ⊢
    refine wpAny_mono h₂ (fun f s₃ h₃ => ?_) hE
    cases f <;> exact h₃
  | false =>
    simp only [Bool.false_eq_true, if_false] at h₂ ⊢
    exact wpAny_execs_nil h₂
end

noncomputable def sldF : Nat → List Int → List Int → List Int × List Int
  | 0, es, as => (es, as)
  | _ + 1, [], as => ([], as)
  | _ + 1, e :: es, [] => (e :: es, [])
  | n + 1, e :: es, a :: as =>
    if e < a then (e :: (sldF n (es.dropWhile (· == e)) (a :: as)).1, (sldF n (es.dropWhile (· == e)) (a :: as)).2)
    else if a < e then ((sldF n (e :: es) (as.dropWhile (· == a))).1, a :: (sldF n (e :: es) (as.dropWhile (· == a))).2)
    else sldF n (es.dropWhile (· == e)) (as.dropWhile (· == a))

noncomputable abbrev sldEnv (L' : Addr) : Env := envOf (Str.ofString "sorted_list_difference")
        { kind := .function,
          names :=
            [(Str.ofString "expected", .local), (Str.ofString "actual", .local),
              (Str.ofString "i", .local), (Str.ofString "j", .local),
              (Str.ofString "missing", .local), (Str.ofString "unexpected", .local),
              (Str.ofString "e", .local), (Str.ofString "a", .local),
              (Str.ofString "IndexError", .globalImplicit)],
          isGenerator := false, isCoroutine := false } L' 162 (.ref 161)
theorem Fr.toSet {h₀ h : Heap} {L : Addr} {m m₁ : Str → Option Value} {a : Str} {v : Option Value} (F : Fr h₀ L h (fun z => if z = a then v else m₁ z)) (e : ∀ z, ¬ z = a → m₁ z = m z) : Fr h₀ L h (fun z => if z = a then v else m z) := by
  have : (fun z => if z = a then v else m z) = (fun z => if z = a then v else m₁ z) := by
    funext z
    by_cases q : z = a
    · rw [if_pos q, if_pos q]
    · rw [if_neg q, if_neg q, e z q]
  rw [this]; exact F
theorem skip_e {w : World} {A' : Around} {E : Value → Shared → Prop} {s : Shared} {h₀ : Heap} {L' L : Addr} {oL : Obj} {m : Str → Option Value} {c : Value} {rest : List (Addr × Obj)} {envL : Env} {sl : Array (Option Value)} {Q : Flow → Shared → Prop} {p1 p2 p3 p4 p5 p6 p7 p8 p9 : Pos} {le : Addr} {ev : List Value} {ne i : Nat} {t ty : Tok} {y : Int} {es : List Int}
    (hfr : A'.frames = some [sldEnv L', envL]) (hfL : envL.frame = some L) (hkL : envL.scope.kind ≠ .module) (hoL : ∃ es ep, oL.data = .dict es ep)
    (hctx : ∀ h sl, News h₀ L' h ((L, { oL with slots := sl }) :: rest) → CtxOk A' c h) (X : (hd.heap_1 w.params).In h₀)
    (F : Fr h₀ L' s.heap m) (N : News h₀ L' s.heap ((L, { oL with slots := sl }) :: rest)) (off : ∀ p ∈ rest, p.1 ≠ L)
    (hm1 : m (Str.ofString "expected") = some (.ref le)) (hm2 : m (Str.ofString "i") = some (.int i t)) (hm3 : m (Str.ofString "e") = some (.int y ty)) (hle : (le, W.listOf ev.toArray ne) ∈ rest) (he : IntsAre ev es) (hi : i ≤ es.length) (hel : es.length ≤ 1000)
    (next : ∀ i' t' h' tk, i ≤ i' → i' ≤ es.length → es.drop i' = (es.drop i).dropWhile (· == y) → Fr h₀ L' h' (fun z => if z = Str.ofString "i" then some (.int (i' : Nat) t') else m z) → News h₀ L' h' ((L, { oL with slots := sl }) :: rest) → Q .next ⟨h', s.gens, s.drawn, tk, s.os⟩)
    (err : ∀ t' x h' tk, (es.drop i).dropWhile (· == y) = [] → Held h₀ L' L oL (fun z => if z = Str.ofString "i" then some (.int (es.length : Nat) t') else m z) x (rawInt L') c rest h' → E (.ref x) ⟨h', s.gens, s.drawn, tk, s.os⟩) :
    wpAny (model PySem.Challenge.rw_ik0197_01.row.prog w) A' (exec (.While (.Compare (.Subscript (.Name (Str.ofString "expected") p1) (.Name (Str.ofString "i") p2) p3) [.Eq] [.Name (Str.ofString "e") p4] p5) [.AugAssign (.Name (Str.ofString "i") p6) .Add (.Constant (.int 1) 0 p7) p8] [] p9) (sldEnv L')) Q E s := by
  have hev : ev.length = es.length := IntsAre.length he
  refine while_idx (fun k s' => ∃ i' t' h' tk, i' + k = es.length + 1 ∧ s' = ⟨h', s.gens, s.drawn, tk, s.os⟩ ∧ i ≤ i' ∧ i' ≤ es.length ∧ (es.drop i').dropWhile (· == y) = (es.drop i).dropWhile (· == y) ∧ Fr h₀ L' h' (fun z => if z = Str.ofString "i" then some (.int (i' : Nat) t') else m z) ∧ News h₀ L' h' ((L, { oL with slots := sl }) :: rest))
    (fun x s' => ∃ t' e h' tk, x = .ref e ∧ s' = ⟨h', s.gens, s.drawn, tk, s.os⟩ ∧ (es.drop i).dropWhile (· == y) = [] ∧ Fresh h₀ L' L oL (fun z => if z = Str.ofString "i" then some (.int (es.length : Nat) t') else m z) e c rest h') ?_ ?_ (es.length + 1 - i) ⟨i, t, s.heap, s.toks, Nat.add_sub_cancel' (by omega), rfl, Nat.le_refl _, hi, rfl, ?_, N⟩
  · rintro x s' ⟨t', e, h', tk, rfl, rfl, hdw, H⟩
    refine note_any hfr rfl hfL (by show ScopeKind.function ≠ .module; decide) hkL hoL (.inl H) fun h'' H'' => ?_
    exact came_back rfl H'' fun h3 H3 => err t' e h3 tk hdw H3
  · rintro k s' ⟨i', t', h', tk, hik, rfl, hii, hi2, hdw, F', N'⟩
    have F1 := (Fr.know (Fr.know (Fr.know F' (a := Str.ofString "expected") (by rw [if_neg (by decide)]; exact hm1)) (a := Str.ofString "e") (by rw [if_neg (by decide), if_neg (by decide)]; exact hm3)) (a := Str.ofString "i") (by rw [if_neg (by decide), if_neg (by decide), if_pos rfl]))
    clear F F'
    unfold sldEnv
    have hll : h'.IsList le ev.toArray := ⟨_, (N' _ (.tail _ hle)).1, rfl, _, rfl⟩
    by_cases hlt : i' < es.length
    · have hes : es[i']? = some es[i'] := List.getElem?_eq_getElem hlt
      obtain ⟨tx, hvx⟩ := IntsAre.get he i' _ hes
      have hvx2 : ev.toArray[((i' : Nat) : Int).toNat]? = some (.int es[i'] tx) := by rw [Int.toNat_natCast]; simpa using hvx
      have hdrop : es.drop i' = es[i'] :: es.drop (i' + 1) := List.drop_eq_getElem_cons hlt
      generalize es[i'] = x at hes hvx hvx2 hdrop
      repeat' (walk_at "wS")
      · (with_reducible rename Fr _ _ _ _ => F₁)
        (with_reducible rename News _ _ _ _ => N₁)
        rename_i hxy _
        have F2 := Fr.toSet (m := m) F₁ fun z q1 => by walk_at "mapZ2"
        have hd2 : (es.drop (i' + 1)).dropWhile (· == y) = (es.drop i).dropWhile (· == y) := by rw [← hdw, hdrop, List.dropWhile_cons, if_pos (by simpa using hxy)]
        exact Again.mk (m := k - 1) (by omega) ⟨i' + 1, _, _, _, by omega, rfl, by omega, by omega, hd2, F2, N₁⟩
      · rename_i hxy
        have F2 := Fr.toSet (m := m) F1 fun z q1 => by walk_at "mapZ2"
        exact next i' t' h' _ hii (by omega) (by rw [← hdw, hdrop, List.dropWhile_cons, if_neg (by simpa using hxy)]) F2 N'
    · have hi' : i' = es.length := by omega
      repeat' (walk_at "wS")
      have F2 := Fr.toSet (m := m) F1 fun z q1 => by walk_at "mapZ2"
      rw [show ((i' : Nat) : Int) = (es.length : Nat) by rw [hi']] at F2
      refine item_out (hctx _ _ N') hll (by omega) (by simp; omega) (by omega) fun h2 tk2 e2 hn => ⟨t', e2, h2, tk2, rfl, rfl, ?_, fresh_of hn F2 N' off⟩
      rw [← hdw, hi', List.drop_length]; rfl
  · have e : (fun z => if z = Str.ofString "i" then some (Value.int (i : Nat) t) else m z) = m := by
      funext z
      by_cases hz : z = Str.ofString "i"
      · rw [if_pos hz, hz, hm2]
      · rw [if_neg hz]
    rw [e]; exact F
theorem skip_a {w : World} {A' : Around} {E : Value → Shared → Prop} {s : Shared} {h₀ : Heap} {L' L : Addr} {oL : Obj} {m : Str → Option Value} {c : Value} {rest : List (Addr × Obj)} {envL : Env} {sl : Array (Option Value)} {Q : Flow → Shared → Prop} {p1 p2 p3 p4 p5 p6 p7 p8 p9 : Pos} {le : Addr} {ev : List Value} {ne i : Nat} {t ty : Tok} {y : Int} {es : List Int}
    (hfr : A'.frames = some [sldEnv L', envL]) (hfL : envL.frame = some L) (hkL : envL.scope.kind ≠ .module) (hoL : ∃ es ep, oL.data = .dict es ep)
    (hctx : ∀ h sl, News h₀ L' h ((L, { oL with slots := sl }) :: rest) → CtxOk A' c h) (X : (hd.heap_1 w.params).In h₀)
    (F : Fr h₀ L' s.heap m) (N : News h₀ L' s.heap ((L, { oL with slots := sl }) :: rest)) (off : ∀ p ∈ rest, p.1 ≠ L)
    (hm1 : m (Str.ofString "actual") = some (.ref le)) (hm2 : m (Str.ofString "j") = some (.int i t)) (hm3 : m (Str.ofString "a") = some (.int y ty)) (hle : (le, W.listOf ev.toArray ne) ∈ rest) (he : IntsAre ev es) (hi : i ≤ es.length) (hel : es.length ≤ 1000)
    (next : ∀ i' t' h' tk, i ≤ i' → i' ≤ es.length → es.drop i' = (es.drop i).dropWhile (· == y) → Fr h₀ L' h' (fun z => if z = Str.ofString "j" then some (.int (i' : Nat) t') else m z) → News h₀ L' h' ((L, { oL with slots := sl }) :: rest) → Q .next ⟨h', s.gens, s.drawn, tk, s.os⟩)
    (err : ∀ t' x h' tk, (es.drop i).dropWhile (· == y) = [] → Held h₀ L' L oL (fun z => if z = Str.ofString "j" then some (.int (es.length : Nat) t') else m z) x (rawInt L') c rest h' → E (.ref x) ⟨h', s.gens, s.drawn, tk, s.os⟩) :
    wpAny (model PySem.Challenge.rw_ik0197_01.row.prog w) A' (exec (.While (.Compare (.Subscript (.Name (Str.ofString "actual") p1) (.Name (Str.ofString "j") p2) p3) [.Eq] [.Name (Str.ofString "a") p4] p5) [.AugAssign (.Name (Str.ofString "j") p6) .Add (.Constant (.int 1) 0 p7) p8] [] p9) (sldEnv L')) Q E s := by
  have hev : ev.length = es.length := IntsAre.length he
  refine while_idx (fun k s' => ∃ i' t' h' tk, i' + k = es.length + 1 ∧ s' = ⟨h', s.gens, s.drawn, tk, s.os⟩ ∧ i ≤ i' ∧ i' ≤ es.length ∧ (es.drop i').dropWhile (· == y) = (es.drop i).dropWhile (· == y) ∧ Fr h₀ L' h' (fun z => if z = Str.ofString "j" then some (.int (i' : Nat) t') else m z) ∧ News h₀ L' h' ((L, { oL with slots := sl }) :: rest))
    (fun x s' => ∃ t' e h' tk, x = .ref e ∧ s' = ⟨h', s.gens, s.drawn, tk, s.os⟩ ∧ (es.drop i).dropWhile (· == y) = [] ∧ Fresh h₀ L' L oL (fun z => if z = Str.ofString "j" then some (.int (es.length : Nat) t') else m z) e c rest h') ?_ ?_ (es.length + 1 - i) ⟨i, t, s.heap, s.toks, Nat.add_sub_cancel' (by omega), rfl, Nat.le_refl _, hi, rfl, ?_, N⟩
  · rintro x s' ⟨t', e, h', tk, rfl, rfl, hdw, H⟩
    refine note_any hfr rfl hfL (by show ScopeKind.function ≠ .module; decide) hkL hoL (.inl H) fun h'' H'' => ?_
    exact came_back rfl H'' fun h3 H3 => err t' e h3 tk hdw H3
  · rintro k s' ⟨i', t', h', tk, hik, rfl, hii, hi2, hdw, F', N'⟩
    have F1 := (Fr.know (Fr.know (Fr.know F' (a := Str.ofString "actual") (by rw [if_neg (by decide)]; exact hm1)) (a := Str.ofString "a") (by rw [if_neg (by decide), if_neg (by decide)]; exact hm3)) (a := Str.ofString "j") (by rw [if_neg (by decide), if_neg (by decide), if_pos rfl]))
    clear F F'
    unfold sldEnv
    have hll : h'.IsList le ev.toArray := ⟨_, (N' _ (.tail _ hle)).1, rfl, _, rfl⟩
    by_cases hlt : i' < es.length
    · have hes : es[i']? = some es[i'] := List.getElem?_eq_getElem hlt
      obtain ⟨tx, hvx⟩ := IntsAre.get he i' _ hes
      have hvx2 : ev.toArray[((i' : Nat) : Int).toNat]? = some (.int es[i'] tx) := by rw [Int.toNat_natCast]; simpa using hvx
      have hdrop : es.drop i' = es[i'] :: es.drop (i' + 1) := List.drop_eq_getElem_cons hlt
      generalize es[i'] = x at hes hvx hvx2 hdrop
      repeat' (walk_at "wS")
      · (with_reducible rename Fr _ _ _ _ => F₁)
        (with_reducible rename News _ _ _ _ => N₁)
        rename_i hxy _
        have F2 := Fr.toSet (m := m) F₁ fun z q1 => by walk_at "mapZ2"
        have hd2 : (es.drop (i' + 1)).dropWhile (· == y) = (es.drop i).dropWhile (· == y) := by rw [← hdw, hdrop, List.dropWhile_cons, if_pos (by simpa using hxy)]
        exact Again.mk (m := k - 1) (by omega) ⟨i' + 1, _, _, _, by omega, rfl, by omega, by omega, hd2, F2, N₁⟩
      · rename_i hxy
        have F2 := Fr.toSet (m := m) F1 fun z q1 => by walk_at "mapZ2"
        exact next i' t' h' _ hii (by omega) (by rw [← hdw, hdrop, List.dropWhile_cons, if_neg (by simpa using hxy)]) F2 N'
    · have hi' : i' = es.length := by omega
      repeat' (walk_at "wS")
      have F2 := Fr.toSet (m := m) F1 fun z q1 => by walk_at "mapZ2"
      rw [show ((i' : Nat) : Int) = (es.length : Nat) by rw [hi']] at F2
      refine item_out (hctx _ _ N') hll (by omega) (by simp; omega) (by omega) fun h2 tk2 e2 hn => ⟨t', e2, h2, tk2, rfl, rfl, ?_, fresh_of hn F2 N' off⟩
      rw [← hdw, hi', List.drop_length]; rfl
  · have e : (fun z => if z = Str.ofString "j" then some (Value.int (i : Nat) t) else m z) = m := by
      funext z
      by_cases hz : z = Str.ofString "j"
      · rw [if_pos hz, hz, hm2]
      · rw [if_neg hz]
    rw [e]; exact F
end
end
section
local macro_rules | `(tactic| walk_at "subscriptTail Name Name ref int") => `(tactic| k_dflt (first | (refine' item_in ?l ?z ?u ?v ?_; (case l => first | assumption | exact News.isList (by k_asm) (by k_mem)); (case z => omega); (case u => omega); (case v => assumption))))
local macro_rules | `(tactic| walk_at "callWith builtin:list.append") => `(tactic| (k_dflt (refine callWith_method1 ?_)))
local macro_rules | `(tactic| walk_at "call builtin:list.append") => `(tactic| (k_dflt (refine' append_led ?F ?N ?U ?z ?_; (case F => k_asm); (case N => k_asm); (case U => k_upd); (case z => (try simp only [List.length_append, List.length_cons, List.length_nil]); omega)); intro h' F' N'; (try k_sweep)))
local macro_rules | `(tactic| walk_at "subscriptTail Name Slice ref ref") => `(tactic| (k_dflt (refine' kmk_slice_ints ?F ?N ?l (IsPart.int _ _) IsPart.none ?i (kmk_from ?j ?k) rfl ?_ ?s ?t ?z; (case F => k_asm); (case N => k_asm); (case l => exact News.isList (by k_asm) (by k_mem)); (case i => assumption); (case j => assumption); (case k => omega); (case s => with_unfolding_all rfl); (case t => kmk_pure); (case z => (rw [List.size_toArray, PySem.sizeLine_eq]; omega))); intro D' ws' h' F' N' l1 hI' hC' hL'; (try k_lt l1); (try k_sweep)))
section /- SldB -/
noncomputable def SM (le la lm lu : Addr) (i j : Nat) (m : Str → Option Value) : Prop :=
  m (Str.ofString "expected") = some (.ref le) ∧ m (Str.ofString "actual") = some (.ref la) ∧ m (Str.ofString "missing") = some (.ref lm) ∧ m (Str.ofString "unexpected") = some (.ref lu) ∧ (∃ t, m (Str.ofString "i") = some (.int i t)) ∧ ∃ t, m (Str.ofString "j") = some (.int j t)

/-- where the outer loop stands -/
noncomputable def DInv (h₀ : Heap) (L' L : Addr) (oL : Obj) (news : List (Addr × Obj)) (le la lm lu : Addr) (es as : List Int) (r : List Int × List Int) (s : Shared) (k : Nat) (s' : Shared) : Prop :=
  ∃ (i j : Nat) (ms us : List Int) (mv uv : List Value) (nm nu : Nat) (sl : Array (Option Value)) (h : Heap) (tk : Nat) (m' : Str → Option Value), s' = ⟨h, s.gens, s.drawn, tk, s.os⟩ ∧ Fr h₀ L' h m' ∧ News h₀ L' h ((L, { oL with slots := sl }) :: (lm, W.listOf mv.toArray nm) :: (lu, W.listOf uv.toArray nu) :: news) ∧
    IntsAre mv ms ∧ IntsAre uv us ∧ i ≤ es.length ∧ j ≤ as.length ∧ (es.length - i) + (as.length - j) < k ∧ ms ++ (sldF k (es.drop i) (as.drop j)).1 = r.1 ∧ us ++ (sldF k (es.drop i) (as.drop j)).2 = r.2 ∧ ms.length ≤ i ∧ us.length ≤ j ∧ SM le la lm lu i j m'

/-- an IndexError is on its way -/
noncomputable def SEx (h₀ : Heap) (L' L : Addr) (oL : Obj) (news : List (Addr × Obj)) (le la lm lu : Addr) (es as : List Int) (r : List Int × List Int) (s : Shared) (x : Value) (s' : Shared) : Prop :=
  ∃ (e : Addr) (c : Value) (i j : Nat) (ms us : List Int) (mv uv : List Value) (nm nu : Nat) (extra : List (Addr × Obj)) (h : Heap) (tk : Nat) (m' : Str → Option Value), x = .ref e ∧ s' = ⟨h, s.gens, s.drawn, tk, s.os⟩ ∧
    (Fresh h₀ L' L oL m' e c ((lm, W.listOf mv.toArray nm) :: (lu, W.listOf uv.toArray nu) :: news ++ extra) h ∨ Held h₀ L' L oL m' e (rawInt L') c ((lm, W.listOf mv.toArray nm) :: (lu, W.listOf uv.toArray nu) :: news ++ extra) h) ∧
    IntsAre mv ms ∧ IntsAre uv us ∧ i ≤ es.length ∧ j ≤ as.length ∧ ms ++ es.drop i = r.1 ∧ us ++ as.drop j = r.2 ∧ ms.length ≤ i ∧ us.length ≤ j ∧ SM le la lm lu i j m'

theorem allLt_off {d : Addr} : ∀ {l : List (Addr × Obj)}, AllLt d l → OwnOff l [d]
  | [], _ => fun p hp => by cases hp
  | q :: l, h => fun p hp b hb => by
    rcases List.mem_cons.mp hp with rfl | hp
    · rw [List.mem_singleton.mp hb]; exact Nat.ne_of_lt h.1
    · exact allLt_off h.2 p hp b hb

theorem sld_nil2 (k : Nat) (es : List Int) : sldF (k + 1) es [] = (es, []) := by cases es <;> rfl

theorem lt_succ {n k : Nat} (h : n < k) : ∃ k', k = k' + 1 := ⟨k - 1, by omega⟩
theorem ms_pos {a b i j k : Nat} (h : (a - i) + (b - j) < k + 1) (hi : i < a) : ∃ k', k = k' + 1 := ⟨k - 1, by omega⟩
theorem ms1 {a b i i' j k : Nat} (h : (a - i) + (b - j) < k + 1 + 1) (h1 : i + 1 ≤ i') (h2 : i' ≤ a) : (a - i') + (b - j) < k + 1 := by omega
theorem ms2 {a b i j j' k : Nat} (h : (a - i) + (b - j) < k + 1 + 1) (h1 : j + 1 ≤ j') (h2 : j' ≤ b) : (a - i) + (b - j') < k + 1 := by omega
theorem ms3 {a b i i' j j' k : Nat} (h : (a - i) + (b - j) < k + 1 + 1) (h1 : i + 1 ≤ i') (h2 : i' ≤ a) (h3 : j + 1 ≤ j') (h4 : j' ≤ b) : (a - i') + (b - j') < k + 1 := by omega
theorem sld_spec {w : World} {mg mb : Str → Option Value} {mean : ExcName → Option Value} {s : Shared} {A : Around} {envL : Env} {le la : Addr} {ev av : List Value} {ne na : Nat} {es as : List Int} {R : Result → Shared → Prop}
    {h₀ : Heap} {L : Addr} {m : Str → Option Value} {news news' : List (Addr × Obj)} (F : Fr h₀ L s.heap m) (N : News h₀ L s.heap news)
    (X : (hd.heap_1 w.params).In h₀) (T : Top view39 (looseW view39 []) mean mg mb h₀) (hh : A.handled = none) (hfr : A.frames = some [envL]) (hfL : envL.frame = some L) (hkL : envL.scope.kind ≠ .module) (hroom : A.depth < 430)
    (hnw : news = (le, W.listOf ev.toArray ne) :: (la, W.listOf av.toArray na) :: news') (he : IntsAre ev es) (ha : IntsAre av as) (hel : es.length ≤ 1000) (hal : as.length ≤ 1000)
    (hR : ∀ h' tk D lm lu mv uv nm nu, Fr h₀ L h' m → News h₀ L h' ((D, { cls := .type "tuple", data := .seq #[.ref lm, .ref lu] }) :: (lm, W.listOf mv.toArray nm) :: (lu, W.listOf uv.toArray nu) :: news) → IntsAre mv (sldF (es.length + as.length + 1) es as).1 → IntsAre uv (sldF (es.length + as.length + 1) es as).2 →
      AllLt lm news → @LT.lt Nat _ lm lu → @LT.lt Nat _ lu D → @LT.lt Nat _ L lm → R (.ok (.ret (.ref D))) { s with heap := h', toks := tk }) :
    codeAny (model PySem.Challenge.rw_ik0197_01.row.prog w) A (.call (.ref 162) ⟨[.ref le, .ref la], []⟩) R s := by
  have hab := F.above
  refine enterL (binds := [(Str.ofString "expected", .ref le), (Str.ofString "actual", .ref la)]) F N (X.keeps F.keep) (T.nolimit.keeps F.keep) (by k_is) (by k_is) (show A.depth < 1000 by omega) (BindsTo.of_eq rfl) (locs rfl) ?_
  intro oL L' h₁ hoL hns hneL hlt hLL F N
  subst hnw
  dsimp only [List.reverse_cons, List.reverse_nil, List.nil_append, List.length_cons, List.length_nil, List.cons_append] at F ⊢
  repeat' (walk_at "wS")
  (with_reducible rename Fr _ _ _ _ => F₁)
  (with_reducible rename News _ _ _ _ => N₁)
  rename_i lm h4 hlm h5 tk5 lu h6 hlu h7
  have hev : ev.length = es.length := IntsAre.length he
  have hav : av.length = as.length := IntsAre.length ha
  have hlm1 := ltN hlm.1
  have hlu1 := ltN hlu.1
  have hlu2 := ltN hlu.2.1
  have hlm2 := ltN hlm.2.1
  have hlm3 := ltN hlm.2.2.1
  have hlu3 := ltN hlu.2.2.1
  have hlu4 := ltN hlu.2.2.2.1
  have hom : OwnOff news' [lm] := allLt_off hlm.2.2.2
  have hou : OwnOff news' [lu] := allLt_off hlu.2.2.2.2
  refine while_idx (DInv h₀ L' L oL ((le, W.listOf ev.toArray ne) :: (la, W.listOf av.toArray na) :: news') le la lm lu es as (sldF (es.length + as.length + 1) es as) s) (fun _ _ => False) (fun _ _ h => h.elim) (fun k s' hI => ?_) (es.length + as.length + 1)
    ⟨0, 0, [], [], [], [], 0, 0, oL.slots, _, _, _, rfl, F₁, fun p hp => N₁ p ?_, .nil, .nil, Nat.zero_le _, Nat.zero_le _, by omega, by simp, by simp, Nat.zero_le _, Nat.zero_le _, rfl, rfl, rfl, rfl, ⟨_, rfl⟩, ⟨_, rfl⟩⟩
  · obtain ⟨i, j, ms, us, mv, uv, nm, nu, sl, h, tk, m', rfl, F, N, hm, hu, hi, hj, hk, hr1, hr2, hml, hul, hs1, hs2, hs3, hs4, ⟨ti, hs5⟩, ⟨tj, hs6⟩⟩ := hI
    have F' := Fr.know (Fr.know (Fr.know (Fr.know (Fr.know (Fr.know F (a := Str.ofString "expected") hs1) (a := Str.ofString "actual") (by rw [if_neg (by decide)]; exact hs2)) (a := Str.ofString "missing") (by rw [if_neg (by decide), if_neg (by decide)]; exact hs3)) (a := Str.ofString "unexpected") (by rw [if_neg (by decide), if_neg (by decide), if_neg (by decide)]; exact hs4)) (a := Str.ofString "i") (by rw [if_neg (by decide), if_neg (by decide), if_neg (by decide), if_neg (by decide)]; exact hs5)) (a := Str.ofString "j") (by rw [if_neg (by decide), if_neg (by decide), if_neg (by decide), if_neg (by decide), if_neg (by decide)]; exact hs6)
    clear F F₁ N₁
    repeat' (walk_at "wS")
    refine wpAny_Try_except ?_
    refine wpAny_mono (Q := fun f s₁ => f = .next ∧ Again (DInv h₀ L' L oL ((le, W.listOf ev.toArray ne) :: (la, W.listOf av.toArray na) :: news') le la lm lu es as (sldF (es.length + as.length + 1) es as) s) k s₁) (E := SEx h₀ L' L oL ((le, W.listOf ev.toArray ne) :: (la, W.listOf av.toArray na) :: news') le la lm lu es as (sldF (es.length + as.length + 1) es as) s) ?_ (fun f s₁ hq => ?_) (fun x s₁ hx => ?_)
    · refine wpAny_abs2 fun Qx Ex hQx hEx => ?_
      have hfr' : (A.deeper (sldEnv L')).frames = some [sldEnv L', envL] := by show A.frames.map _ = _; rw [hfr]; rfl
      have hctx : ∀ h, CtxOk (A.deeper (sldEnv L')) .none h := fun h => .inl ⟨by show A.handled = none; exact hh, rfl⟩
      have offr : ∀ (mv6 : List Value) (nm6 : Nat) (uv6 : List Value) (nu6 : Nat), ∀ p ∈ (lm, W.listOf mv6.toArray nm6) :: (lu, W.listOf uv6.toArray nu6) :: (le, W.listOf ev.toArray ne) :: (la, W.listOf av.toArray na) :: news', p.1 ≠ L := fun mv6 nm6 uv6 nu6 p hp => by
        rcases List.mem_cons.mp hp with rfl | hp
        · exact Nat.ne_of_gt hlm1
        · rcases List.mem_cons.mp hp with rfl | hp
          · exact Nat.ne_of_gt hlu2
          · exact hneL p hp
      obtain ⟨k, rfl⟩ := lt_succ hk
      by_cases hi1 : i < es.length
      · have hes : es[i]? = some es[i] := List.getElem?_eq_getElem hi1
        obtain ⟨tx, hvx⟩ := IntsAre.get he i _ hes
        have hvx2 : ev.toArray[((i : Nat) : Int).toNat]? = some (.int es[i] tx) := by rw [Int.toNat_natCast]; simpa using hvx
        have hdropE : es.drop i = es[i] :: es.drop (i + 1) := List.drop_eq_getElem_cons hi1
        generalize es[i] = x at hes hvx hvx2 hdropE
        by_cases hj1 : j < as.length
        · have has : as[j]? = some as[j] := List.getElem?_eq_getElem hj1
          obtain ⟨ty, hvy⟩ := IntsAre.get ha j _ has
          have hvy2 : av.toArray[((j : Nat) : Int).toNat]? = some (.int as[j] ty) := by rw [Int.toNat_natCast]; simpa using hvy
          have hdropA : as.drop j = as[j] :: as.drop (j + 1) := List.drop_eq_getElem_cons hj1
          generalize as[j] = y at has hvy hvy2 hdropA
          have hmv := IntsAre.length hm
          have huv := IntsAre.length hu
          rw [hdropE, hdropA] at hr1 hr2
          repeat' (walk_at "wS")
          · (with_reducible rename Fr _ _ _ _ => F7)
            (with_reducible rename News _ _ _ _ => N7)
            (with_reducible rename _ < _ => hxy)
            rw [show sldF (k + 1) (x :: es.drop (i + 1)) (y :: as.drop (j + 1)) = _ from by rw [sldF, if_pos hxy]] at hr1 hr2
            refine skip_e (i := i + 1) (y := x) hfr' hfL hkL hoL (fun h _ _ => hctx h) X F7 N7 (offr _ _ _ _) rfl rfl rfl (.tail _ (.tail _ (.head _))) he (by omega) hel (fun i' t' h' tk' hii hi'l hdw F8 N8 => ?_) (fun t' x' h' tk' hdw H8 => ?_)
            · obtain ⟨k, rfl⟩ := ms_pos hk hi1
              show wpAny _ _ _ _ _ _
              refine wpAny_execs_nil (wpAny_execs_nil ?_)
              refine hQx _ _ ⟨rfl, Again.mk (m := k + 1) (Nat.lt_succ_self _) ⟨i', j, ms ++ [x], us, _, _, _, _, sl, h', tk', _, rfl, F8, N8, hm.append (.cons _ _ .nil), hu, hi'l, hj, ms1 hk hii hi'l, ?_, ?_, by rw [List.length_append]; exact Nat.le_trans (Nat.succ_le_succ hml) hii, hul, rfl, rfl, rfl, rfl, ⟨_, rfl⟩, ⟨_, rfl⟩⟩⟩
              · rw [hdw, hdropA, List.append_assoc]; exact hr1
              · rw [hdw, hdropA]; exact hr2
            · obtain ⟨k, rfl⟩ := ms_pos hk hi1
              rw [hdw] at hr1 hr2
              refine hEx _ _ ⟨x', .none, es.length, j, ms ++ [x], us, _, _, _, _, [], h', tk', _, rfl, rfl, .inr (by rw [List.append_nil]; exact H8), hm.append (.cons _ _ .nil), hu, Nat.le_refl _, hj, ?_, ?_, by simp; omega, by omega, rfl, rfl, rfl, rfl, ⟨_, rfl⟩, ⟨_, rfl⟩⟩
              · rw [List.drop_length, List.append_nil]; exact hr1
              · rw [hdropA]; exact hr2
          · (with_reducible rename Fr _ _ _ _ => F7)
            (with_reducible rename News _ _ _ _ => N7)
            have hyx : y < x := by omega
            have hxy : ¬ x < y := by omega
            rw [show sldF (k + 1) (x :: es.drop (i + 1)) (y :: as.drop (j + 1)) = _ from by rw [sldF, if_neg hxy, if_pos hyx]] at hr1 hr2
            refine skip_a (i := j + 1) (y := y) hfr' hfL hkL hoL (fun h _ _ => hctx h) X F7 N7 (offr _ _ _ _) rfl rfl rfl (.tail _ (.tail _ (.tail _ (.head _)))) ha (by omega) hal (fun j' t' h' tk' hjj hj'l hdw F8 N8 => ?_) (fun t' x' h' tk' hdw H8 => ?_)
            · obtain ⟨k, rfl⟩ := ms_pos hk hi1
              show wpAny _ _ _ _ _ _
              refine wpAny_execs_nil (wpAny_execs_nil (wpAny_execs_nil ?_))
              refine hQx _ _ ⟨rfl, Again.mk (m := k + 1) (Nat.lt_succ_self _) ⟨i, j', ms, us ++ [y], _, _, _, _, sl, h', tk', _, rfl, F8, N8, hm, hu.append (.cons _ _ .nil), hi, hj'l, ms2 hk hjj hj'l, ?_, ?_, hml, by rw [List.length_append]; exact Nat.le_trans (Nat.succ_le_succ hul) hjj, rfl, rfl, rfl, rfl, ⟨_, rfl⟩, ⟨_, rfl⟩⟩⟩
              · rw [hdw, hdropE]; exact hr1
              · rw [hdw, hdropE, List.append_assoc]; exact hr2
            · obtain ⟨k, rfl⟩ := ms_pos hk hi1
              rw [hdw] at hr1 hr2
              refine hEx _ _ ⟨x', .none, i, as.length, ms, us ++ [y], _, _, _, _, [], h', tk', _, rfl, rfl, .inr (by rw [List.append_nil]; exact H8), hm, hu.append (.cons _ _ .nil), hi, Nat.le_refl _, ?_, ?_, by omega, by simp; omega, rfl, rfl, rfl, rfl, ⟨_, rfl⟩, ⟨_, rfl⟩⟩
              · rw [hdropE]; exact hr1
              · rw [List.drop_length, List.append_nil]; exact hr2
          · (with_reducible rename Fr _ _ _ _ => F7)
            (with_reducible rename News _ _ _ _ => N7)
            have hxy : x = y := by omega
            subst hxy
            rw [show sldF (k + 1) (x :: es.drop (i + 1)) (x :: as.drop (j + 1)) = _ from by rw [sldF, if_neg (Int.lt_irrefl x), if_neg (Int.lt_irrefl x)]] at hr1 hr2
            obtain ⟨k, rfl⟩ := ms_pos hk hi1
            refine wpAny_Try_finally ?_
            repeat' (walk_at "wS")
            refine skip_e (i := i + 1) (y := x) hfr' hfL hkL hoL (fun h _ _ => hctx h) X F7 N7 (offr _ _ _ _) rfl rfl rfl (.tail _ (.tail _ (.head _))) he (by omega) hel (fun i' t' h' tk' hii hi'l hdw F8 N8 => ?_) (fun t' x' h' tk' hdw H8 => ?_)
            · show wpAny _ _ _ _ _ _
              refine wpAny_execs_nil (wpAny_execs_nil ?_)
              clear F7 N7
              repeat' (walk_at "wS")
              (with_reducible rename Fr _ _ _ _ => F9)
              (with_reducible rename News _ _ _ _ => N9)
              refine skip_a (i := j + 1) (y := x) hfr' hfL hkL hoL (fun h _ _ => hctx h) X F9 N9 (offr _ _ _ _) rfl rfl rfl (.tail _ (.tail _ (.tail _ (.head _)))) ha (by omega) hal (fun j' t2 h2 tk2 hjj hj'l hdw2 F10 N10 => ?_) (fun t2 x2 h2 tk2 hdw2 H10 => ?_)
              · show wpAny _ _ _ _ _ _
                repeat refine wpAny_execs_nil ?_
                refine hQx _ _ ⟨rfl, Again.mk (m := k + 1) (Nat.lt_succ_self _) ⟨i', j', ms, us, _, _, _, _, sl, h2, tk2, _, rfl, F10, N10, hm, hu, hi'l, hj'l, ms3 hk hii hi'l hjj hj'l, ?_, ?_, Nat.le_trans hml (Nat.le_of_succ_le hii), Nat.le_trans hul (Nat.le_of_succ_le hjj), rfl, rfl, rfl, rfl, ⟨_, rfl⟩, ⟨_, rfl⟩⟩⟩
                · rw [hdw, hdw2]; exact hr1
                · rw [hdw, hdw2]; exact hr2
              · refine note_again rfl H10 ?_
                refine came_back rfl H10 fun h11 H11 => ?_
                rw [hdw2, sld_nil2] at hr1 hr2
                refine hEx _ _ ⟨x2, .none, i', as.length, ms, us, _, _, _, _, [], h11, tk2, _, rfl, rfl, .inr (by rw [List.append_nil]; exact H11), hm, hu, hi'l, Nat.le_refl _, ?_, ?_, by omega, by omega, rfl, rfl, rfl, rfl, ⟨_, rfl⟩, ⟨_, rfl⟩⟩
                · rw [hdw]; exact hr1
                · rw [List.drop_length]; exact hr2
            · refine note_again rfl H8 ?_
              refine ⟨ref_ne_byPass _, ?_⟩
              refine note_again rfl H8 ?_
              refine set_flight H8 fun h9 H9 => ?_
              obtain ⟨oe, tb, otb, slx, H9⟩ := H9
              obtain ⟨vsx, hdx, hx1, hx2⟩ := H9.dat
              have F9 := H9.fr
              have N9 : News h₀ L' h9 ((L, { oL with slots := slx }) :: (lm, W.listOf mv.toArray nm) :: (lu, W.listOf uv.toArray nu) :: (le, W.listOf ev.toArray ne) :: (la, W.listOf av.toArray na) :: (news' ++ [(x', oe), (tb, otb)])) := fun p hp => H9.news p (by
                exact mem_pick3 [2, 3, 4, 5, 6] 7 [0, 1] rfl p hp)
              clear F7 N7
              repeat' (walk_at "wS")
              (with_reducible rename Fr _ _ _ _ => F9')
              (with_reducible rename News _ _ _ _ => N9')
              have hctx2 : ∀ (h : Heap) sl, News h₀ L' h ((L, { oL with slots := sl }) :: (lm, W.listOf mv.toArray nm) :: (lu, W.listOf uv.toArray nu) :: (le, W.listOf ev.toArray ne) :: (la, W.listOf av.toArray na) :: (news' ++ [(x', oe), (tb, otb)])) → CtxOk ((A.deeper (sldEnv L')).mark (some (.ref x'))) (.ref x') h := fun h sl NN =>
                .inr ⟨x', oe, vsx, rfl, rfl, (NN (x', oe) (by simp)).1, hdx, hx2⟩
              have offr2 : ∀ p ∈ (lm, W.listOf mv.toArray nm) :: (lu, W.listOf uv.toArray nu) :: (le, W.listOf ev.toArray ne) :: (la, W.listOf av.toArray na) :: (news' ++ [(x', oe), (tb, otb)]), p.1 ≠ L := fun p hp => by
                have hp : p ∈ (x', oe) :: (tb, otb) :: (lm, W.listOf mv.toArray nm) :: (lu, W.listOf uv.toArray nu) :: (le, W.listOf ev.toArray ne) :: (la, W.listOf av.toArray na) :: news' := mem_pick3 [2, 3, 4, 5] 6 [0, 1] rfl p hp
                rcases List.mem_cons.mp hp with rfl | hp
                · exact H9.ne2
                rcases List.mem_cons.mp hp with rfl | hp
                · exact H9.ne3
                · exact offr mv nm uv nu p hp
              refine skip_a (A' := (A.deeper (sldEnv L')).mark (some (.ref x'))) (i := j + 1) (y := x) hfr' hfL hkL hoL hctx2 X F9' N9' offr2 rfl rfl rfl (.tail _ (.tail _ (.tail _ (.head _)))) ha (by omega) hal (fun j' t2 h2 tk2 hjj hj'l hdw2 F10 N10 => ?_) (fun t2 x2 h2 tk2 hdw2 H10 => ?_)
              · show wpAny _ _ _ _ _ _
                refine wpAny_execs_nil ?_
                have H12 : Held h₀ L' L oL _ x' .none .none ((lm, W.listOf mv.toArray nm) :: (lu, W.listOf uv.toArray nu) :: (le, W.listOf ev.toArray ne) :: (la, W.listOf av.toArray na) :: news') h2 := ⟨oe, tb, otb, slx, F10, fun p hp => N10 p (by
                  exact mem_mid [_, _, _, _, _] [_, _] hp), H9.cls, H9.dat, H9.tbd, H9.ne1, H9.ne2, H9.ne3, H9.off⟩
                refine pass_on rfl H12 fun h13 H13 => ?_
                rw [hdw] at hr1 hr2
                refine hEx _ _ ⟨x', .none, es.length, j', ms, us, _, _, _, _, [], h13, tk2, _, rfl, rfl, .inr (by rw [List.append_nil]; exact H13), hm, hu, Nat.le_refl _, hj'l, ?_, ?_, by omega, by omega, rfl, rfl, rfl, rfl, ⟨_, rfl⟩, ⟨_, rfl⟩⟩
                · rw [List.drop_length]; exact hr1
                · rw [hdw2]; exact hr2
              · refine note_again rfl H10 ?_
                refine came_back rfl H10 fun h11 H11 => ?_
                rw [hdw, hdw2] at hr1 hr2
                refine hEx _ _ ⟨x2, .ref x', es.length, as.length, ms, us, _, _, _, _, [(x', oe), (tb, otb)], h11, tk2, _, rfl, rfl, .inr H11, hm, hu, Nat.le_refl _, Nat.le_refl _, ?_, ?_, by omega, by omega, rfl, rfl, rfl, rfl, ⟨_, rfl⟩, ⟨_, rfl⟩⟩
                · rw [List.drop_length]; exact hr1
                · rw [List.drop_length]; exact hr2
        · repeat' (walk_at "v3")
          (with_reducible rename Fr _ _ _ _ => F7)
          (with_reducible rename News _ _ _ _ => N7)
          have hj' : j = as.length := by omega
          refine item_out (hctx _) (News.isList N7 (by k_mem)) (by omega) (by rw [List.size_toArray]; omega) (by omega) fun h8 tk8 e8 hn8 => ?_
          have hdA : as.drop j = [] := List.drop_eq_nil_of_le (by omega)
          rw [hdropE, hdA] at hr1 hr2
          refine hEx _ _ ⟨e8, .none, i, j, ms, us, _, _, _, _, [], h8, tk8, _, rfl, rfl, .inl (by rw [List.append_nil]; exact fresh_of hn8 F7 N7 (offr _ _ _ _)), hm, hu, hi, hj, ?_, ?_, hml, hul, rfl, rfl, rfl, rfl, ⟨_, rfl⟩, ⟨_, rfl⟩⟩
          · rw [hdropE]; exact hr1
          · rw [hdA]; exact hr2
      · repeat' (walk_at "u4")
        (with_reducible rename Fr _ _ _ _ => F7)
        (with_reducible rename News _ _ _ _ => N7)
        have hi' : i = es.length := by omega
        refine item_out (hctx _) (News.isList N7 (by k_mem)) (by omega) (by rw [List.size_toArray]; omega) (by omega) fun h8 tk8 e8 hn8 => ?_
        have hdE : es.drop i = [] := List.drop_eq_nil_of_le (by omega)
        rw [hdE] at hr1 hr2
        refine hEx _ _ ⟨e8, .none, i, j, ms, us, _, _, _, _, [], h8, tk8, _, rfl, rfl, .inl (by rw [List.append_nil]; exact fresh_of hn8 F7 N7 (offr _ _ _ _)), hm, hu, hi, hj, ?_, ?_, hml, hul, rfl, rfl, rfl, rfl, ⟨_, rfl⟩, ⟨_, rfl⟩⟩
        · rw [hdE]; exact hr1
        · exact hr2
    · obtain ⟨rfl, hq⟩ := hq
      exact wpAny_execs_nil (wpAny_execs_nil hq)
    · obtain ⟨e, c, i2, j2, ms2, us2, mv2, uv2, nm2, nu2, extra, h2, tk2, m2, rfl, rfl, H, hm2, hu2, hi2, hj2, hr21, hr22, hml2, hul2, hs21, hs22, hs23, hs24, ⟨ti2, hs25⟩, ⟨tj2, hs26⟩⟩ := hx
      refine note_any (by show A.frames.map _ = _; rw [hfr]; rfl) rfl hfL (by show ScopeKind.function ≠ .module; decide) hkL hoL H fun h3 H3 => ?_
      refine set_flight H3 fun h4 H4 => ?_
      obtain ⟨sl4, F4, N4, hT4⟩ := Held.drop (s := ⟨h4, s.gens, s.drawn, tk2, s.os⟩) H4
      refine wpAny_handleBy_builtin (X := "IndexError") (T := "IndexError") (b := true) (isSubtype_of_subB (by decide +kernel)) (isSubtype_of_subB (by decide +kernel)) (isSubtype_of_subB (by decide +kernel)) ?_
      dsimp only at F4 N4
      refine wpAny_mono (Q := fun c s₁ => c = .type "IndexError" ∧ s₁ = ⟨h4, s.gens, s.drawn, tk2, s.os⟩) (E := fun _ _ => False) ?_ (fun c s₁ hc => ?_) (fun _ _ h => h.elim)
      · repeat' (walk_at "wS")
      · obtain ⟨rfl, rfl⟩ := hc
        refine ⟨rfl, hT4, ?_⟩
        rw [if_pos rfl]
        refine set_flight H4 fun h5 H5 => ?_
        obtain ⟨sl5, F5, N5, hT5⟩ := Held.drop (s := ⟨h5, s.gens, s.drawn, tk2, s.os⟩) H5
        dsimp only at F5 N5
        have F6 := Fr.know (Fr.know (Fr.know (Fr.know (Fr.know (Fr.know F5 (a := Str.ofString "expected") hs21) (a := Str.ofString "actual") (by rw [if_neg (by decide)]; exact hs22)) (a := Str.ofString "missing") (by rw [if_neg (by decide), if_neg (by decide)]; exact hs23)) (a := Str.ofString "unexpected") (by rw [if_neg (by decide), if_neg (by decide), if_neg (by decide)]; exact hs24)) (a := Str.ofString "i") (by rw [if_neg (by decide), if_neg (by decide), if_neg (by decide), if_neg (by decide)]; exact hs25)) (a := Str.ofString "j") (by rw [if_neg (by decide), if_neg (by decide), if_neg (by decide), if_neg (by decide), if_neg (by decide)]; exact hs26)
        have N6 : News h₀ L' h5 ((L, { oL with slots := sl5 }) :: (lm, W.listOf mv2.toArray nm2) :: (lu, W.listOf uv2.toArray nu2) :: (le, W.listOf ev.toArray ne) :: (la, W.listOf av.toArray na) :: news') := fun p hp => N5 p (by
          rcases List.mem_cons.mp hp with rfl | hp
          · exact .head _
          · exact .tail _ (List.mem_append_left _ hp))
        clear F5 F4 N4 F' N N5
        refine wpAny_mono (E := fun _ _ => False) ?_ (fun _ _ h => h) (fun _ _ h => h.elim)
        repeat' (walk_at "wS")
        (with_reducible rename Fr _ _ _ _ => F7)
        (with_reducible rename News _ _ _ _ => N7)
        (with_reducible rename IntsAre _ (List.drop _ es) => hI7)
        (with_reducible rename _ ∧ _ ∧ _ ∧ _ ∧ _ ∧ AllLt _ _ => l7)
        have z1 := ltN l7.1
        have z2 := ltN l7.2.1
        have z3 := ltN l7.2.2.1
        have z4 := ltN l7.2.2.2.1
        have z5 := ltN l7.2.2.2.2.1
        have hw7 := IntsAre.length hI7
        rw [List.length_drop] at hw7
        have hmv2 := IntsAre.length hm2
        have huv2 := IntsAre.length hu2
        refine extend_in (own := [_, _]) F7 N7 (List.forall_mem_cons.mpr ⟨Nat.ne_of_gt z2, List.forall_mem_cons.mpr ⟨Nat.ne_of_lt hlm1, List.forall_mem_nil _⟩⟩) (List.forall_mem_cons.mpr ⟨Nat.ne_of_gt hlu1, List.forall_mem_cons.mpr ⟨Nat.ne_of_lt hlm2, List.forall_mem_cons.mpr ⟨Nat.ne_of_lt hlm3, fun p hp => hom p hp _ (.head _)⟩⟩⟩) (N7 _ (.head _)).1 (fun h8 n8 F8 N8 => ?_) (by rw [List.size_toArray, PySem.sizeLine_eq]; omega)
        simp only [List.cons_append, List.nil_append] at N8
        have N8 : News h₀ L' h8 _ := fun p hp => N8 p (.tail _ hp)
        clear N7 F7
        repeat' (walk_at "wS")
        (with_reducible rename Fr _ _ _ _ => F7)
        (with_reducible rename News _ _ _ _ => N7)
        (with_reducible rename IntsAre _ (List.drop _ as) => hJ7)
        have hw8 := IntsAre.length hJ7
        rw [List.length_drop] at hw8
        (with_reducible rename _ ∧ _ ∧ _ ∧ _ ∧ _ ∧ AllLt _ _ => l8)
        have y1 := ltN l8.1
        have y2 := ltN l8.2.1
        have y3 := ltN l8.2.2.1
        have y4 := ltN l8.2.2.2.1
        have y5 := ltN l8.2.2.2.2.1
        refine extend_in (own := [_, _, _]) F7 N7 (List.forall_mem_cons.mpr ⟨Nat.ne_of_gt y3, List.forall_mem_cons.mpr ⟨Nat.ne_of_lt hlu2, List.forall_mem_cons.mpr ⟨Nat.ne_of_lt hlu1, List.forall_mem_nil _⟩⟩⟩) (List.forall_mem_cons.mpr ⟨Nat.ne_of_lt hlu3, List.forall_mem_cons.mpr ⟨Nat.ne_of_lt hlu4, fun p hp => hou p hp _ (.head _)⟩⟩) (N7 _ (.head _)).1 (fun h9 n9 F9 N9 => ?_) (by rw [List.size_toArray, PySem.sizeLine_eq]; omega)
        simp only [List.cons_append, List.nil_append] at N9
        have N9 : News h₀ L' h9 _ := fun p hp => N9 p (.tail _ hp)
        clear N7 F7
        repeat' (walk_at "wS")
        (with_reducible rename Fr _ _ _ _ => F7)
        (with_reducible rename News _ _ _ _ => N7)
        (with_reducible rename _ ∧ _ ∧ _ ∧ _ ∧ _ ∧ AllLt _ _ => l9)
        have hl9 := leaveL (m := m) (news := (_, _) :: (lm, _) :: (lu, _) :: (le, _) :: (la, _) :: news') hns hab F7 (fun p hp => N7 p (by
          rcases List.mem_cons.mp hp with rfl | hp
          · exact .tail _ (.head _)
          · rcases List.mem_cons.mp hp with rfl | hp
            · exact .head _
            · exact .tail _ (.tail _ hp))) (fun p hp => ?_)
        · refine hR _ _ _ lm lu _ _ _ _ hl9.1 hl9.2 (by rw [← hr21]; exact hm2.append (by simpa using hI7)) (by rw [← hr22]; exact hu2.append (by simpa using hJ7)) ?_ ?_ ?_ hlm1
          · exact hlm.2
          · exact hlu1
          · exact l9.2.2.1
        · rcases List.mem_cons.mp hp with rfl | hp
          · exact Nat.ne_of_gt l9.1
          · rcases List.mem_cons.mp hp with rfl | hp
            · exact Nat.ne_of_gt hlm1
            · rcases List.mem_cons.mp hp with rfl | hp
              · exact Nat.ne_of_gt hlu2
              · exact hneL p hp
  · rcases List.mem_cons.mp hp with rfl | hp
    · exact .tail _ (.tail _ (.head _))
    · rcases List.mem_cons.mp hp with rfl | hp
      · exact .tail _ (.head _)
      · rcases List.mem_cons.mp hp with rfl | hp
        · exact .head _
        · exact .tail _ (.tail _ (.tail _ hp))
end
end
section /- PL1 -/
/-! the row of brackets, by numbers alone -/
noncomputable def opn (k : Nat) : Bool := k == 0 || k == 2
noncomputable def cls (k : Nat) : Bool := k == 1 || k == 3
theorem opn_cls {k : Nat} (h : opn k = true) : cls k = false := by
  unfold opn at h; unfold cls
  simp at h ⊢; omega
/-- the openings around place k -/
noncomputable def stk (f : Nat → Nat) : Nat → List Nat
  | 0 => []
  | i + 1 => if opn (f i) = true then stk f i ++ [i] else if cls (f i) = true then (stk f i).dropLast else stk f i
/-- from place i on, j pieces: what was closed (a count) and what was opened -/
noncomputable def run (f : Nat → Nat) (i : Nat) : Nat → Nat × List Nat
  | 0 => (0, [])
  | j + 1 => if opn (f (i + j)) = true then ((run f i j).1, (run f i j).2 ++ [i + j])
    else if cls (f (i + j)) = true then (if (run f i j).2 = [] then ((run f i j).1 + 1, []) else ((run f i j).1, (run f i j).2.dropLast))
    else run f i j
noncomputable def ValidTo (f : Nat → Nat) (n : Nat) : Prop := ∀ p, p < n → cls (f p) = true → stk f p ≠ []

theorem stk_lt (f : Nat → Nat) : ∀ (i x : Nat), x ∈ stk f i → x < i
  | 0, _, h => by cases h
  | i + 1, x, h => by
    rw [stk] at h
    split at h
    · rcases List.mem_append.mp h with h | h
      · exact Nat.lt_succ_of_lt (stk_lt f i x h)
      · rw [List.mem_singleton.mp h]; exact Nat.lt_succ_self i
    · split at h
      · exact Nat.lt_succ_of_lt (stk_lt f i x (List.dropLast_subset _ h))
      · exact Nat.lt_succ_of_lt (stk_lt f i x h)
theorem stk_sorted (f : Nat → Nat) : ∀ i, (stk f i).Pairwise (· < ·)
  | 0 => .nil
  | i + 1 => by
    rw [stk]
    split
    · refine List.pairwise_append.mpr ⟨stk_sorted f i, List.pairwise_singleton _ _, fun a ha b hb => ?_⟩
      rw [List.mem_singleton.mp hb]; exact stk_lt f i a ha
    · split
      · exact (stk_sorted f i).sublist (List.dropLast_sublist _)
      · exact stk_sorted f i
theorem stk_cut (f : Nat → Nat) : ∀ (k i : Nat) (l r : List Nat), stk f k = l ++ i :: r → opn (f i) = true ∧ l = stk f i
  | 0, i, l, r, h => by simp [stk] at h
  | k + 1, i, l, r, h => by
    rw [stk] at h
    split at h
    · rename_i ho
      rcases List.eq_nil_or_concat r with rfl | ⟨r', z, rfl⟩
      · have h2 := List.append_inj' h rfl
        have : k = i := by simpa using h2.2
        subst this
        exact ⟨ho, h2.1.symm⟩
      · rw [List.concat_eq_append, ← List.cons_append, ← List.append_assoc] at h
        exact stk_cut f k i l r' (List.append_inj' h rfl).1
    · split at h
      · have hne : stk f k ≠ [] := fun e => by rw [e] at h; simp at h
        have e := List.dropLast_concat_getLast hne
        rw [h, List.append_assoc] at e
        exact stk_cut f k i l (r ++ [(stk f k).getLast hne]) (by rw [← List.cons_append]; exact e.symm)
      · exact stk_cut f k i l r h
theorem run_new (f : Nat → Nat) (i : Nat) : ∀ (j x : Nat), x ∈ (run f i j).2 → i ≤ x ∧ x < i + j
  | 0, _, h => by simp [run] at h
  | j + 1, x, h => by
    have ih := run_new f i j x
    rw [run] at h
    split at h
    · rcases List.mem_append.mp h with h | h
      · have := ih h; omega
      · rw [List.mem_singleton.mp h]; omega
    · split at h
      · split at h
        · cases h
        · have := ih (List.dropLast_subset _ h); omega
      · have := ih h; omega
theorem take_length_sub_snoc {α : Type} (l : List α) (c : Nat) : (l.take (l.length - c)).dropLast = l.take (l.length - (c + 1)) := by
  rw [List.dropLast_eq_take, List.take_take, List.length_take, Nat.min_eq_left (Nat.sub_le ..), Nat.min_eq_left (Nat.sub_le ..), Nat.sub_sub]
theorem run_stk (f : Nat → Nat) (i n : Nat) (hv : ValidTo f n) : ∀ j, i + j ≤ n → (run f i j).1 ≤ (stk f i).length ∧ stk f (i + j) = (stk f i).take ((stk f i).length - (run f i j).1) ++ (run f i j).2
  | 0, _ => by simp [run]
  | j + 1, hj => by
    obtain ⟨h1, h2⟩ := run_stk f i n hv j (by omega)
    rw [run, show i + (j + 1) = i + j + 1 from rfl, stk]
    split
    · exact ⟨h1, by rw [h2, List.append_assoc]⟩
    · split
      · rename_i hc
        have hne := hv (i + j) (by omega) hc
        split
        · rename_i he
          rw [he, List.append_nil] at h2
          have hlt : (run f i j).1 < (stk f i).length := by
            rcases Nat.lt_or_ge (run f i j).1 (stk f i).length with h | h
            · exact h
            · rw [h2, show (stk f i).length - (run f i j).1 = 0 by omega] at hne; simp at hne
          refine ⟨hlt, ?_⟩
          rw [h2, List.append_nil, take_length_sub_snoc]
        · rename_i he
          exact ⟨h1, by rw [h2, List.dropLast_append_of_ne_nil he]⟩
      · exact ⟨h1, h2⟩

/-- the count of `_check_parenthesis`; none: a closing one came too soon -/
noncomputable def bstep (o : Option Nat) (k : Nat) : Option Nat :=
  match o with
  | none => none
  | some o => if opn k = true then some (o + 1) else if cls k = true then (if o = 0 then none else some (o - 1)) else some o
noncomputable def bal (l : List Nat) : Bool := l.foldl bstep (some 0) == some 0
theorem run_bal (f : Nat → Nat) (i : Nat) : ∀ j, ((List.range j).map fun t => f (i + t)).foldl bstep (some 0) = if (run f i j).1 = 0 then some (run f i j).2.length else none
  | 0 => by simp [run]
  | j + 1 => by
    rw [List.range_succ, List.map_append, List.foldl_append, run_bal f i j, run]
    simp only [List.map_cons, List.map_nil, List.foldl_cons, List.foldl_nil]
    by_cases ho : opn (f (i + j)) = true
    · by_cases h0 : (run f i j).1 = 0 <;> simp [ho, h0, bstep]
    · by_cases hc : cls (f (i + j)) = true
      · by_cases h0 : (run f i j).1 = 0
        · by_cases he : (run f i j).2 = []
          · simp [ho, hc, h0, he, bstep]
          · have : (run f i j).2.length ≠ 0 := fun e => he (List.eq_nil_of_length_eq_zero e)
            simp [ho, hc, h0, he, bstep]
        · by_cases he : (run f i j).2 = []
          · simp [ho, hc, h0, he, bstep]
          · simp [ho, hc, h0, he, bstep]
      · by_cases h0 : (run f i j).1 = 0 <;> simp [ho, hc, h0, bstep]
theorem bal_iff (f : Nat → Nat) (i j : Nat) : bal ((List.range j).map fun t => f (i + t)) = true ↔ run f i j = (0, []) := by
  unfold bal
  rw [run_bal]
  by_cases h0 : (run f i j).1 = 0
  · rw [if_pos h0]
    constructor
    · intro h
      have : (run f i j).2 = [] := by simpa using h
      exact Prod.ext h0 this
    · intro h; rw [h]; rfl
  · rw [if_neg h0]
    constructor
    · intro h; simp at h
    · intro h; rw [h] at h0; exact absurd rfl h0
/-- balanced between an opening p and a place q: the row at q is that at p and p -/
theorem bal_open (f : Nat → Nat) {p q n : Nat} (hv : ValidTo f n) (ho : opn (f p) = true) (hpq : p < q) (hq : q ≤ n) : bal ((List.range (q - (p + 1))).map fun t => f (p + 1 + t)) = true ↔ stk f q = stk f p ++ [p] := by
  have hs : stk f (p + 1) = stk f p ++ [p] := by rw [stk, if_pos ho]
  obtain ⟨h1, h2⟩ := run_stk f (p + 1) n hv (q - (p + 1)) (by omega)
  rw [show p + 1 + (q - (p + 1)) = q by omega] at h2
  rw [bal_iff]
  constructor
  · intro h
    rw [h2, h]
    simp only [Nat.sub_zero, List.append_nil, List.take_length, hs]
  · intro h
    have hne : ∀ x ∈ (run f (p + 1) (q - (p + 1))).2, False := fun x hx => by
      have hb := run_new f (p + 1) _ x hx
      have : x ∈ stk f q := by rw [h2]; exact List.mem_append_right _ hx
      rw [h] at this
      rcases List.mem_append.mp this with h | h
      · have := stk_lt f p x h; omega
      · have := List.mem_singleton.mp h; omega
    have hnil : (run f (p + 1) (q - (p + 1))).2 = [] := List.eq_nil_iff_forall_not_mem.mpr hne
    refine Prod.ext ?_ hnil
    have hl := congrArg List.length h2
    rw [h, ← hs, hnil, List.append_nil, List.length_take] at hl
    show (run f (p + 1) (q - (p + 1))).1 = 0
    omega
/-- one step of `_law_around` -/
noncomputable def rStep (f : Nat → Nat) (st : List Nat × Nat) (i : Nat) : List Nat × Nat :=
  if opn (f i) = true ∧ bal ((List.range (st.2 - (i + 1))).map fun t => f (i + 1 + t)) = true then (st.1 ++ [i], i) else st
theorem around_inv (f : Nat → Nat) {k n : Nat} (hv : ValidTo f n) (hk : k ≤ n) : ∀ j, j ≤ k → stk f k = stk f ((List.range j).foldl (fun st j => rStep f st (k - 1 - j)) ([], k)).2 ++ ((List.range j).foldl (fun st j => rStep f st (k - 1 - j)) ([], k)).1.reverse ∧
    k - j ≤ ((List.range j).foldl (fun st j => rStep f st (k - 1 - j)) ([], k)).2 ∧ ((List.range j).foldl (fun st j => rStep f st (k - 1 - j)) ([], k)).2 ≤ k ∧ ∀ x ∈ stk f ((List.range j).foldl (fun st j => rStep f st (k - 1 - j)) ([], k)).2, x < k - j
  | 0, _ => ⟨by simp, Nat.le_refl _, Nat.le_refl _, fun x hx => stk_lt f k x hx⟩
  | j + 1, hj => by
    obtain ⟨h1, h2, h2', h3⟩ := around_inv f hv hk j (by omega)
    rw [List.range_succ, List.foldl_append]
    generalize (List.range j).foldl (fun st j => rStep f st (k - 1 - j)) ([], k) = st at h1 h2 h2' h3 ⊢
    obtain ⟨fd, q⟩ := st
    simp only [List.foldl_cons, List.foldl_nil]
    obtain ⟨i, hi⟩ : ∃ i, i = k - 1 - j := ⟨_, rfl⟩
    rw [← hi]
    dsimp only at h1 h2 h2' h3 ⊢
    have hiq : i < q := by omega
    unfold rStep
    split
    · rename_i hc
      have hb := (bal_open f hv hc.1 hiq (by omega)).mp hc.2
      refine ⟨?_, by dsimp only; omega, by dsimp only; omega, fun x hx => ?_⟩
      · rw [h1, hb]; simp
      · have := stk_lt f i x hx; omega
    · rename_i hc
      refine ⟨h1, by dsimp only; omega, h2', fun x hx => ?_⟩
      have hx1 := h3 x hx
      rcases Nat.lt_or_ge x i with h | h
      · omega
      · have : x = i := by omega
        subst this
        exfalso
        obtain ⟨l, r, e⟩ := List.append_of_mem hx
        obtain ⟨ho, hl⟩ := stk_cut f q x l r e
        have hr : r = [] := by
          refine List.eq_nil_iff_forall_not_mem.mpr fun y hy => ?_
          have hs := stk_sorted f q
          rw [e] at hs
          have := (List.pairwise_cons.mp (List.pairwise_append.mp hs).2.1).1 y hy
          have hy2 := h3 y (by rw [e]; simp [hy])
          omega
        subst hr
        exact hc ⟨ho, (bal_open f hv ho hiq (by omega)).mpr (by rw [e, hl])⟩
theorem around_stk (f : Nat → Nat) {k n : Nat} (hv : ValidTo f n) (hk : k ≤ n) : ((List.range k).foldl (fun st j => rStep f st (k - 1 - j)) ([], k)).1.reverse = stk f k := by
  obtain ⟨h1, _, _, h3⟩ := around_inv f hv hk k (Nat.le_refl k)
  have : stk f ((List.range k).foldl (fun st j => rStep f st (k - 1 - j)) ([], k)).2 = [] := List.eq_nil_iff_forall_not_mem.mpr fun x hx => by have := h3 x hx; omega
  rw [this] at h1
  exact h1.symm
end
section /- PL2 -/
noncomputable def rep (c : Nat → Nat) (rs : List Nat) : List Int := rs.flatMap fun i => List.replicate (c i) (i : Int)
theorem rep_cons (c : Nat → Nat) (i : Nat) (rs : List Nat) : rep c (i :: rs) = List.replicate (c i) (i : Int) ++ rep c rs := by simp [rep]
theorem rep_append (c : Nat → Nat) (a b : List Nat) : rep c (a ++ b) = rep c a ++ rep c b := by simp [rep]
theorem mem_rep {c : Nat → Nat} {rs : List Nat} {x : Int} (h : x ∈ rep c rs) : ∃ i ∈ rs, x = (i : Int) := by
  unfold rep at h
  obtain ⟨i, hi, hx⟩ := List.mem_flatMap.mp h
  exact ⟨i, hi, (List.mem_replicate.mp hx).2⟩
theorem drop_rep {e : Int} {E : List Int} (h : ∀ x ∈ E, x ≠ e) : ∀ m, (List.replicate m e ++ E).dropWhile (· == e) = E
  | 0 => by
    cases E with
    | nil => rfl
    | cons x r =>
      have := h x (.head _)
      simp [this]
  | m + 1 => by
    rw [List.replicate_succ, List.cons_append, List.dropWhile_cons, if_pos (by simp)]
    exact drop_rep h m
theorem sld_lt {k m : Nat} {e a : Int} {E A : List Int} (hm : 1 ≤ m) (hE : ∀ x ∈ E, x ≠ e) (h : e < a) : sldF (k + 1) (List.replicate m e ++ E) (a :: A) = (e :: (sldF k E (a :: A)).1, (sldF k E (a :: A)).2) := by
  obtain ⟨m, rfl⟩ : ∃ m', m = m' + 1 := ⟨m - 1, by omega⟩
  rw [List.replicate_succ, List.cons_append, sldF, if_pos h, drop_rep hE]
theorem sld_gt {k m : Nat} {e a : Int} {E A : List Int} (hm : 1 ≤ m) (hA : ∀ x ∈ A, x ≠ a) (h : a < e) : sldF (k + 1) (e :: E) (List.replicate m a ++ A) = ((sldF k (e :: E) A).1, a :: (sldF k (e :: E) A).2) := by
  obtain ⟨m, rfl⟩ : ∃ m', m = m' + 1 := ⟨m - 1, by omega⟩
  rw [List.replicate_succ, List.cons_append, sldF, if_neg (by omega), if_pos h, drop_rep hA]
theorem sld_same {k m m' : Nat} {e : Int} {E A : List Int} (hm : 1 ≤ m) (hm' : 1 ≤ m') (hE : ∀ x ∈ E, x ≠ e) (hA : ∀ x ∈ A, x ≠ e) : sldF (k + 1) (List.replicate m e ++ E) (List.replicate m' e ++ A) = sldF k E A := by
  obtain ⟨m, rfl⟩ : ∃ m', m = m' + 1 := ⟨m - 1, by omega⟩
  obtain ⟨m', rfl⟩ : ∃ m'', m' = m'' + 1 := ⟨m' - 1, by omega⟩
  rw [List.replicate_succ, List.cons_append, List.replicate_succ, List.cons_append, sldF, if_neg (by omega), if_neg (by omega), drop_rep hE, drop_rep hA]
theorem sld_common {c₁ c₂ : Nat → Nat} (h1 : ∀ i, 1 ≤ c₁ i) (h2 : ∀ i, 1 ≤ c₂ i) {E A : List Int} : ∀ (C : List Nat) (k : Nat), C.Pairwise (· < ·) → (∀ i ∈ C, (∀ x ∈ E, (i : Int) < x) ∧ ∀ x ∈ A, (i : Int) < x) →
    sldF (k + C.length) (rep c₁ C ++ E) (rep c₂ C ++ A) = sldF k E A
  | [], _, _, _ => by simp [rep]
  | i :: C, k, hp, hb => by
    have hi := hb i (.head _)
    have hs := List.pairwise_cons.mp hp
    rw [rep_cons, rep_cons, List.append_assoc, List.append_assoc, List.length_cons, show k + (C.length + 1) = (k + C.length) + 1 by omega, sld_same (h1 i) (h2 i)]
    · exact sld_common h1 h2 C k hs.2 fun i hi => hb i (.tail _ hi)
    all_goals
      intro x hx
      rcases List.mem_append.mp hx with hx | hx
      · obtain ⟨j, hj, rfl⟩ := mem_rep hx
        have := hs.1 j hj; omega
    · have := hi.1 x hx; omega
    · have := hi.2 x hx; omega
theorem sld_missing {c : Nat → Nat} (h1 : ∀ i, 1 ≤ c i) {E A : List Int} {a : Int} : ∀ (X : List Nat) (k : Nat), X.Pairwise (· < ·) → (∀ i ∈ X, (i : Int) < a ∧ ∀ x ∈ E, (i : Int) < x) →
    sldF (k + X.length) (rep c X ++ E) (a :: A) = (X.map (fun (n : Nat) => (n : Int)) ++ (sldF k E (a :: A)).1, (sldF k E (a :: A)).2)
  | [], _, _, _ => by simp [rep]
  | i :: X, k, hp, hb => by
    have hi := hb i (.head _)
    have hs := List.pairwise_cons.mp hp
    rw [rep_cons, List.append_assoc, List.length_cons, show k + (X.length + 1) = (k + X.length) + 1 by omega, sld_lt (h1 i) _ hi.1, sld_missing h1 X k hs.2 fun i hi => hb i (.tail _ hi)]
    · rfl
    · intro x hx
      rcases List.mem_append.mp hx with hx | hx
      · obtain ⟨j, hj, rfl⟩ := mem_rep hx
        have := hs.1 j hj; omega
      · have := hi.2 x hx; omega
theorem sld_extra {c : Nat → Nat} (h1 : ∀ i, 1 ≤ c i) {E A : List Int} {e : Int} : ∀ (X : List Nat) (k : Nat), X.Pairwise (· < ·) → (∀ i ∈ X, (i : Int) < e ∧ ∀ x ∈ A, (i : Int) < x) →
    sldF (k + X.length) (e :: E) (rep c X ++ A) = ((sldF k (e :: E) A).1, X.map (fun (n : Nat) => (n : Int)) ++ (sldF k (e :: E) A).2)
  | [], _, _, _ => by simp [rep]
  | i :: X, k, hp, hb => by
    have hi := hb i (.head _)
    have hs := List.pairwise_cons.mp hp
    rw [rep_cons, List.append_assoc, List.length_cons, show k + (X.length + 1) = (k + X.length) + 1 by omega, sld_gt (h1 i) _ hi.1, sld_extra h1 X k hs.2 fun i hi => hb i (.tail _ hi)]
    · rfl
    · intro x hx
      rcases List.mem_append.mp hx with hx | hx
      · obtain ⟨j, hj, rfl⟩ := mem_rep hx
        have := hs.1 j hj; omega
      · have := hi.2 x hx; omega
theorem rep_length_ge {c : Nat → Nat} (h1 : ∀ i, 1 ≤ c i) : ∀ X : List Nat, X.length ≤ (rep c X).length
  | [] => Nat.zero_le _
  | i :: X => by
    have := rep_length_ge h1 X
    have := h1 i
    rw [rep_cons, List.length_append, List.length_replicate, List.length_cons]; omega
/-- the first asking: which were closed, which opened -/
theorem sld_first {c₁ c₂ : Nat → Nat} (h1 : ∀ i, 1 ≤ c₁ i) (h2 : ∀ i, 1 ≤ c₂ i) {C A B : List Nat} {n fu : Nat} (hA : (C ++ A).Pairwise (· < ·)) (hB : (C ++ B).Pairwise (· < ·)) (hAB : ∀ a ∈ A, ∀ b ∈ B, a < b) (hn : ∀ i ∈ C ++ A ++ B, i < n)
    (hf : (rep c₁ (C ++ A) ++ [(n : Int)]).length + (rep c₂ (C ++ B) ++ [(n : Int)]).length < fu) :
    sldF fu (rep c₁ (C ++ A) ++ [(n : Int)]) (rep c₂ (C ++ B) ++ [(n : Int)]) = (A.map (fun (n : Nat) => (n : Int)), B.map (fun (n : Nat) => (n : Int))) := by
  obtain ⟨pC, pA, pCA⟩ := List.pairwise_append.mp hA
  obtain ⟨_, pB, pCB⟩ := List.pairwise_append.mp hB
  have nC : ∀ i ∈ C, i < n := fun i hi => hn i (by simp [hi])
  have nA : ∀ i ∈ A, i < n := fun i hi => hn i (by simp [hi])
  have nB : ∀ i ∈ B, i < n := fun i hi => hn i (by simp [hi])
  have l1 := rep_length_ge h1 (C ++ A)
  have l2 := rep_length_ge h2 (C ++ B)
  rw [List.length_append] at l1 l2
  rw [List.length_append, List.length_append] at hf
  simp only [List.length_cons, List.length_nil] at hf
  obtain ⟨k, rfl⟩ : ∃ k, fu = k + 2 + B.length + A.length + C.length := ⟨fu - 2 - B.length - A.length - C.length, by omega⟩
  rw [rep_append, rep_append, List.append_assoc, List.append_assoc, sld_common h1 h2 C _ pC]
  · have tail : ∀ E : List Int, E = [(n : Int)] → sldF (k + 2 + B.length) E (rep c₂ B ++ [(n : Int)]) = ([], B.map (fun (n : Nat) => (n : Int))) := fun E hE => by
      subst hE
      rw [sld_extra h2 B _ pB fun i hi => ⟨by have := nB i hi; omega, fun x hx => by rw [List.mem_singleton.mp hx]; have := nB i hi; omega⟩]
      have : sldF (k + 2) [(n : Int)] [(n : Int)] = ([], []) := by simp [sldF]
      rw [this]; simp
    obtain ⟨a, r, har⟩ : ∃ a r, rep c₂ B ++ [(n : Int)] = a :: r := by
      cases e : rep c₂ B ++ [(n : Int)] with
      | nil => simp at e
      | cons a r => exact ⟨a, r, rfl⟩
    have ha : a ∈ rep c₂ B ++ [(n : Int)] := by rw [har]; exact .head _
    have t := tail _ rfl
    rw [har] at t ⊢
    rw [sld_missing h1 A _ pA, t]
    · simp
    · intro i hi
      refine ⟨?_, fun x hx => by rw [List.mem_singleton.mp hx]; have := nA i hi; omega⟩
      rcases List.mem_append.mp ha with h | h
      · obtain ⟨j, hj, rfl⟩ := mem_rep h
        have := hAB i hi j hj; omega
      · rw [List.mem_singleton.mp h]; have := nA i hi; omega
  · intro i hi
    refine ⟨fun x hx => ?_, fun x hx => ?_⟩
    all_goals
      rcases List.mem_append.mp hx with h | h
    · obtain ⟨j, hj, rfl⟩ := mem_rep h
      have := pCA i hi j hj; omega
    · rw [List.mem_singleton.mp h]; have := nC i hi; omega
    · obtain ⟨j, hj, rfl⟩ := mem_rep h
      have := pCB i hi j hj; omega
    · rw [List.mem_singleton.mp h]; have := nC i hi; omega
theorem sld_nilL (k : Nat) (as : List Int) : sldF k [] as = ([], as) := by cases k <;> rfl
theorem sld_nilR (k : Nat) (es : List Int) : sldF k es [] = (es, []) := by cases k <;> cases es <;> rfl
/-- the second asking, the other way round -/
theorem sld_told {c : Nat → Nat} (h1 : ∀ i, 1 ≤ c i) {C A B : List Nat} {fu : Nat} (hA : (C ++ A).Pairwise (· < ·)) (hB : (C ++ B).Pairwise (· < ·)) (hAB : ∀ a ∈ A, ∀ b ∈ B, a < b)
    (hf : (rep c (C ++ B)).length + (rep c (C ++ A)).length < fu) :
    sldF fu (rep c (C ++ B)) (rep c (C ++ A)) = (rep c B, if B = [] then rep c A else A.map (fun (n : Nat) => (n : Int))) := by
  obtain ⟨pC, pA, pCA⟩ := List.pairwise_append.mp hA
  obtain ⟨_, pB, pCB⟩ := List.pairwise_append.mp hB
  have l1 := rep_length_ge h1 (C ++ A)
  have l2 := rep_length_ge h1 (C ++ B)
  rw [List.length_append] at l1 l2
  obtain ⟨k, rfl⟩ : ∃ k, fu = k + 1 + A.length + C.length := ⟨fu - 1 - A.length - C.length, by omega⟩
  rw [rep_append, rep_append, sld_common h1 h1 C _ pC]
  · cases B with
    | nil => rw [show rep c [] = [] from rfl, sld_nilL]; simp
    | cons b B =>
      rw [if_neg (by simp)]
      obtain ⟨m, hm⟩ : ∃ m, c b = m + 1 := ⟨c b - 1, by have := h1 b; omega⟩
      rw [rep_cons, hm, List.replicate_succ, List.cons_append]
      have := sld_extra (e := (b : Int)) (E := List.replicate m (b : Int) ++ rep c B) (A := []) h1 A (k + 1) pA fun i hi => ⟨by have := hAB i hi b (.head _); omega, fun x hx => by cases hx⟩
      rw [List.append_nil] at this
      rw [this, sld_nilR]; simp
  · intro i hi
    refine ⟨fun x hx => ?_, fun x hx => ?_⟩
    · obtain ⟨j, hj, rfl⟩ := mem_rep hx
      have := pCB i hi j hj; omega
    · obtain ⟨j, hj, rfl⟩ := mem_rep hx
      have := pCA i hi j hj; omega
/-- the signs of a row -/
theorem signsTo_eq (ps : List Str) (rs : List Nat) (times : Nat) : ∀ i, i ≤ rs.length → (signsTo ps rs times i).map (fun (n : Nat) => (n : Int)) = rep (fun n => (ps.getD n Str.empty).length * times) (rs.take i)
  | 0, _ => by simp [signsTo, rep]
  | i + 1, hi => by
    have hn : rs[i]? = some rs[i] := List.getElem?_eq_getElem (by omega)
    rw [signsTo, List.map_append, signsTo_eq ps rs times i (by omega), List.take_add_one, hn, rep_append, List.map_replicate]
    unfold sCnt
    rw [List.getD_eq_getElem?_getD (l := rs), hn]
    simp [rep]
theorem signs_eq (ps : List Str) (rs : List Nat) (times : Nat) : (signs ps rs times).map (fun (n : Nat) => (n : Int)) = rep (fun n => (ps.getD n Str.empty).length * times) rs := by
  unfold signs
  rw [signsTo_eq ps rs times _ (Nat.le_refl _), List.take_length]
end
section /- MapA -/
theorem owner_map : Manifest.owners.lookup (String.ofList ['p', 'a', 'm'].reverse) = some Manifest.sig_map := by kernel_rfl
theorem slot_map_next : Slot "map" "__next__" "map.__next__" :=
  .of (owner := "map") (n := "__next__") (by rw [typeLookup_type, builtinLookup_eq_fast]; kernel_rfl) (by decide +kernel) (by decide +kernel) (by decide +kernel)
    (by first | exact .inl (by decide +kernel) | exact .inr (by decide +kernel)) (by rw [isSubtype_type]; kernel_rfl)
theorem slot_map_iter : Slot "map" "__iter__" "map.__iter__" :=
  .of (owner := "map") (n := "__iter__") (by rw [typeLookup_type, builtinLookup_eq_fast]; kernel_rfl) (by decide +kernel) (by decide +kernel) (by decide +kernel)
    (by first | exact .inl (by decide +kernel) | exact .inr (by decide +kernel)) (by rw [isSubtype_type]; kernel_rfl)
theorem slot_map_init : Slot "map" "__init__" "object.__init__" :=
  .of (owner := "object") (n := "__init__") (by rw [typeLookup_type, builtinLookup_eq_fast]; kernel_rfl) (by decide +kernel) (by decide +kernel) (by decide +kernel)
    (by first | exact .inl (by decide +kernel) | exact .inr (by decide +kernel)) (by rw [isSubtype_type]; kernel_rfl)
theorem entry_map_next : entryFor table "map.__next__" = some Builtin.«map.__next__» := entryFor_of_tree (by kernel_rfl)
theorem entry_map_new : entryFor table "map.__new__" = some Builtin.«map.__new__» := entryFor_of_tree (by kernel_rfl)
theorem entry_map_iter : entryFor table "map.__iter__" = some Builtin.«dict_keyiterator.__iter__» :=
  entryFor_alias (id' := "dict_keyiterator.__iter__") (by kernel_rfl) (by first | rfl | decide +kernel | (unfold String.splitOn; simp +decide [String.splitOnAux])) (by decide +kernel) (by kernel_rfl)
theorem args_map_next (a : Value) : argsOk "map.__next__" ⟨[a], []⟩ := by
  unfold argsOk; rw [signature?_of (id := "map.__next__") (n := ['_', '_', 't', 'x', 'e', 'n', '_', '_']) (o := ['p', 'a', 'm']) (by kernel_rfl) owner_map]; kernel_rfl
theorem args_map_iter (a : Value) : argsOk "map.__iter__" ⟨[a], []⟩ := by
  unfold argsOk; rw [signature?_of (id := "map.__iter__") (n := ['_', '_', 'r', 'e', 't', 'i', '_', '_']) (o := ['p', 'a', 'm']) (by kernel_rfl) owner_map]; kernel_rfl
theorem mro_map : mroOf (.type "map") = pure [.type "map", .type "object"] := by rw [mroOf_type]; kernel_rfl
theorem lookup_map_new : typeLookup (.type "map") "__new__" = pure (some (.builtin "map.__new__")) := by rw [typeLookup_type, builtinLookup_eq_fast]; kernel_rfl
theorem called_map : TypeCalled "map" "map.__new__" "object.__init__" :=
  ⟨by decide +kernel, by decide +kernel, ⟨_, _, mro_map⟩, madeBy_type mro_map lookup_map_new (by decide +kernel), by decide +kernel, by rw [isSubtype_type]; kernel_rfl, slot_map_init⟩
theorem typeCall_map (a b : Value) : checkTypeCall "map" ⟨[a, b], []⟩ = pure () := by kernel_rfl
theorem newCall_map (a b : Value) : checkBuiltinCall "map.__new__" ⟨[.type "map", a, b], []⟩ = pure () := by kernel_rfl
theorem map_no_len : typeLookup (.type "map") "__len__" = pure none := by rw [typeLookup_type, builtinLookup_eq_fast]; kernel_rfl
theorem map_no_hint : typeLookup (.type "map") "__length_hint__" = pure none := by rw [typeLookup_type, builtinLookup_eq_fast]; kernel_rfl
theorem sub_map : isSubtype (.type "map") (.type "map") = pure true := by rw [isSubtype_type]; kernel_rfl

noncomputable abbrev mapObj (TI : Addr) (f : Value) : Obj := { cls := .type "map", dict := none, data := .fields #[.ref TI, f], slots := #[] }
section
variable {prog : Program} {w : World} {A : Around} {E : Value → Shared → Prop} {s : Shared}
noncomputable abbrev mapH1 (h : Heap) (l : Addr) : Heap := h.push { cls := .type "list_iterator", data := .fields #[.ref l, .int 0 0] }
noncomputable abbrev mapH2 (h : Heap) (l : Addr) : Heap := (mapH1 h l).push { cls := .type "tuple", data := .seq #[.ref h.objs.size] }
noncomputable abbrev mapH3 (h : Heap) (l : Addr) (f : Value) : Heap := (mapH2 h l).push (mapObj (mapH1 h l).objs.size f)
theorem meets_map_new (f : Value) (l : Addr) (xs : Array Value) :
    Meets (Builtin.«map.__new__» ⟨[.type "map", f, .ref l], []⟩) (fun _ R s => s.heap.IsList l xs ∧ R (.ok (.ret (.ref (mapH2 s.heap l).objs.size))) { s with heap := mapH3 s.heap l f }) :=
  .of_wp fun prog w A R s h => by
    obtain ⟨hp, g, d, tk, os⟩ := s; obtain ⟨hl1, h⟩ := h
    have hsub := sub_map
    have hL1 : Heap.IsList (Shared.heap ⟨hp, g, d, tk, os⟩) l xs := hl1
    wp_walk using wpAny_pyIter_list hL1
    exact ⟨_, rfl, h⟩
theorem call_map {f : Value} {l : Addr} {xs : Array Value} {Q : Value → Shared → Prop} (hl : s.heap.IsList l xs)
    (h : ∀ h', h'.get? (s.heap.objs.size + 2) = some (mapObj (s.heap.objs.size + 1) f) → h'.get? (s.heap.objs.size + 1) = some { cls := .type "tuple", data := .seq #[.ref s.heap.objs.size] } →
      h'.IsListIter s.heap.objs.size l 0 → h'.objs.size = s.heap.objs.size + 3 → Kp s.heap h' → Q (.ref (s.heap.objs.size + 2)) { s with heap := h' }) :
    wpAny (model prog w) A (call (.type "map") [f, .ref l]) Q E s := by
  refine callType_new called_map (by decide) (typeCall_map _ _) (newCall_map _ _) (fun obj => PySem.F.args_object_init_3 obj _ _) entry_map_new (meets_map_new f l xs) ⟨hl, ?_⟩
  have z1 : (mapH1 s.heap l).objs.size = s.heap.objs.size + 1 := Heap.size_push ..
  have z2 : (mapH2 s.heap l).objs.size = s.heap.objs.size + 2 := by rw [Heap.size_push, z1]
  have z3 : (mapH3 s.heap l f).objs.size = s.heap.objs.size + 3 := by rw [Heap.size_push, z2]
  have g3 : (mapH3 s.heap l f).get? (mapH2 s.heap l).objs.size = some _ := Heap.get?_push_size _ rfl
  have g2 : (mapH3 s.heap l f).get? (mapH1 s.heap l).objs.size = some _ := Heap.get?_push_of_some _ (Heap.get?_push_size _ rfl)
  have g1 : (mapH3 s.heap l f).get? s.heap.objs.size = some _ := Heap.get?_push_of_some _ (Heap.get?_push_of_some _ (Heap.get?_push_size _ rfl))
  show _ ∧ _
  rw [z2, z1] at g3
  rw [z1] at g2
  rw [z2]
  exact ⟨⟨_, g3, rfl⟩, h _ g3 g2 ⟨_, g1, rfl, rfl⟩ z3 fun c o x => Heap.get?_push_of_some _ (Heap.get?_push_of_some _ (Heap.get?_push_of_some _ x))⟩

end
structure MapAt (h : Heap) (z TI I l : Addr) (f : Value) (k : Nat) (xs : Array Value) : Prop where
  obj : h.get? z = some (mapObj TI f)
  its : h.get? TI = some { cls := .type "tuple", data := .seq #[.ref I] }
  it : h.IsListIter I l k
  lst : h.IsList l xs
  z_I : z ≠ I
  TI_I : TI ≠ I
  l_I : l ≠ I
/-- all stands but the object at I -/
noncomputable def KpI (I : Addr) (h h' : Heap) : Prop := ∀ b o, b ≠ I → h.get? b = some o → h'.get? b = some o
theorem KpI.trans {I : Addr} {h h' h'' : Heap} (a : KpI I h h') (b : KpI I h' h'') : KpI I h h'' := fun x o n e => b x o n (a x o n e)
theorem Kp.toI {h h' : Heap} (I : Addr) (a : Kp h h') : KpI I h h' := fun x o _ e => a x o e
theorem KpI.base {I : Addr} {h₀ h h' : Heap} (a : KpI I h h') (k : Kp h₀ h) (hI : h₀.get? I = none) : Kp h₀ h' := fun b o e => a b o (fun q => by rw [q, hI] at e; cases e) (k b o e)
section
variable {w : World} {mg mb : Str → Option Value} {mean : ExcName → Option Value} {E : Value → Shared → Prop} {s : Shared} {d u : Nat} {h₀ : Heap} {z TI I l : Addr} {k : Nat} {xs : Array Value}
/-- one draw of a map of fspath over a list of texts -/
theorem map_next {x : Str} {t : Tok} {Q : Option Value → Shared → Prop} (X : (hd.heap_1 w.params).In h₀) (T : Top view39 (looseW view39 []) mean mg mb h₀) (hd : d < 450) (hk : Kp h₀ s.heap) (hI : h₀.get? I = none)
    (M : MapAt s.heap z TI I l (.ref 115) k xs) (hv : xs[k]? = some (.str x t))
    (h : ∀ h' tk, MapAt h' z TI I l (.ref 115) (k + 1) xs → KpI I s.heap h' → Q (some (.str x t)) { s with heap := h', toks := tk }) :
    wpAny (model PySem.Challenge.rw_ik0197_01.row.prog w) (ar d u) (pyNext (.ref z)) Q E s := by
  have hT : s.TypeIs (.ref z) "map" := ⟨_, M.obj, rfl⟩
  unfold pyNext
  refine wpAny_bind (wpAny_attempt (wpAny_callSpecial?_slot (name := Str.ofString "__next__") hT slot_map_next (wpAny_call_entry slot_map_next hT entry_map_next ?_ (args_map_next _))))
  show wpAny _ _ (field (.ref z) 0 >>= _) _ _ _
  refine wpAny_bind (wpAny_field M.obj rfl (x := .ref TI) rfl ?_)
  refine wpAny_bind (wpAny_seqItems M.its rfl ?_)
  refine wpAny_bind ?_
  simp only [Array.forIn_toList.symm, List.forIn_cons, List.forIn_nil]
  refine wpAny_bind (wpAny_bind (wpAny_holding ?_))
  refine wpAny_nextOf_list_item M.it M.lst hv fun h₁ hi₁ hs₁ => ?_
  refine wpAny_pure (wpAny_pure ?_)
  have hk₁ : KpI I s.heap h₁ := fun b o n e => hs₁.extBut _ _ n e
  have z₁ : h₁.get? z = some (mapObj TI (.ref 115)) := hk₁ _ _ M.z_I M.obj
  refine wpAny_bind (wpAny_field z₁ rfl (x := .ref 115) rfl ?_)
  refine wpAny_bind (wpAny_holding ?_)
  have kb := hk₁.base hk hI
  refine wpAny_call (fspath_spec (X.keeps kb) (T.keeps kb) hd fun h₂ tk₂ hk₂ => ?_)
  refine wpAny_bind (wpAny_letGo ?_)
  refine wpAny_pure ⟨_, rfl, wpAny_pure ?_⟩
  exact h h₂ tk₂ ⟨hk₂ _ _ z₁, hk₂ _ _ (hk₁ _ _ M.TI_I M.its), hi₁.at fun o e => hk₂ _ _ e, (M.lst.at fun o e => hk₁ _ _ M.l_I e).at fun o e => hk₂ _ _ e, M.z_I, M.TI_I, M.l_I⟩ (hk₁.trans (hk₂.toI I))
end
end
section /- MapB -/
section
variable {w : World} {mg mb : Str → Option Value} {mean : ExcName → Option Value} {E : Value → Shared → Prop} {s : Shared} {d u : Nat} {h₀ : Heap} {z TI I l : Addr} {k : Nat} {xs : Array Value}
theorem KpI.tr {I : Addr} {h h' : Heap} (a : h = h') : KpI I h h' := by subst a; exact fun _ _ _ e => e
theorem MapAt.moved {h h' : Heap} {f : Value} (M : MapAt h z TI I l f k xs) (hk : ∀ b o, h.get? b = some o → (b = z ∨ b = TI ∨ b = I ∨ b = l) → h'.get? b = some o) : MapAt h' z TI I l f k xs :=
  ⟨hk _ _ M.obj (.inl rfl), hk _ _ M.its (.inr (.inl rfl)), M.it.at fun o e => hk _ o e (.inr (.inr (.inl rfl))), M.lst.at fun o e => hk _ o e (.inr (.inr (.inr rfl))), M.z_I, M.TI_I, M.l_I⟩
theorem MapAt.lt {h : Heap} {f : Value} (M : MapAt h z TI I l f k xs) : z < h.objs.size ∧ TI < h.objs.size ∧ I < h.objs.size ∧ l < h.objs.size :=
  ⟨Heap.lt_size M.obj, Heap.lt_size M.its, (by obtain ⟨o, ho, _⟩ := M.it; exact Heap.lt_size ho), (by obtain ⟨o, ho, _⟩ := M.lst; exact Heap.lt_size ho)⟩
/-- the end of the draws -/
theorem map_done {Q : Option Value → Shared → Prop} (M : MapAt s.heap z TI I l (.ref 115) k xs) (hv : xs[k]? = none)
    (h : ∀ h', KpI I s.heap h' → Q none { s with heap := h' }) :
    wpAny (model PySem.Challenge.rw_ik0197_01.row.prog w) (ar d u) (pyNext (.ref z)) Q E s := by
  have hT : s.TypeIs (.ref z) "map" := ⟨_, M.obj, rfl⟩
  unfold pyNext
  refine wpAny_bind (wpAny_attempt (wpAny_callSpecial?_slot (name := Str.ofString "__next__") hT slot_map_next (wpAny_call_entry slot_map_next hT entry_map_next ?_ (args_map_next _))))
  show wpAny _ _ (field (.ref z) 0 >>= _) _ _ _
  refine wpAny_bind (wpAny_field M.obj rfl (x := .ref TI) rfl ?_)
  refine wpAny_bind (wpAny_seqItems M.its rfl ?_)
  refine wpAny_bind ?_
  simp only [Array.forIn_toList.symm, List.forIn_cons, List.forIn_nil]
  refine wpAny_bind (wpAny_bind (wpAny_holding ?_))
  refine wpAny_nextOf_list_end rfl M.it M.lst hv fun h₁ e hs₁ he => ?_
  obtain ⟨o, ho, hc⟩ := he
  refine wpAny_bind (wpAny_isInstance (T := "StopIteration") (b := true) ⟨o, ho, hc⟩ isSubtype_stop ?_)
  exact wpAny_pure (h _ fun b o n e => hs₁ b o n e)

theorem extend_map {R : Result → Shared → Prop} {S : Addr} {res : Value} {ys : List Str} (X : (hd.heap_1 w.params).In h₀) (T : Top view39 (looseW view39 []) mean mg mb h₀) (hd : d < 450) (hI : h₀.get? I = none) (hS0 : h₀.get? S = none) (hx : StrsAre xs.toList ys) (hsz : xs.size ≤ 1000) :
    ∀ (j k : Nat) (s : Shared) (c : Nat), xs.size - k = j → k ≤ xs.size → Kp h₀ s.heap → MapAt s.heap z TI I l (.ref 115) k xs → s.heap.get? S = some { cls := .type "list", dict := none, data := .seq (xs.toList.take k).toArray c, slots := #[] } → (S ≠ z ∧ S ≠ TI ∧ S ≠ I ∧ S ≠ l) →
    (∀ h' tk c', (∀ b o, b ≠ I → b ≠ S → s.heap.get? b = some o → h'.get? b = some o) → h'.get? S = some { cls := .type "list", dict := none, data := .seq xs c', slots := #[] } → R (.ok (.ret res)) { s with heap := h', toks := tk }) →
    codeAny (model PySem.Challenge.rw_ik0197_01.row.prog w) (ar d u) (.builtin "list.extend.loop" ⟨[.ref S, .ref z, res], []⟩) R s := by
  intro j
  induction j with
  | zero =>
    intro k s c hj hk hkp M hS hne hR
    have hkn : k = xs.size := by omega
    subst hkn
    refine codeAny_builtin PySem.F.entry_extend_loop ?_
    rw [Around.under_plainId PySem.F.plain_extend_loop _]
    show wpAny _ _ (pyNext (.ref z) >>= _) _ _ s
    refine wpAny_bind (map_done (u := u + 1) M (Array.getElem?_eq_none (Nat.le_refl _)) fun h₁ hk₁ => ?_)
    refine wpAny_pure (hR h₁ s.toks c (fun b o n _ e => hk₁ b o n e) ?_)
    have := hk₁ _ _ hne.2.2.1 hS
    rw [show xs.toList.take xs.size = xs.toList by rw [List.take_of_length_le (by simp)]] at this
    simpa using this
  | succ j ih =>
    intro k s c hj hk hkp M hS hne hR
    have hlt : k < xs.size := by omega
    obtain ⟨x, t, hv, hy⟩ := hx.item k xs[k] (by simp [hlt])
    have hv2 : xs[k]? = some (.str x t) := by rw [Array.getElem?_eq_getElem hlt, hv]
    refine codeAny_builtin PySem.F.entry_extend_loop ?_
    rw [Around.under_plainId PySem.F.plain_extend_loop _]
    show wpAny _ _ (pyNext (.ref z) >>= _) _ _ s
    refine wpAny_bind (map_next (u := u + 1) X T hd hkp hI M hv2 fun h₁ tk₁ M₁ hk₁ => ?_)
    have hS₁ := hk₁ _ _ hne.2.2.1 hS
    show wpAny _ _ (updateSeq S (·.push (.str x t)) >>= _) _ _ _
    refine wpAny_bind ?_
    refine wpAny_updateSeq hS₁ rfl (wpAny_pure ⟨plainId_quiet PySem.F.plain_extend_loop _, ?_⟩) (by rw [List.size_toArray, List.length_take, PySem.sizeLine_eq]; omega) (by show ((xs.toList.take k).toArray.push _).size ≤ _; rw [Array.size_push, List.size_toArray, List.length_take, PySem.sizeLine_eq]; omega)
    have hS₂ := Heap.get?_update_self (Obj.mapSeq (·.push (Value.str x t))) hS₁ rfl
    have oth : ∀ b o, b ≠ S → h₁.get? b = some o → (h₁.update S (Obj.mapSeq (·.push (Value.str x t)))).get? b = some o := fun b o n e => (Heap.get?_update_other _ _ (Ne.symm n)).trans e
    have M₂ : MapAt (h₁.update S (Obj.mapSeq (·.push (Value.str x t)))) z TI I l (.ref 115) (k + 1) xs := M₁.moved fun b o e hb => oth b o (by
      rcases hb with rfl | rfl | rfl | rfl
      · exact Ne.symm hne.1
      · exact Ne.symm hne.2.1
      · exact Ne.symm hne.2.2.1
      · exact Ne.symm hne.2.2.2) e
    have hkp2 : Kp h₀ (h₁.update S (Obj.mapSeq (·.push (Value.str x t)))) := fun b o e => oth b o (fun q => by rw [q, hS0] at e; cases e) (hk₁.base hkp hI b o e)
    have e1 : (xs.toList.take k).toArray.push (.str x t) = (xs.toList.take (k + 1)).toArray := by
      rw [List.push_toArray, List.take_add_one, show xs.toList[k]? = some (.str x t) by simpa using hv2]; rfl
    have hS₄ : ∃ c', (h₁.update S (Obj.mapSeq (·.push (Value.str x t)))).get? S = some { cls := .type "list", dict := none, data := .seq (xs.toList.take (k + 1)).toArray c', slots := #[] } := ⟨_, hS₂.trans (by rw [← e1]; rfl)⟩
    obtain ⟨c', hS₄⟩ := hS₄
    exact ih (k + 1) { s with heap := h₁.update S (Obj.mapSeq (·.push (Value.str x t))), toks := tk₁ } c' (by omega) hlt hkp2 M₂ hS₄ hne fun h' tk' c' hk' hS' => hR h' tk' c' (fun b o n n' e => hk' b o n n' (oth b o n' (hk₁ b o n e))) hS'

theorem collect_map {Q : List Value → Shared → Prop} {ys : List Str} (X : (hd.heap_1 w.params).In h₀) (T : Top view39 (looseW view39 []) mean mg mb h₀) (hd : d < 450) (hI : h₀.get? I = none) (hx : StrsAre xs.toList ys) (hsz : xs.size ≤ 1000)
    (hkp : Kp h₀ s.heap) (M : MapAt s.heap z TI I l (.ref 115) 0 xs) (h : ∀ h' tk, KpI I s.heap h' → Q xs.toList { s with heap := h', toks := tk }) :
    wpAny (model PySem.Challenge.rw_ik0197_01.row.prog w) (ar d u) (collect (.ref z)) Q E s := by
  have hlt := M.lt
  have l1 := ltN hlt.1
  have l2 := ltN hlt.2.1
  have l3 := ltN hlt.2.2.1
  have l4 := ltN hlt.2.2.2
  have hSz : s.heap.objs.size ≠ z := Nat.ne_of_gt l1
  unfold collect
  refine wpAny_bind (wpAny_runValue (codeAny_builtin PySem.F.entry_proto_collect ?_))
  rw [Around.under_plainId PySem.F.plain_proto_collect _]
  show wpAny _ _ (newList [] >>= fun l => again (.builtin "list.__iadd__" ⟨[l, .ref z], []⟩)) _ _ s
  refine wpAny_bind (wpAny_newObj_type ?_)
  refine wpAny_pure ⟨plainId_quiet PySem.F.plain_list_iadd _, codeAny_builtin PySem.F.entry_list_iadd ?_⟩
  rw [Around.under_plainId PySem.F.plain_list_iadd _]
  have M₁ : MapAt (s.heap.push { cls := .type "list", data := .seq ([] : List Value).toArray }) z TI I l (.ref 115) 0 xs := M.moved fun b o e _ => Heap.get?_push_of_some _ e
  have hT : ∀ h', MapAt h' z TI I l (.ref 115) 0 xs → ∀ tk, Shared.TypeIs { s with heap := h', toks := tk } (.ref z) "map" := fun h' M' tk => ⟨_, M'.obj, rfl⟩
  show wpAny _ _ (Builtin.List.listExtendWith (.ref s.heap.objs.size) (.ref z) (.ref s.heap.objs.size)) _ _ _
  unfold Builtin.List.listExtendWith
  refine wpAny_bind (wpAny_typeOf (hT _ M₁ s.toks) ?_)
  have h1 : Builtin.List.listSameRef (.ref s.heap.objs.size) (.ref z) = false := by simp [Builtin.List.listSameRef, hSz]
  have h2 : (Value.type "map" == Value.type "list") = false := by decide
  have h3 : (Value.type "map" == Value.type "tuple") = false := by decide
  simp only [h1, h2, h3, Bool.or_false, Bool.false_eq_true, if_false]
  have hTi := hT _ M₁ s.toks
  refine wpAny_bind (wpAny_pyIter_slot hTi slot_map_iter (wpAny_call_entry slot_map_iter hTi entry_map_iter ?_ (args_map_iter _)))
  show wpAny _ _ (ret (.ref z)) _ _ _
  refine wpAny_pure ⟨_, rfl, "map", _, hTi, slot_map_next.lookup, ?_⟩
  refine wpAny_bind (wpAny_holding ?_)
  unfold Builtin.List.listLengthHint
  refine wpAny_bind (wpAny_specialOf hTi map_no_len ?_)
  show wpAny _ _ (specialOf (Value.ref z) (Str.ofString "__length_hint__") >>= _) _ _ _
  refine wpAny_bind (wpAny_specialOf hTi map_no_hint ?_)
  refine wpAny_pure ?_
  show wpAny _ _ (rule "list.extend.makes-room" >>= fun _ => Builtin.List.listTouch (.ref s.heap.objs.size) >>= fun _ =>
    again (.builtin "list.extend.loop" ⟨[.ref s.heap.objs.size, .ref z, .ref s.heap.objs.size], []⟩)) _ _ _
  refine wpAny_bind (wpAny_rule ?_)
  have hS₁ : (s.heap.push { cls := .type "list", data := .seq ([] : List Value).toArray }).get? s.heap.objs.size = some { cls := .type "list", data := .seq ([] : List Value).toArray } := Heap.get?_push_size _ rfl
  refine wpAny_bind ?_
  show wpAny _ _ (updateSeq s.heap.objs.size (·.push .none) >>= fun _ => updateSeq s.heap.objs.size (·.pop)) _ _ _
  refine wpAny_bind (wpAny_updateSeq hS₁ rfl ?_)
  have hS₂ := Heap.get?_update_self (Obj.mapSeq (·.push Value.none)) hS₁ rfl
  refine wpAny_updateSeq hS₂ rfl ?_
  have hS₃ := Heap.get?_update_self (Obj.mapSeq (·.pop)) hS₂ rfl
  have oth : ∀ b o, s.heap.get? b = some o →
      (((s.heap.push { cls := .type "list", data := .seq ([] : List Value).toArray }).update s.heap.objs.size (Obj.mapSeq (·.push Value.none))).update s.heap.objs.size (Obj.mapSeq (·.pop))).get? b = some o :=
    fun b o e => by
      have hb : b ≠ s.heap.objs.size := Nat.ne_of_lt (Heap.lt_size e)
      exact (Heap.get?_update_other _ _ (Ne.symm hb)).trans ((Heap.get?_update_other _ _ (Ne.symm hb)).trans (Heap.get?_push_of_some _ e))
  have hS0 : h₀.get? s.heap.objs.size = none := by
    cases q : h₀.get? s.heap.objs.size with
    | none => rfl
    | some o => exact absurd (Heap.lt_size (hkp _ _ q)) (Nat.lt_irrefl _)
  refine wpAny_pure ⟨plainId_quiet PySem.F.plain_extend_loop _, ?_⟩
  generalize ((s.heap.push { cls := .type "list", data := .seq ([] : List Value).toArray }).update s.heap.objs.size (Obj.mapSeq (·.push Value.none))).update s.heap.objs.size (Obj.mapSeq (·.pop)) = h₃ at hS₃ oth
  have M₃ : MapAt h₃ z TI I l (.ref 115) 0 xs := M.moved fun b o e _ => oth b o e
  refine extend_map X T hd hI hS0 hx hsz xs.size 0 { s with heap := h₃ } _ (by omega) (Nat.zero_le _) (fun b o e => oth b o (hkp b o e)) M₃ hS₃ ⟨hSz, Nat.ne_of_gt l2, Nat.ne_of_gt l3, Nat.ne_of_gt l4⟩ fun h' tk c' hk' hS' => ?_
  show wpAny _ _ (load s.heap.objs.size >>= _) _ _ _
  refine wpAny_bind (wpAny_load hS' ?_)
  exact wpAny_pure (h h' tk fun b o n e => hk' b o n (Nat.ne_of_lt (Heap.lt_size e)) (oth b o e))

theorem tuple_map_new {ys : List Str} (z TI I l : Addr) (xs : Array Value) (X : (hd.heap_1 w.params).In h₀) (T : Top view39 (looseW view39 []) mean mg mb h₀) (hd : d < 450) (hI : h₀.get? I = none) (hx : StrsAre xs.toList ys) (hsz : xs.size ≤ 1000) :
    MeetsIn PySem.Challenge.rw_ik0197_01.row.prog w (Builtin.«tuple.__new__» ⟨[.type "tuple", .ref z], []⟩) (fun A R s => ∃ u, A = ar d u ∧ Kp h₀ s.heap ∧ MapAt s.heap z TI I l (.ref 115) 0 xs ∧
      ∀ h' tk, KpI I s.heap h' → R (.ok (.ret (.ref h'.objs.size))) { s with heap := h'.push { cls := .type "tuple", data := .seq xs }, toks := tk }) :=
  .of_wp fun A R s h => by
    obtain ⟨u, rfl, hkp, M, h⟩ := h
    obtain ⟨hp, g, dd, tk, os⟩ := s
    have hsub := sub_tuple_self
    have hinit := init_tuple_lookup
    have hmh := madeHere_tuple
    have ht : Heap.get? hp z = some (mapObj TI (.ref 115)) := M.obj
    have hT : Shared.TypeIs ⟨hp, g, dd, tk, os⟩ (.ref z) "map" := ⟨_, ht, rfl⟩
    have hC : ∀ {Q : List Value → Shared → Prop} {E : Value → Shared → Prop}, (∀ h' tk', KpI I hp h' → Q xs.toList ⟨h', g, dd, tk', os⟩) → wpAny (model PySem.Challenge.rw_ik0197_01.row.prog w) (ar d u).in1 (collect (.ref z)) Q E ⟨hp, g, dd, tk, os⟩ :=
      fun hq => collect_map (s := ⟨hp, g, dd, tk, os⟩) (u := u + 1) X T hd hI hx hsz hkp M hq
    wp_walk using AutoSeq1.wpAny_loadPart' ht, wpAny_typeOf hT, hC
    intro h' tk' hk
    show wpAny _ _ (Builtin.Tuple.tupleExact xs.toList.toArray >>= fun v => ret v) _ _ _
    unfold Builtin.Tuple.tupleExact
    refine wpAny_bind (wpAny_newObj_type ?_ (show xs.toList.toArray.size ≤ sizeLine by simp only [Array.toArray_toList]; rw [PySem.sizeLine_eq]; omega))
    refine wpAny_pure ⟨_, rfl, ?_⟩
    rw [show xs.toList.toArray = xs by simp]
    exact h h' tk' hk
theorem call_tuple_map {ys : List Str} {Q : Value → Shared → Prop} (X : (hd.heap_1 w.params).In h₀) (T : Top view39 (looseW view39 []) mean mg mb h₀) (hd : d < 450) (hI : h₀.get? I = none) (hx : StrsAre xs.toList ys) (hsz : xs.size ≤ 1000)
    (hkp : Kp h₀ s.heap) (M : MapAt s.heap z TI I l (.ref 115) 0 xs)
    (h : ∀ h' tk D, KpI I s.heap h' → h'.get? D = some { cls := .type "tuple", data := .seq xs } → (∀ b o, b ≠ I → s.heap.get? b = some o → b < D) → Q (.ref D) { s with heap := h', toks := tk }) :
    wpAny (model PySem.Challenge.rw_ik0197_01.row.prog w) (ar d u) (call (.type "tuple") [.ref z]) Q E s := by
  refine callType_newIn PySem.F.called_tuple (by decide) (PySem.F.typeCall_tuple_1 _) (PySem.F.newCall_tuple_1 _) (fun obj => PySem.F.args_object_init_2 obj _) PySem.F.entry_tuple_new
    (tuple_map_new z TI I l xs X T hd hI hx hsz) ⟨u + 1, rfl, hkp, M, fun h' tk hk => ⟨⟨_, Heap.get?_push_size _ rfl, rfl⟩, ?_⟩⟩
  refine h _ _ _ (hk.trans fun b o _ e => Heap.get?_push_of_some _ e) (Heap.get?_push_size _ rfl) fun b o hb e => ?_
  exact Heap.lt_size (hk b o hb e)
end
end
section /- CmpA -/
noncomputable def ltS (x y : Str) : Bool := decide (x.cps.toList < y.cps.toList)
/-- of two lists of texts: the first is less (up = false), the first is greater (up = true) -/
noncomputable def cmpL (up : Bool) : List Str → List Str → Bool
  | [], [] => false
  | [], _ :: _ => !up
  | _ :: _, [] => up
  | x :: xs, y :: ys => if x = y then cmpL up xs ys else if up = true then ltS y x else ltS x y
theorem plain_eq_loop : plainId "list.__eq__.loop" = true := by decide +kernel
theorem entry_eq_loop : entryFor table "list.__eq__.loop" = some Builtin.«list.__eq__.loop» := entryFor_of_fast (by kernel_rfl)
theorem sub_list : isSubtype (.type "list") (.type "list") = pure true := by rw [isSubtype_type]; kernel_rfl
noncomputable def opOf (up : Bool) : CmpOp := if up = true then .Gt else .Lt
noncomputable def opNo (up : Bool) : Int := if up = true then 4 else 0
section
variable {prog : Program} {w : World} {A : Around} {E : Value → Shared → Prop} {R : Result → Shared → Prop} {s : Shared} {a b : Addr} {va vb : List Value} {xs ys : List Str} {na nb : Nat} {up : Bool}
theorem lt_strR {x y : Str} {t u : Tok} {Q : Value → Shared → Prop} (h : Q (.bool (ltS x y)) s) : wpAny (model prog w) A (richCompare .Lt (.str x t) (.str y u)) Q E s :=
  richCompare_gives (op := .Lt) (typeIs_str s x t) (typeIs_str s y u) PySem.F.slot_str_lt PySem.F.entry_str_lt (PySem.F.args_str_lt_2 _ _) (gives_str_lt x y t u) (fun e => nomatch e) h
theorem gt_strR {x y : Str} {t u : Tok} {Q : Value → Shared → Prop} (h : Q (.bool (ltS y x)) s) : wpAny (model prog w) A (richCompare .Gt (.str x t) (.str y u)) Q E s :=
  richCompare_gives (op := .Gt) (typeIs_str s x t) (typeIs_str s y u) PySem.F.slot_str_gt PySem.F.entry_str_gt (PySem.F.args_str_gt_2 _ _) (gives_str_gt x y t u) (fun e => nomatch e) h
theorem cmp_loop (ha : s.heap.IsList a va.toArray) (hb : s.heap.IsList b vb.toArray) (hx : StrsAre va xs) (hy : StrsAre vb ys) :
    ∀ (n i : Nat), va.length + 1 - i = n → i ≤ va.length → i ≤ vb.length → R (.ok (.ret (.bool (cmpL up (xs.drop i) (ys.drop i))))) s → codeAny (model prog w) A (.builtin "list.__eq__.loop" ⟨[.ref a, .ref b, rawInt i, rawInt (opNo up)], []⟩) R s := by
  obtain ⟨oa, ga, ca, na, da⟩ := ha
  obtain ⟨ob, gb, cb, nb, db⟩ := hb
  have hla := StrsAre.length hx
  have hlb := StrsAre.length hy
  intro n
  induction n with
  | zero => intro i hi h1; omega
  | succ n ih =>
    intro i hi h1 h2 hR
    refine codeAny_builtin entry_eq_loop ?_
    rw [Around.under_plainId plain_eq_loop _]
    cases up
    · show wpAny _ _ (Builtin.List.listItems (.ref a) >>= _) _ _ s
      refine wpAny_bind (wpAny_listItems ga da ?_)
      show wpAny _ _ (Builtin.List.listItems (.ref b) >>= _) _ _ s
      refine wpAny_bind (wpAny_listItems gb db ?_)
      by_cases ea : i < va.length
      · by_cases eb : i < vb.length
        · obtain ⟨x, t, hv, hxi⟩ := hx.item i va[i] (List.getElem?_eq_getElem ea)
          obtain ⟨y, u, hw, hyi⟩ := hy.item i vb[i] (List.getElem?_eq_getElem eb)
          have e1 : va.toArray[((i : Nat) : Int).toNat]? = some (.str x t) := by rw [Int.toNat_natCast]; simp [ea, hv]
          have e2 : vb.toArray[((i : Nat) : Int).toNat]? = some (.str y u) := by rw [Int.toNat_natCast]; simp [eb, hw]
          have dx : xs.drop i = x :: xs.drop (i + 1) := by rw [List.drop_eq_getElem_cons (by omega)]; congr 1; exact Option.some.inj ((List.getElem?_eq_getElem _).symm.trans hxi)
          have dy : ys.drop i = y :: ys.drop (i + 1) := by rw [List.drop_eq_getElem_cons (by omega)]; congr 1; exact Option.some.inj ((List.getElem?_eq_getElem _).symm.trans hyi)
          rw [dx, dy, cmpL] at hR
          rw [e1, e2]
          refine wpAny_bind (wpAny_eqBool_str ?_)
          by_cases e : x = y
          · rw [if_pos e] at hR
            rw [decide_eq_true e, if_pos rfl]
            exact wpAny_pure ⟨plainId_quiet plain_eq_loop _, ih (i + 1) (by omega) (by omega) (by omega) hR⟩
          · rw [if_neg e] at hR
            simp only [Bool.false_eq_true, ↓reduceIte] at hR
            rw [decide_eq_false e, if_neg Bool.false_ne_true]
            refine wpAny_bind (wpAny_listItems ga da ?_)
            refine wpAny_bind (wpAny_listItems gb db ?_)
            rw [e1, e2]
            show wpAny _ _ (richCompare CmpOp.Lt (.str x t) (.str y u) >>= _) _ _ _
            refine wpAny_bind (lt_strR ?_)
            refine wpAny_pure ?_
            exact hR
        · have e2 : vb.toArray[((i : Nat) : Int).toNat]? = none := by rw [Int.toNat_natCast]; simp; omega
          have dy : ys.drop i = [] := List.drop_eq_nil_of_le (by omega)
          have dx : xs.drop i = xs[i]'(by omega) :: xs.drop (i + 1) := List.drop_eq_getElem_cons (by omega)
          obtain ⟨x, t, hv, hxi⟩ := hx.item i va[i] (List.getElem?_eq_getElem ea)
          have e1 : va.toArray[((i : Nat) : Int).toNat]? = some (.str x t) := by rw [Int.toNat_natCast]; simp [ea, hv]
          rw [dx, dy, cmpL] at hR
          rw [e1, e2]
          refine wpAny_bind (wpAny_listItems ga da ?_)
          refine wpAny_bind (wpAny_listItems gb db ?_)
          refine wpAny_pure ?_
          have e3 : decide (va.toArray.size < vb.toArray.size) = false := by simp; omega
          show R (.ok (.ret (.bool (decide (va.toArray.size < vb.toArray.size))))) s
          rw [e3]; exact hR
      · have e1 : va.toArray[((i : Nat) : Int).toNat]? = none := by rw [Int.toNat_natCast]; simp; omega
        have dx : xs.drop i = [] := List.drop_eq_nil_of_le (by omega)
        rw [dx] at hR
        rw [e1]
        refine wpAny_bind (wpAny_listItems ga da ?_)
        refine wpAny_bind (wpAny_listItems gb db ?_)
        refine wpAny_pure ?_
        cases hd : ys.drop i with
        | nil =>
          rw [hd, cmpL] at hR
          have hl := congrArg List.length hd
          rw [List.length_drop] at hl
          simp only [List.length_nil] at hl
          have e3 : decide (va.toArray.size < vb.toArray.size) = false := by simp; omega
          show R (.ok (.ret (.bool (decide (va.toArray.size < vb.toArray.size))))) s
          rw [e3]; exact hR
        | cons z zs =>
          rw [hd, cmpL] at hR
          have hl := congrArg List.length hd
          rw [List.length_drop] at hl
          simp only [List.length_cons] at hl
          have e3 : decide (va.toArray.size < vb.toArray.size) = true := by simp; omega
          show R (.ok (.ret (.bool (decide (va.toArray.size < vb.toArray.size))))) s
          rw [e3]; exact hR
    · show wpAny _ _ (Builtin.List.listItems (.ref a) >>= _) _ _ s
      refine wpAny_bind (wpAny_listItems ga da ?_)
      show wpAny _ _ (Builtin.List.listItems (.ref b) >>= _) _ _ s
      refine wpAny_bind (wpAny_listItems gb db ?_)
      by_cases ea : i < va.length
      · by_cases eb : i < vb.length
        · obtain ⟨x, t, hv, hxi⟩ := hx.item i va[i] (List.getElem?_eq_getElem ea)
          obtain ⟨y, u, hw, hyi⟩ := hy.item i vb[i] (List.getElem?_eq_getElem eb)
          have e1 : va.toArray[((i : Nat) : Int).toNat]? = some (.str x t) := by rw [Int.toNat_natCast]; simp [ea, hv]
          have e2 : vb.toArray[((i : Nat) : Int).toNat]? = some (.str y u) := by rw [Int.toNat_natCast]; simp [eb, hw]
          have dx : xs.drop i = x :: xs.drop (i + 1) := by rw [List.drop_eq_getElem_cons (by omega)]; congr 1; exact Option.some.inj ((List.getElem?_eq_getElem _).symm.trans hxi)
          have dy : ys.drop i = y :: ys.drop (i + 1) := by rw [List.drop_eq_getElem_cons (by omega)]; congr 1; exact Option.some.inj ((List.getElem?_eq_getElem _).symm.trans hyi)
          rw [dx, dy, cmpL] at hR
          rw [e1, e2]
          refine wpAny_bind (wpAny_eqBool_str ?_)
          by_cases e : x = y
          · rw [if_pos e] at hR
            rw [decide_eq_true e, if_pos rfl]
            exact wpAny_pure ⟨plainId_quiet plain_eq_loop _, ih (i + 1) (by omega) (by omega) (by omega) hR⟩
          · rw [if_neg e] at hR
            simp only [Bool.false_eq_true, ↓reduceIte] at hR
            rw [decide_eq_false e, if_neg Bool.false_ne_true]
            refine wpAny_bind (wpAny_listItems ga da ?_)
            refine wpAny_bind (wpAny_listItems gb db ?_)
            rw [e1, e2]
            show wpAny _ _ (richCompare CmpOp.Gt (.str x t) (.str y u) >>= _) _ _ _
            refine wpAny_bind (gt_strR ?_)
            refine wpAny_pure ?_
            exact hR
        · have e2 : vb.toArray[((i : Nat) : Int).toNat]? = none := by rw [Int.toNat_natCast]; simp; omega
          have dy : ys.drop i = [] := List.drop_eq_nil_of_le (by omega)
          have dx : xs.drop i = xs[i]'(by omega) :: xs.drop (i + 1) := List.drop_eq_getElem_cons (by omega)
          obtain ⟨x, t, hv, hxi⟩ := hx.item i va[i] (List.getElem?_eq_getElem ea)
          have e1 : va.toArray[((i : Nat) : Int).toNat]? = some (.str x t) := by rw [Int.toNat_natCast]; simp [ea, hv]
          rw [dx, dy, cmpL] at hR
          rw [e1, e2]
          refine wpAny_bind (wpAny_listItems ga da ?_)
          refine wpAny_bind (wpAny_listItems gb db ?_)
          refine wpAny_pure ?_
          have e3 : decide (va.toArray.size > vb.toArray.size) = true := by simp; omega
          show R (.ok (.ret (.bool (decide (va.toArray.size > vb.toArray.size))))) s
          rw [e3]; exact hR
      · have e1 : va.toArray[((i : Nat) : Int).toNat]? = none := by rw [Int.toNat_natCast]; simp; omega
        have dx : xs.drop i = [] := List.drop_eq_nil_of_le (by omega)
        rw [dx] at hR
        rw [e1]
        refine wpAny_bind (wpAny_listItems ga da ?_)
        refine wpAny_bind (wpAny_listItems gb db ?_)
        refine wpAny_pure ?_
        cases hd : ys.drop i with
        | nil =>
          rw [hd, cmpL] at hR
          have hl := congrArg List.length hd
          rw [List.length_drop] at hl
          simp only [List.length_nil] at hl
          have e3 : decide (va.toArray.size > vb.toArray.size) = false := by simp; omega
          show R (.ok (.ret (.bool (decide (va.toArray.size > vb.toArray.size))))) s
          rw [e3]; exact hR
        | cons z zs =>
          rw [hd, cmpL] at hR
          have hl := congrArg List.length hd
          rw [List.length_drop] at hl
          simp only [List.length_cons] at hl
          have e3 : decide (va.toArray.size > vb.toArray.size) = false := by simp; omega
          show R (.ok (.ret (.bool (decide (va.toArray.size > vb.toArray.size))))) s
          rw [e3]; exact hR
theorem cmp_lists {Q : Value → Shared → Prop} (ha : s.heap.IsList a va.toArray) (hb : s.heap.IsList b vb.toArray) (hx : StrsAre va xs) (hy : StrsAre vb ys) (hu : A.units < cLine) (h : Q (.bool (cmpL up xs ys)) s) :
    wpAny (model prog w) A (richCompare (opOf up) (.ref a) (.ref b)) Q E s := by
  cases up
  · refine wpAny_richCompare_same_room (T := "list") (op := .Lt) ha.typeIs hb.typeIs PySem.F.slot_list_lt (wpAny_call (codeAny_call_builtin PySem.F.slot_list_lt.plain PySem.F.entry_list_lt (PySem.F.slot_list_lt.check _ _ _ _ _ _ _ _ ha.typeIs (PySem.F.args_list_lt_2 _ _) ?_))) hu
    show wpAny _ _ (isInstance (.ref b) (.type "list") >>= _) _ _ s
    refine wpAny_bind (wpAny_isInstance (b := true) hb.typeIs sub_list ?_)
    refine wpAny_pure ⟨plainId_quiet plain_eq_loop _, cmp_loop (up := false) ha hb hx hy _ 0 rfl (Nat.zero_le _) (Nat.zero_le _) ?_⟩
    exact ⟨by simp, h⟩
  · refine wpAny_richCompare_same_room (T := "list") (op := .Gt) ha.typeIs hb.typeIs PySem.F.slot_list_gt (wpAny_call (codeAny_call_builtin PySem.F.slot_list_gt.plain PySem.F.entry_list_gt (PySem.F.slot_list_gt.check _ _ _ _ _ _ _ _ ha.typeIs (PySem.F.args_list_gt_2 _ _) ?_))) hu
    show wpAny _ _ (isInstance (.ref b) (.type "list") >>= _) _ _ s
    refine wpAny_bind (wpAny_isInstance (b := true) hb.typeIs sub_list ?_)
    refine wpAny_pure ⟨plainId_quiet plain_eq_loop _, cmp_loop (up := true) ha hb hx hy _ 0 rfl (Nat.zero_le _) (Nat.zero_le _) ?_⟩
    exact ⟨by simp, h⟩
end
end
section /- CmpB -/
/-- where the loop of min and max stands -/
structure MM (h₀ h : Heap) (I S lp : Addr) (items : Array Value) (k : Nat) (best : List Value) : Prop where
  it : h.IsListIter I lp k
  src : h.IsList lp items
  acc : ∃ c, h.get? S = some { cls := .type "list", dict := none, data := .seq best.toArray c, slots := #[] }
  keep : ∀ b o, h₀.get? b = some o → h.get? b = some o
  I0 : h₀.get? I = none
  S0 : h₀.get? S = none
  IS : I ≠ S
  lI : lp ≠ I
  lS : lp ≠ S
theorem MM.set {h₀ h h' : Heap} {I S lp : Addr} {items : Array Value} {k : Nat} {best best' : List Value} {c : Nat} (M : MM h₀ h I S lp items k best) (hs : ∀ b o, b ≠ S → h.get? b = some o → h'.get? b = some o) (hS : h'.get? S = some { cls := .type "list", dict := none, data := .seq best'.toArray c, slots := #[] }) : MM h₀ h' I S lp items k best' :=
  ⟨M.it.at fun o e => hs _ o M.IS e, M.src.at fun o e => hs _ o M.lS e, ⟨_, hS⟩, fun b o e => hs b o (fun q => by rw [q, M.S0] at e; cases e) (M.keep b o e), M.I0, M.S0, M.IS, M.lI, M.lS⟩
theorem MM.next {h₀ h h' : Heap} {I S lp : Addr} {items : Array Value} {k k' : Nat} {best : List Value} (M : MM h₀ h I S lp items k best) (hs : ∀ b o, b ∉ [I] → h.get? b = some o → h'.get? b = some o) (hI : h'.IsListIter I lp k') : MM h₀ h' I S lp items k' best :=
  ⟨hI, M.src.at fun o e => hs _ o (by simpa using M.lI) e, (let ⟨c, hc⟩ := M.acc; ⟨c, hs _ _ (by simpa using Ne.symm M.IS) hc⟩), fun b o e => hs b o (by
    simp only [List.mem_singleton]; intro q; rw [q, M.I0] at e; cases e) (M.keep b o e), M.I0, M.S0, M.IS, M.lI, M.lS⟩
section
variable {prog : Program} {w : World} {A : Around} {E : Value → Shared → Prop} {R : Result → Shared → Prop} {s : Shared} {h₀ : Heap} {I S lp : Addr} {items : Array Value} {k : Nat}
theorem min_first {y : Value} (hh : A.handled = none) (M : MM h₀ s.heap I S lp items k []) (hy : items[k]? = some y)
    (h : ∀ h' tk, MM h₀ h' I S lp items (k + 1) [y, y] → codeAny (model prog w) A (.builtin "min.loop" ⟨[.ref I, .none, .ref S], []⟩) R { s with heap := h', toks := tk }) :
    codeAny (model prog w) A (.builtin "min.loop" ⟨[.ref I, .none, .ref S], []⟩) R s := by
  have hname : (toString "min" ++ toString ".loop" : String) = "min.loop" := by decide
  have hk : k < items.size := (Array.getElem?_eq_some_iff.mp hy).1
  obtain ⟨c, hS⟩ := M.acc
  refine codeAny_builtin PySem.F.entry_min_loop ?_
  rw [Around.under_plainId PySem.F.plain_min_loop _]
  show wpAny _ _ (seqItems? (.ref S) >>= _) _ _ s
  refine wpAny_bind (wpAny_seqItems hS rfl ?_)
  show wpAny _ _ (tryCatch (pyNext (.ref I)) _ >>= _) _ _ s
  refine wpAny_bind (wpAny_tryCatch ((Walks.list (prog := prog) (w := w) (A := A.in1) hh I lp M.lI items).item k s _ _ hk ⟨M.it, M.src⟩ fun v h' tk hP hst hkp => ?_))
  have e : v = y := Option.some.inj (hP.symm.trans hy)
  subst e
  have M₁ := M.next hkp hst.1
  obtain ⟨c1, hS1⟩ := M₁.acc
  show wpAny _ _ (updateSeq S (fun _ => #[v, v]) >>= _) _ _ _
  refine wpAny_bind (wpAny_updateSeq hS1 rfl ?_)
  rw [hname]
  refine wpAny_pure ⟨plainId_quiet PySem.F.plain_min_loop _, h _ tk (M₁.set (fun b o n e => (Heap.get?_update_other _ _ (Ne.symm n)).trans e) (Heap.get?_update_self _ hS1 rfl))⟩
theorem min_item {y b : Addr} {vy vb : List Value} {ys bs : List Str} (hh : A.handled = none) (hu : A.units + 1 < cLine) (M : MM h₀ s.heap I S lp items k [.ref b, .ref b]) (hy : items[k]? = some (.ref y))
    (ly : h₀.IsList y vy.toArray) (lb : h₀.IsList b vb.toArray) (sy : StrsAre vy ys) (sb : StrsAre vb bs)
    (h : ∀ h' tk r, r = (if cmpL false ys bs = true then y else b) → MM h₀ h' I S lp items (k + 1) [.ref r, .ref r] → codeAny (model prog w) A (.builtin "min.loop" ⟨[.ref I, .none, .ref S], []⟩) R { s with heap := h', toks := tk }) :
    codeAny (model prog w) A (.builtin "min.loop" ⟨[.ref I, .none, .ref S], []⟩) R s := by
  have hname : (toString "min" ++ toString ".loop" : String) = "min.loop" := by decide
  have hk : k < items.size := (Array.getElem?_eq_some_iff.mp hy).1
  obtain ⟨c, hS⟩ := M.acc
  refine codeAny_builtin PySem.F.entry_min_loop ?_
  rw [Around.under_plainId PySem.F.plain_min_loop _]
  show wpAny _ _ (seqItems? (.ref S) >>= _) _ _ s
  refine wpAny_bind (wpAny_seqItems hS rfl ?_)
  show wpAny _ _ (tryCatch (pyNext (.ref I)) _ >>= _) _ _ s
  refine wpAny_bind (wpAny_tryCatch ((Walks.list (prog := prog) (w := w) (A := A.in1) hh I lp M.lI items).item k s _ _ hk ⟨M.it, M.src⟩ fun v h' tk hP hst hkp => ?_))
  have e : v = .ref y := Option.some.inj (hP.symm.trans hy)
  subst e
  have M₁ := M.next hkp hst.1
  obtain ⟨c1, hS1⟩ := M₁.acc
  show wpAny _ _ (tryCatch (holding [Value.ref y, Value.ref y] (richCompare (opOf false) (.ref y) (.ref b) >>= _)) _ >>= _) _ _ _
  refine wpAny_bind (wpAny_tryCatch (wpAny_holding (wpAny_bind (cmp_lists (ly.at fun o e => M₁.keep _ o e) (lb.at fun o e => M₁.keep _ o e) sy sb hu ?_))))
  refine wpAny_bind (wpAny_holding (wpAny_truthy_bool ?_))
  refine wpAny_bind (wpAny_letGo (wpAny_pure ?_))
  cases hb : cmpL false ys bs with
  | true =>
    simp only [if_true]
    refine wpAny_bind (wpAny_updateSeq hS1 rfl (wpAny_bind (wpAny_letGo ?_)))
    rw [hname]
    exact wpAny_pure ⟨plainId_quiet PySem.F.plain_min_loop _, h _ tk y (by rw [hb]; rfl) (M₁.set (fun b o n e => (Heap.get?_update_other _ _ (Ne.symm n)).trans e) (Heap.get?_update_self _ hS1 rfl))⟩
  | false =>
    simp only [Bool.false_eq_true, if_false]
    refine wpAny_bind (wpAny_letGo ?_)
    rw [hname]
    exact wpAny_pure ⟨plainId_quiet PySem.F.plain_min_loop _, h _ tk b (by rw [hb]; rfl) M₁⟩
theorem min_end {b : Addr} (hh : A.handled = none) (M : MM h₀ s.heap I S lp items k [.ref b, .ref b]) (hy : k = items.size)
    (h : ∀ h' tk, (∀ b o, h₀.get? b = some o → h'.get? b = some o) → R (.ok (.ret (.ref b))) { s with heap := h', toks := tk }) :
    codeAny (model prog w) A (.builtin "min.loop" ⟨[.ref I, .none, .ref S], []⟩) R s := by
  obtain ⟨c, hS⟩ := M.acc
  refine codeAny_builtin PySem.F.entry_min_loop ?_
  rw [Around.under_plainId PySem.F.plain_min_loop _]
  show wpAny _ _ (seqItems? (.ref S) >>= _) _ _ s
  refine wpAny_bind (wpAny_seqItems hS rfl ?_)
  show wpAny _ _ (tryCatch (pyNext (.ref I)) _ >>= _) _ _ s
  refine wpAny_bind (wpAny_tryCatch ((Walks.list (prog := prog) (w := w) (A := A.in1) hh I lp M.lI items).done s _ _ (by rw [← hy]; exact ⟨M.it, M.src⟩) fun h' tk hkp => ?_))
  have hS1 := hkp S _ (by simpa using Ne.symm M.IS) hS
  show wpAny _ _ (updateSeq S (fun _ => #[]) >>= _) _ _ _
  refine wpAny_bind (wpAny_updateSeq hS1 rfl (wpAny_bind (wpAny_letGo (wpAny_pure ?_))))
  refine h _ tk fun x o e => (Heap.get?_update_other _ _ (fun q : S = x => by rw [← q, M.S0] at e; cases e)).trans (hkp x o ?_ (M.keep x o e))
  simp only [List.mem_singleton]; intro q; rw [q, M.I0] at e; cases e
theorem call_min3 {Q : Value → Shared → Prop} {a b c : Addr} {va vb vc : List Value} {xs ys zs : List Str} (hh : A.handled = none) (hu : A.units + 2 < cLine) (hl : s.heap.IsList lp #[.ref a, .ref b, .ref c])
    (la : s.heap.IsList a va.toArray) (lb : s.heap.IsList b vb.toArray) (lc : s.heap.IsList c vc.toArray) (sa : StrsAre va xs) (sb : StrsAre vb ys) (sc : StrsAre vc zs)
    (h : ∀ h' tk r r', r = (if cmpL false ys xs = true then b else a) → r' = (if cmpL false zs (if cmpL false ys xs = true then ys else xs) = true then c else r) → (∀ b o, s.heap.get? b = some o → h'.get? b = some o) → Q (.ref r') { s with heap := h', toks := tk }) :
    wpAny (model prog w) A (call (.builtin "min") [.ref lp]) Q E s := by
  have hname : (toString "min" ++ toString ".loop" : String) = "min.loop" := by decide
  refine call_function_tree PySem.F.kind_min PySem.F.plain_min PySem.F.entry_min (PySem.F.args_min1 _) ?_
  show wpAny _ _ (Builtin.Builtins.bindParams "min" ["key", "default"] 0 ⟨[], []⟩ >>= _) _ _ s
  refine wpAny_bind (wpAny_of_eq (show Builtin.Builtins.bindParams "min" ["key", "default"] 0 ⟨[], []⟩ = pure [none, none] from rfl) ?_)
  refine wpAny_bind (wpAny_pure ?_)
  refine wpAny_bind (wpAny_pyIter_list hl ?_)
  refine wpAny_bind (wpAny_newObj_type ?_)
  rw [hname]
  have hlt : lp < s.heap.objs.size := let ⟨o, ho, _⟩ := hl; Heap.lt_size ho
  have M : MM s.heap ((s.heap.push { cls := .type "list_iterator", data := .fields #[.ref lp, .int 0 0] }).push { cls := .type "list", data := .seq ([] : List Value).toArray }) s.heap.objs.size (s.heap.push { cls := .type "list_iterator", data := .fields #[.ref lp, .int 0 0] }).objs.size lp #[.ref a, .ref b, .ref c] 0 [] :=
    ⟨⟨_, Heap.get?_push_of_some _ (Heap.get?_push_size _ rfl), rfl, rfl⟩, (hl.push _).push _, ⟨_, Heap.get?_push_size _ rfl⟩, fun b o e => Heap.get?_push_of_some _ (Heap.get?_push_of_some _ e), Heap.get?_none_of_le (Nat.le_refl _), Heap.get?_none_of_le (by rw [Heap.size_push]; exact Nat.le_succ _), by rw [Heap.size_push]; exact Nat.ne_of_lt (Nat.lt_succ_self _), Nat.ne_of_lt hlt, by rw [Heap.size_push]; exact Nat.ne_of_lt (Nat.lt_succ_of_lt hlt)⟩
  refine wpAny_pure ⟨plainId_quiet PySem.F.plain_min_loop _, min_first hh M rfl fun h₁ tk₁ M₁ => min_item hh (by omega) M₁ rfl lb la sb sa fun h₂ tk₂ r hr M₂ => ?_⟩
  have key : ∃ vr, s.heap.IsList r (List.toArray vr) ∧ StrsAre vr (if cmpL false ys xs = true then ys else xs) := by
    rw [hr]
    split
    · exact ⟨_, lb, sb⟩
    · exact ⟨_, la, sa⟩
  obtain ⟨vr, lr, sr⟩ := key
  exact min_item hh (by omega) M₂ rfl lc lr sc sr fun h₃ tk₃ r' hr' M₃ => min_end hh M₃ rfl fun h₄ tk₄ hk₄ => h h₄ tk₄ r r' hr hr' hk₄
end
section
variable {prog : Program} {w : World} {A : Around} {E : Value → Shared → Prop} {R : Result → Shared → Prop} {s : Shared} {h₀ : Heap} {I S lp : Addr} {items : Array Value} {k : Nat}
theorem max_first {y : Value} (hh : A.handled = none) (M : MM h₀ s.heap I S lp items k []) (hy : items[k]? = some y)
    (h : ∀ h' tk, MM h₀ h' I S lp items (k + 1) [y, y] → codeAny (model prog w) A (.builtin "max.loop" ⟨[.ref I, .none, .ref S], []⟩) R { s with heap := h', toks := tk }) :
    codeAny (model prog w) A (.builtin "max.loop" ⟨[.ref I, .none, .ref S], []⟩) R s := by
  have hname : (toString "max" ++ toString ".loop" : String) = "max.loop" := by decide
  have hk : k < items.size := (Array.getElem?_eq_some_iff.mp hy).1
  obtain ⟨c, hS⟩ := M.acc
  refine codeAny_builtin PySem.F.entry_max_loop ?_
  rw [Around.under_plainId PySem.F.plain_max_loop _]
  show wpAny _ _ (seqItems? (.ref S) >>= _) _ _ s
  refine wpAny_bind (wpAny_seqItems hS rfl ?_)
  show wpAny _ _ (tryCatch (pyNext (.ref I)) _ >>= _) _ _ s
  refine wpAny_bind (wpAny_tryCatch ((Walks.list (prog := prog) (w := w) (A := A.in1) hh I lp M.lI items).item k s _ _ hk ⟨M.it, M.src⟩ fun v h' tk hP hst hkp => ?_))
  have e : v = y := Option.some.inj (hP.symm.trans hy)
  subst e
  have M₁ := M.next hkp hst.1
  obtain ⟨c1, hS1⟩ := M₁.acc
  show wpAny _ _ (updateSeq S (fun _ => #[v, v]) >>= _) _ _ _
  refine wpAny_bind (wpAny_updateSeq hS1 rfl ?_)
  rw [hname]
  refine wpAny_pure ⟨plainId_quiet PySem.F.plain_max_loop _, h _ tk (M₁.set (fun b o n e => (Heap.get?_update_other _ _ (Ne.symm n)).trans e) (Heap.get?_update_self _ hS1 rfl))⟩
theorem max_item {y b : Addr} {vy vb : List Value} {ys bs : List Str} (hh : A.handled = none) (hu : A.units + 1 < cLine) (M : MM h₀ s.heap I S lp items k [.ref b, .ref b]) (hy : items[k]? = some (.ref y))
    (ly : h₀.IsList y vy.toArray) (lb : h₀.IsList b vb.toArray) (sy : StrsAre vy ys) (sb : StrsAre vb bs)
    (h : ∀ h' tk r, r = (if cmpL true ys bs = true then y else b) → MM h₀ h' I S lp items (k + 1) [.ref r, .ref r] → codeAny (model prog w) A (.builtin "max.loop" ⟨[.ref I, .none, .ref S], []⟩) R { s with heap := h', toks := tk }) :
    codeAny (model prog w) A (.builtin "max.loop" ⟨[.ref I, .none, .ref S], []⟩) R s := by
  have hname : (toString "max" ++ toString ".loop" : String) = "max.loop" := by decide
  have hk : k < items.size := (Array.getElem?_eq_some_iff.mp hy).1
  obtain ⟨c, hS⟩ := M.acc
  refine codeAny_builtin PySem.F.entry_max_loop ?_
  rw [Around.under_plainId PySem.F.plain_max_loop _]
  show wpAny _ _ (seqItems? (.ref S) >>= _) _ _ s
  refine wpAny_bind (wpAny_seqItems hS rfl ?_)
  show wpAny _ _ (tryCatch (pyNext (.ref I)) _ >>= _) _ _ s
  refine wpAny_bind (wpAny_tryCatch ((Walks.list (prog := prog) (w := w) (A := A.in1) hh I lp M.lI items).item k s _ _ hk ⟨M.it, M.src⟩ fun v h' tk hP hst hkp => ?_))
  have e : v = .ref y := Option.some.inj (hP.symm.trans hy)
  subst e
  have M₁ := M.next hkp hst.1
  obtain ⟨c1, hS1⟩ := M₁.acc
  show wpAny _ _ (tryCatch (holding [Value.ref y, Value.ref y] (richCompare (opOf true) (.ref y) (.ref b) >>= _)) _ >>= _) _ _ _
  refine wpAny_bind (wpAny_tryCatch (wpAny_holding (wpAny_bind (cmp_lists (ly.at fun o e => M₁.keep _ o e) (lb.at fun o e => M₁.keep _ o e) sy sb hu ?_))))
  refine wpAny_bind (wpAny_holding (wpAny_truthy_bool ?_))
  refine wpAny_bind (wpAny_letGo (wpAny_pure ?_))
  cases hb : cmpL true ys bs with
  | true =>
    simp only [if_true]
    refine wpAny_bind (wpAny_updateSeq hS1 rfl (wpAny_bind (wpAny_letGo ?_)))
    rw [hname]
    exact wpAny_pure ⟨plainId_quiet PySem.F.plain_max_loop _, h _ tk y (by rw [hb]; rfl) (M₁.set (fun b o n e => (Heap.get?_update_other _ _ (Ne.symm n)).trans e) (Heap.get?_update_self _ hS1 rfl))⟩
  | false =>
    simp only [Bool.false_eq_true, if_false]
    refine wpAny_bind (wpAny_letGo ?_)
    rw [hname]
    exact wpAny_pure ⟨plainId_quiet PySem.F.plain_max_loop _, h _ tk b (by rw [hb]; rfl) M₁⟩
theorem max_end {b : Addr} (hh : A.handled = none) (M : MM h₀ s.heap I S lp items k [.ref b, .ref b]) (hy : k = items.size)
    (h : ∀ h' tk, (∀ b o, h₀.get? b = some o → h'.get? b = some o) → R (.ok (.ret (.ref b))) { s with heap := h', toks := tk }) :
    codeAny (model prog w) A (.builtin "max.loop" ⟨[.ref I, .none, .ref S], []⟩) R s := by
  obtain ⟨c, hS⟩ := M.acc
  refine codeAny_builtin PySem.F.entry_max_loop ?_
  rw [Around.under_plainId PySem.F.plain_max_loop _]
  show wpAny _ _ (seqItems? (.ref S) >>= _) _ _ s
  refine wpAny_bind (wpAny_seqItems hS rfl ?_)
  show wpAny _ _ (tryCatch (pyNext (.ref I)) _ >>= _) _ _ s
  refine wpAny_bind (wpAny_tryCatch ((Walks.list (prog := prog) (w := w) (A := A.in1) hh I lp M.lI items).done s _ _ (by rw [← hy]; exact ⟨M.it, M.src⟩) fun h' tk hkp => ?_))
  have hS1 := hkp S _ (by simpa using Ne.symm M.IS) hS
  show wpAny _ _ (updateSeq S (fun _ => #[]) >>= _) _ _ _
  refine wpAny_bind (wpAny_updateSeq hS1 rfl (wpAny_bind (wpAny_letGo (wpAny_pure ?_))))
  refine h _ tk fun x o e => (Heap.get?_update_other _ _ (fun q : S = x => by rw [← q, M.S0] at e; cases e)).trans (hkp x o ?_ (M.keep x o e))
  simp only [List.mem_singleton]; intro q; rw [q, M.I0] at e; cases e
theorem call_max3 {Q : Value → Shared → Prop} {a b c : Addr} {va vb vc : List Value} {xs ys zs : List Str} (hh : A.handled = none) (hu : A.units + 2 < cLine) (hl : s.heap.IsList lp #[.ref a, .ref b, .ref c])
    (la : s.heap.IsList a va.toArray) (lb : s.heap.IsList b vb.toArray) (lc : s.heap.IsList c vc.toArray) (sa : StrsAre va xs) (sb : StrsAre vb ys) (sc : StrsAre vc zs)
    (h : ∀ h' tk r r', r = (if cmpL true ys xs = true then b else a) → r' = (if cmpL true zs (if cmpL true ys xs = true then ys else xs) = true then c else r) → (∀ b o, s.heap.get? b = some o → h'.get? b = some o) → Q (.ref r') { s with heap := h', toks := tk }) :
    wpAny (model prog w) A (call (.builtin "max") [.ref lp]) Q E s := by
  have hname : (toString "max" ++ toString ".loop" : String) = "max.loop" := by decide
  refine call_function_tree PySem.F.kind_max PySem.F.plain_max PySem.F.entry_max (PySem.F.args_max1 _) ?_
  show wpAny _ _ (Builtin.Builtins.bindParams "max" ["key", "default"] 0 ⟨[], []⟩ >>= _) _ _ s
  refine wpAny_bind (wpAny_of_eq (show Builtin.Builtins.bindParams "max" ["key", "default"] 0 ⟨[], []⟩ = pure [none, none] from rfl) ?_)
  refine wpAny_bind (wpAny_pure ?_)
  refine wpAny_bind (wpAny_pyIter_list hl ?_)
  refine wpAny_bind (wpAny_newObj_type ?_)
  rw [hname]
  have hlt : lp < s.heap.objs.size := let ⟨o, ho, _⟩ := hl; Heap.lt_size ho
  have M : MM s.heap ((s.heap.push { cls := .type "list_iterator", data := .fields #[.ref lp, .int 0 0] }).push { cls := .type "list", data := .seq ([] : List Value).toArray }) s.heap.objs.size (s.heap.push { cls := .type "list_iterator", data := .fields #[.ref lp, .int 0 0] }).objs.size lp #[.ref a, .ref b, .ref c] 0 [] :=
    ⟨⟨_, Heap.get?_push_of_some _ (Heap.get?_push_size _ rfl), rfl, rfl⟩, (hl.push _).push _, ⟨_, Heap.get?_push_size _ rfl⟩, fun b o e => Heap.get?_push_of_some _ (Heap.get?_push_of_some _ e), Heap.get?_none_of_le (Nat.le_refl _), Heap.get?_none_of_le (by rw [Heap.size_push]; exact Nat.le_succ _), by rw [Heap.size_push]; exact Nat.ne_of_lt (Nat.lt_succ_self _), Nat.ne_of_lt hlt, by rw [Heap.size_push]; exact Nat.ne_of_lt (Nat.lt_succ_of_lt hlt)⟩
  refine wpAny_pure ⟨plainId_quiet PySem.F.plain_max_loop _, max_first hh M rfl fun h₁ tk₁ M₁ => max_item hh (by omega) M₁ rfl lb la sb sa fun h₂ tk₂ r hr M₂ => ?_⟩
  have key : ∃ vr, s.heap.IsList r (List.toArray vr) ∧ StrsAre vr (if cmpL true ys xs = true then ys else xs) := by
    rw [hr]
    split
    · exact ⟨_, lb, sb⟩
    · exact ⟨_, la, sa⟩
  obtain ⟨vr, lr, sr⟩ := key
  exact max_item hh (by omega) M₂ rfl lc lr sc sr fun h₃ tk₃ r' hr' M₃ => max_end hh M₃ rfl fun h₄ tk₄ hk₄ => h h₄ tk₄ r r' hr hr' hk₄
end
end
section /- CmpC -/
theorem ltS_asymm {x y : Str} (h : ltS x y = true) : ltS y x = false := by
  unfold ltS at *
  exact decide_eq_false (List.lt_asymm (of_decide_eq_true h))
theorem ltS_total {x y : Str} (h : ltS x y = false) (hne : x ≠ y) : ltS y x = true := by
  unfold ltS at *
  refine decide_eq_true (Classical.byContradiction fun h2 => hne ?_)
  obtain ⟨⟨a⟩⟩ := x
  obtain ⟨⟨b⟩⟩ := y
  have : a = b := List.le_antisymm (List.not_lt.mp h2) (List.not_lt.mp (of_decide_eq_false h))
  rw [this]
theorem cmpL_pre (up : Bool) (P Q : List Str) : ∀ C : List Str, cmpL up (C ++ P) (C ++ Q) = cmpL up P Q
  | [] => rfl
  | c :: C => by
    show (if c = c then cmpL up (C ++ P) (C ++ Q) else _) = _
    rw [if_pos rfl]; exact cmpL_pre up P Q C
/-- the rest of two lists behind their common part: nothing is left of the first, or they part at once -/
noncomputable def Parts (C S1 S2 : List Str) : Prop := ∃ U V, S1 = C ++ U ∧ S2 = C ++ V ∧ (U = [] ∨ ∃ a U' b V', U = a :: U' ∧ V = b :: V' ∧ a ≠ b)
theorem mm_parts {C P Q : List Str} (hPQ : ∀ p q, P[0]? = some p → Q[0]? = some q → p ≠ q) {S1 S2 : List Str}
    (h1 : S1 = if cmpL false (C ++ P) (if cmpL false (C ++ Q) (C ++ P) = true then C ++ Q else C ++ P) = true then C ++ P else if cmpL false (C ++ Q) (C ++ P) = true then C ++ Q else C ++ P)
    (h2 : S2 = if cmpL true (C ++ P) (if cmpL true (C ++ Q) (C ++ P) = true then C ++ Q else C ++ P) = true then C ++ P else if cmpL true (C ++ Q) (C ++ P) = true then C ++ Q else C ++ P) : Parts C S1 S2 := by
  have key : ∀ up S, S = (if cmpL up (C ++ P) (if cmpL up (C ++ Q) (C ++ P) = true then C ++ Q else C ++ P) = true then C ++ P else if cmpL up (C ++ Q) (C ++ P) = true then C ++ Q else C ++ P) →
      S = if cmpL up Q P = true then (if cmpL up P Q = true then C ++ P else C ++ Q) else C ++ P := by
    intro up S h
    rw [h, cmpL_pre]
    by_cases hq : cmpL up Q P = true
    · simp only [hq, if_true, cmpL_pre]
    · simp only [hq, if_false, Bool.false_eq_true]
      split <;> rfl
  have k1 := key false S1 h1
  have k2 := key true S2 h2
  clear h1 h2 key
  cases P with
  | nil =>
    cases Q with
    | nil => exact ⟨[], [], by simpa [cmpL] using k1, by simpa [cmpL] using k2, .inl rfl⟩
    | cons q Q => exact ⟨[], q :: Q, by simpa [cmpL] using k1, by simpa [cmpL] using k2, .inl rfl⟩
  | cons p P =>
    cases Q with
    | nil => exact ⟨[], p :: P, by simpa [cmpL] using k1, by simpa [cmpL] using k2, .inl rfl⟩
    | cons q Q =>
      have hne : p ≠ q := hPQ p q rfl rfl
      simp only [cmpL, Ne.symm hne, hne, if_false, Bool.false_eq_true, if_true] at k1 k2
      cases hb : ltS q p with
      | true =>
        have hc := ltS_asymm hb
        rw [hb, hc] at k1 k2
        exact ⟨q :: Q, p :: P, by simpa using k1, by simpa using k2, .inr ⟨q, Q, p, P, rfl, rfl, Ne.symm hne⟩⟩
      | false =>
        have hc := ltS_total hb (Ne.symm hne)
        rw [hb, hc] at k1 k2
        exact ⟨p :: P, q :: Q, by simpa using k1, by simpa using k2, .inr ⟨p, P, q, Q, rfl, rfl, hne⟩⟩
theorem pick3 {a b c r r' : Addr} {h₀ h : Heap} {L : Addr} {N : List (Addr × Obj)} {va vb vc : List Value} {na nb nc : Nat} {xs ys zs : List Str} {t1 t2 : Bool} (_ : News h₀ L h N) (la : (a, W.listOf va.toArray na) ∈ N) (lb : (b, W.listOf vb.toArray nb) ∈ N) (lc : (c, W.listOf vc.toArray nc) ∈ N)
    (sa : StrsAre va xs) (sb : StrsAre vb ys) (sc : StrsAre vc zs) (hr : r = if t1 = true then b else a) (hr' : r' = if t2 = true then c else r) : ∃ v n, (r', W.listOf v.toArray n) ∈ N ∧ StrsAre v (if t2 = true then zs else if t1 = true then ys else xs) := by
  subst hr hr'
  cases t2 <;> cases t1
  · exact ⟨_, _, la, sa⟩
  · exact ⟨_, _, lb, sb⟩
  · exact ⟨_, _, lc, sc⟩
  · exact ⟨_, _, lc, sc⟩
end
section /- SetA -/
noncomputable def isTrueV : Value → Bool
  | .bool b => b
  | _ => false
theorem isTrueV_shape {v : Value} (h : isTrueV v = true) : v = .bool true := by
  cases v <;> simp_all [isTrueV]
section
variable {prog : Program} {w : World} {A : Around} {E : Value → Shared → Prop} {s : Shared} {a : Addr}
theorem hash_true {Q : Int → Shared → Prop} (h : Q 1 { s with toks := s.toks + 1 }) : wpAny (model prog w) A (pyHash (.bool true)) Q E s := by
  unfold pyHash
  have hv : [Value.bool true].any Value.onHeap = false := rfl
  have hT : s.TypeIs (.bool true) "bool" := rfl
  refine wpAny_bind ?_
  rw [cRoomFor, if_neg (by rw [hv]; exact Bool.false_ne_true)]; refine wpAny_pure ?_
  refine wpAny_bind (wpAny_specialOf hT PySem.F.slot_bool_hash.lookup ?_)
  show wpAny _ _ (if (some (Value.builtin "int.__hash__") == some Value.none) = true then _ else _) Q E s
  rw [if_neg (by rw [beq_builtin_none]; exact Bool.false_ne_true)]
  refine wpAny_bind (wpAny_specialOf hT PySem.F.slot_bool_hash.lookup ?_)
  show wpAny _ _ (callSpecialIfBoundUnlessNone? (.bool true) "__hash__" _ >>= _) Q E s
  refine wpAny_bind (wpAny_callSpecialIfBoundUnlessNone?_slot hT PySem.F.slot_bool_hash
    (wpAny_call_entry PySem.F.slot_bool_hash hT entry_int_hash
      (show wpAny _ _ (do ret (← mkInt 1)) _ _ s from wpAny_ret_mkInt ?_) (args_int_hash _)))
  show wpAny _ _ (if (decide (-(2 : Int) ^ 63 ≤ 1) && decide ((1 : Int) < 2 ^ 63)) = true then _ else _) Q E _
  rw [if_pos (by decide)]
  exact wpAny_pure h
end
noncomputable def trueKind (prog : Program) (w : World) : KeyKind prog w Unit where
  is := fun _ => isTrueV
  hash := fun _ => 1
  inj := fun _ _ _ _ _ => rfl
  byValue := fun _ v h => by rw [isTrueV_shape h]; rfl
  pyHash := fun hv h => by rw [isTrueV_shape hv]; exact hash_true h
  eqBool := fun hu hv h => by
    rw [isTrueV_shape hu, isTrueV_shape hv]
    unfold PySem.eqBool
    refine wpAny_holding ?_
    rw [if_pos (by decide)]
    exact wpAny_bind (wpAny_rule (wpAny_pure (by simpa using h)))
  «strs» := fun _ _ _ _ h => Bool.noConfusion h
noncomputable abbrev setObj (es : Array (Int × Value)) (ep : Nat) (t : SetTable) : Obj := { cls := .type "set", dict := none, data := .set es ep t }
noncomputable def tab1 (led : Bool) : SetTable := { mask := 7, place := #[1], dummies := #[], finger := 0, led := led, moves := 0, plain := true }
theorem lay1 (led : Bool) : layNew (.fresh 0 0 led) #[] 1 (.bool true) = (#[(1, .bool true)], tab1 led, false, false) := rfl
section
variable {prog : Program} {w : World} {A : Around} {E : Value → Shared → Prop} {s : Shared} {a : Addr} {led : Bool}
/-- what of a set the answer leans on -/
noncomputable def SetAt (h : Heap) (a : Addr) (led some : Bool) : Prop := if some = true then ∃ ep, h.get? a = .some (setObj #[(1, .bool true)] ep (tab1 led)) else h.get? a = .some (setObj #[] 0 (.fresh 0 0 led))
theorem add_true {b : Bool} {Q : Value → Shared → Prop} (hS : SetAt s.heap a led b) (h : ∀ h', Heap.SameBut a s.heap h' → SetAt h' a led true → Q .none { s with heap := h', toks := s.toks + 1 }) :
    wpAny (model prog w) A (call (.builtin "set.add") [.ref a, .bool true]) Q E s := by
  have hT : s.TypeIs (.ref a) "set" := by
    unfold SetAt at hS
    split at hS
    · obtain ⟨ep, ho⟩ := hS; exact ⟨_, ho, rfl⟩
    · exact ⟨_, hS, rfl⟩
  refine wpAny_call_entry PySem.F.slot_set_add hT PySem.F.entry_set_add ?_ (PySem.F.args_set_add_2 _ _)
  unfold Builtin.«set.add» Builtin.Frozenset.oneOther
  simp only [List.isEmpty_nil, bind_assoc]
  unfold Builtin.Frozenset.addrOf setAdd
  refine wpAny_bind (wpAny_pure ?_)
  try dsimp only
  refine wpAny_bind (wpAny_pure ?_)
  try dsimp only
  refine wpAny_bind ?_
  refine wpAny_holding ?_
  refine wpAny_bind (hash_true ?_)
  unfold setAddHashed setAddHashedIn
  cases b
  · have ho : s.heap.get? a = some (setObj #[] 0 (.fresh 0 0 led)) := hS
    refine wpAny_holding (wpAny_bind (wpAny_setState_of (s := { s with toks := s.toks + 1 }) ho rfl rfl ?_))
    dsimp only
    rw [show byScan (.bool true) #[] = true from byScan_of (knd := trueKind prog w) rfl (by decide) (fun e he => by simp at he)]
    simp only [↓reduceIte]
    unfold setAddByScan
    refine wpAny_bind ?_
    refine wpAny_bind (wpAny_rule ?_)
    refine wpAny_bind (wpAny_setScan_of (knd := trueKind prog w) (k := ()) (s := { s with toks := s.toks + 1 }) rfl ho rfl rfl (fun e he => by simp at he) ?_)
    simp only [List.findIdx?_nil, lay1]
    refine wpAny_bind (wpAny_pure ?_)
    show wpAny _ _ (hashByValue 8 (.bool true) >>= _) _ _ _
    refine wpAny_bind ?_
    rw [hashByValue_scannable 8 rfl]
    refine wpAny_pure ?_
    show wpAny _ _ (storeSet a #[(1, .bool true)] (tab1 led) >>= _) _ _ _
    refine wpAny_bind (wpAny_storeSet_of (s := { s with toks := s.toks + 1 }) ho rfl ?_ (by decide))
    show wpAny _ _ (if (!false && (tab1 led).tooFull) = true then _ else _) _ _ _
    rw [if_neg (by cases led <;> decide)]
    refine wpAny_pure (wpAny_pure (wpAny_pure ⟨_, rfl, ?_⟩))
    exact h _ (Heap.SameBut.update ..) ⟨1, Heap.get?_update_self _ ho rfl⟩
  · obtain ⟨ep, ho⟩ : ∃ ep, s.heap.get? a = some (setObj #[(1, .bool true)] ep (tab1 led)) := hS
    have hel : ElemsOf (trueKind prog w) (#[((1 : Int), Value.bool true)] : Array (Int × Value)).toList := fun e he => by
      have : e = (1, Value.bool true) := by simpa using he
      subst this
      exact ⟨⟨(), rfl, rfl⟩, rfl⟩
    refine wpAny_holding (wpAny_bind (wpAny_setState_of (s := { s with toks := s.toks + 1 }) ho rfl rfl ?_))
    dsimp only
    rw [show byScan (.bool true) #[(1, .bool true)] = true from byScan_of (knd := trueKind prog w) rfl (by decide) hel]
    simp only [↓reduceIte]
    unfold setAddByScan
    refine wpAny_bind ?_
    refine wpAny_bind (wpAny_rule ?_)
    refine wpAny_bind (wpAny_setScan_of (knd := trueKind prog w) (k := ()) (s := { s with toks := s.toks + 1 }) rfl ho rfl rfl hel ?_)
    refine wpAny_pure (wpAny_pure (wpAny_pure ⟨_, rfl, ?_⟩))
    exact h s.heap (Heap.SameBut.refl a s.heap) ⟨ep, ho⟩
end
end
section /- SetB -/
open PyProof.Rows.LCg (NsObj NsObj.ns ns_obj lst lst_snoc)
noncomputable def SetInP (prog : Program) (w : World) (A : Around) (E : Value → Shared → Prop) (env : Env) (e : PySem.Expr) (scope : Scope) (cl : List (Str × Addr)) (Q : Value → Shared → Prop) (xv : Value) (s₁ : Shared) : Prop :=
  wpAny (model prog w) A (pyIter xv) (fun it s₂ => wpAny (model prog w) A (newSet (.type "set")) (fun acc s₃ => wpAny (model prog w) A (newFunctionEnv scope env.globals cl [] env.qual none .none (some env)) (fun cenv s₄ =>
    codeAny (model prog w) A (.compStart e 0 it acc { cenv with scope := relabel scope env }) (compPost (model prog w) A E none Q acc cenv.locals) s₄) E s₃) E s₂) E s₁
/-- the object of the set after i items -/
noncomputable def TrueSet (led : Bool) (i : Nat) (o : Obj) : Prop := if i = 0 then o = setObj #[] 0 (.fresh 0 0 led) else ∃ ep, o = setObj #[(1, .bool true)] ep (tab1 led)
section
variable {prog : Program} {w : World} {A : Around} {E : Value → Shared → Prop} {s : Shared} {env : Env} {h₀ : Heap} {L : Addr} {m : Str → Option Value}
theorem setcomp_eval {elt iter : PySem.Expr} {tg : PySem.Expr} {ifs : List PySem.Expr} {rest : List Comprehension} {scope : Scope} {cl : List (Str × Addr)} {pos : Pos} {Q : Value → Shared → Prop}
    (hclos : closureFor scope env = pure cl) (hkind : scope.kind = .function) (hnames : ∀ y ∈ scope.names, y.2 = .local → scope.names.lookup y.1 = some .local)
    (h : wpAny (model prog w) A (eval iter env) (SetInP prog w A E env (.SetComp elt (⟨tg, iter, ifs, 0⟩ :: rest) scope pos) scope cl Q) E s)
    (hs : ∀ x, foldedSetIterable iter env x = pure x := by intro _; rfl) :
    wpAny (model prog w) A (eval (.SetComp elt (⟨tg, iter, ifs, 0⟩ :: rest) scope pos) env) Q E s := by
  rw [arm_eval_SetComp]
  exact wpAny_comprehension_free (use := none) rfl hs hclos hkind hnames h
theorem compStart_set {elt target iter ifs rest scope pos it acc env} {R : Result → Shared → Prop}
    (h0 : codeAny (model prog w) A (.compLoop (.SetComp elt (⟨target, iter, ifs, 0⟩ :: rest) scope pos) 0 it acc env) R s)
    (h : wpAny (model prog w) A (pyIter it) (fun it' s' => codeAny (model prog w) A (.compLoop (.SetComp elt (⟨target, iter, ifs, 0⟩ :: rest) scope pos) 0 it' acc env) R s')
      (notedBy (model prog w) A env fun x s' => R (.error x) s') s) :
    codeAny (model prog w) A (.compStart (.SetComp elt (⟨target, iter, ifs, 0⟩ :: rest) scope pos) 0 it acc env) R s := by
  refine codeAny_of_tree ?_
  show wpAny _ _ ((compStart (.SetComp elt (⟨target, iter, ifs, 0⟩ :: rest) scope pos) 0 it acc env).onRaise (fun x => do noteFrame x env; standAt theWindowsPlace)) _ _ s
  refine wpAny_notedAt ?_
  unfold compStart
  show wpAny _ _ (ask >>= _) _ _ s
  refine wpAny_bind (wpAny_askSetting (wpAny_ite ?_))
  split
  · first
      | exact wpAny_bind (wpAny_pure (wpAny_pure (And.intro rfl h0)))
      | exact wpAny_pure (And.intro rfl h0)
  · refine wpAny_bind (wpAny_rule ?_)
    show wpAny _ _ (standAt iter.pos >>= _) _ _ s
    exact wpAny_bind (wpAny_standAt (wpAny_bind (wpAny_mono h (fun it' s' h' => wpAny_pure (And.intro rfl h')) fun _ _ x => x)))
/-- the loop of a set comprehension -/
theorem set_loop {elt iter : PySem.Expr} {y : Str} {py : Pos} {scope : Scope} {pos : Pos} {it acc : Value} {cenv : Env} {R : Result → Shared → Prop} (Inv : Nat → Shared → Prop)
    (turn : ∀ k s, Inv k s → wpAny (model prog w) A (pyNext it) (fun r s₁ => match r with
      | none => R (.ok .next) s₁
      | some v => wpAny (model prog w) A (assign (.Name y py) cenv v) (fun _ s₂ => wpAny (model prog w) A (eval elt cenv) (fun xv s₃ => wpAny (model prog w) A (call (.builtin "set.add") [acc, xv]) (fun _ s₄ => Again Inv k s₄) (fun _ _ => False) s₃) (fun _ _ => False) s₂) (fun _ _ => False) s₁) (fun _ _ => False) s)
    (k : Nat) (s : Shared) (h : Inv k s) :
    codeAny (model prog w) A (.compLoop (.SetComp elt [⟨.Name y py, iter, [], 0⟩] scope pos) 0 it acc cenv) R s := by
  refine codeAny_loop rfl Inv (fun n s hI => ?_) k h
  show wpAny _ A ((compTurn (.SetComp elt [⟨.Name y py, iter, [], 0⟩] scope pos) 0 it acc cenv).onRaise (fun x => do noteFrame x cenv; theTreesLotGoes x)) _ _ s
  refine wpAny_noted ?_
  have e : compTurn (.SetComp elt [⟨.Name y py, iter, [], 0⟩] scope pos) 0 it acc cenv = (standAt iter.pos >>= fun _ => pyNext it >>= fun r => match r with
      | none => pure (.done .next)
      | some v => letOwnedTupleGo (.Name y py) it v >>= fun _ => assign (.Name y py) cenv v >>= fun _ =>
        (eval elt cenv >>= fun x => standAt elt.pos >>= fun _ => call (.builtin "set.add") [acc, x] >>= fun _ => pure ()) >>= fun _ =>
          again (.compLoop (.SetComp elt [⟨.Name y py, iter, [], 0⟩] scope pos) 0 it acc cenv)) := by rfl
  rw [e]
  refine wpAny_bind (wpAny_standAt (wpAny_bind (wpAny_mono (turn n s hI) (fun r s₁ h₁ => ?_) fun _ _ x => x.elim)))
  cases r with
  | none => exact wpAny_pure h₁
  | some v =>
    refine wpAny_bind (wpAny_of_eq (a := ()) rfl ?_)
    refine wpAny_bind (wpAny_mono h₁ (fun _ s₂ h₂ => ?_) fun _ _ x => x.elim)
    refine wpAny_bind (wpAny_bind (wpAny_mono h₂ (fun xv s₃ h₃ => ?_) fun _ _ x => x.elim))
    refine wpAny_bind (wpAny_standAt ?_)
    refine wpAny_bind (wpAny_mono h₃ (fun _ s₄ h₄ => ?_) fun _ _ x => x.elim)
    exact wpAny_pure (wpAny_pure ⟨rfl, h₄⟩)
/-- a set comprehension over a tuple, each item giving True -/
theorem setcomp_true {elt iter : PySem.Expr} {x : Str} {px : Pos} {scope : Scope} {cl : List (Str × Addr)} {pos : Pos} {l : Addr} {vs : List Value} {keep : List (Addr × Obj)} {Q : Value → Shared → Prop}
    (hh : A.handled = none) (hl : s.heap.IsTuple l vs.toArray) (hne : vs ≠ [])
    (hcell : ∀ y ∈ scope.names, y.2 ≠ .cell) (hkind : scope.kind = .function) (hx : scope.names.lookup x = some .local)
    (F : Fr h₀ L s.heap m) (N : News h₀ L s.heap keep) (hin : (∃ o, h₀.get? l = some o) ∨ ∃ o, (l, o) ∈ keep) (hb : AllBare s.gens)
    (turn : ∀ (i : Nat) v C D oD I oI oC m₂ h g tk, vs[i]? = some v → NsObj oC m₂ → m₂ x = some v → Fr h₀ L h m → News h₀ L h ((I, oI) :: (C, oC) :: (D, oD) :: keep) →
      wpAny (model prog w) A (eval elt (compEnvC scope cl C env)) (fun y s₄ => y = .bool true ∧ ∃ h' tk', s₄ = ⟨h', g, s.drawn, tk', s.os⟩ ∧ Fr h₀ L h' m ∧ News h₀ L h' ((I, oI) :: (C, oC) :: (D, oD) :: keep)) (fun _ _ => False) ⟨h, g, s.drawn, tk, s.os⟩)
    (done : ∀ D o h g tk, TrueSet (!(w.params.followText "set-order")) 1 o → AllBare g → Fr h₀ L h m → News h₀ L h ((D, o) :: keep) → (∀ p ∈ keep, p.1 ≠ D) → Q (.ref D) ⟨h, g, s.drawn, tk, s.os⟩) :
    SetInP prog w A E env (.SetComp elt [⟨.Name x px, iter, [], 0⟩] scope pos) scope cl Q (.ref l) s := by
  refine wpAny_pyIter_tuple hl ?_
  have hlt : l < s.heap.objs.size := let ⟨o, ho, _⟩ := hl; Heap.lt_size ho
  have W := Walks.tuple (prog := prog) (w := w) hh s.heap.objs.size l (Nat.ne_of_lt hlt) vs.toArray
  rw [show vs.toArray.size = vs.length from rfl] at W
  have hL := ltN F.ns.lt
  unfold newSet setsByText
  refine wpAny_bind (wpAny_bind (wpAny_askSetting (wpAny_pure ?_)))
  dsimp only
  rw [show (model prog w).w.params = w.params from rfl]
  refine wpAny_newObj_type (wpAny_newFunctionEnv hcell (by intro y hy; simp at hy) (fun h₁ hns hsb => ?_) hkind)
  dsimp only at hns hsb ⊢
  have e0 : (s.heap.push { cls := .type "tuple_iterator", data := .fields #[.ref l, .int 0 0] }).objs.size = s.heap.objs.size + 1 := Heap.size_push ..
  have e1 : ((s.heap.push { cls := .type "tuple_iterator", data := .fields #[.ref l, .int 0 0] }).push (setObj #[] 0 (.fresh 0 0 (!(w.params.followText "set-order"))))).objs.size = s.heap.objs.size + 2 := by rw [Heap.size_push, e0]
  obtain ⟨oC, hoC, hC⟩ := ns_obj hns
  obtain ⟨I, hI⟩ : ∃ I, I = s.heap.objs.size := ⟨_, rfl⟩
  have kp : Kp s.heap h₁ := fun b o e => hsb.extBut b o (by rw [e1]; exact Nat.ne_of_lt (Nat.lt_succ_of_lt (Nat.lt_succ_of_lt (Heap.lt_size e)))) (Heap.get?_push_of_some _ (Heap.get?_push_of_some _ (Heap.get?_push_of_some _ e)))
  have gI : h₁.get? s.heap.objs.size = some { cls := .type "tuple_iterator", data := .fields #[.ref l, .int 0 0] } := hsb.extBut _ _ (by rw [e1]; show @Ne Nat _ _; omega) (Heap.get?_push_of_some _ (Heap.get?_push_of_some _ (Heap.get?_push_size _ rfl)))
  have gD : h₁.get? (s.heap.objs.size + 1) = some (setObj #[] 0 (.fresh 0 0 (!(w.params.followText "set-order")))) := hsb.extBut _ _ (by rw [e1]; show @Ne Nat _ _; omega) (Heap.get?_push_of_some _ (by rw [← e0]; exact Heap.get?_push_size _ rfl))
  rw [e1] at hoC
  have fresh : ∀ a : Nat, s.heap.objs.size ≤ a → h₀.get? a = none := fun a ha => by
    cases e : h₀.get? a with
    | none => rfl
    | some o' => exact absurd (Heap.lt_size (F.keep _ _ e)) (Nat.not_lt.mpr ha)
  have big : ∀ p ∈ keep, @LT.lt Nat _ p.1 s.heap.objs.size := fun p hp => Heap.lt_size (N p hp).1
  have N₁ : News h₀ L h₁ ((s.heap.objs.size, { cls := .type "tuple_iterator", data := .fields #[.ref l, .int 0 0] }) :: (s.heap.objs.size + 2, oC) :: (s.heap.objs.size + 1, setObj #[] 0 (.fresh 0 0 (!(w.params.followText "set-order")))) :: (keep ++ [])) := fun p hp => by
    rcases List.mem_cons.mp hp with rfl | hp
    · exact ⟨gI, (by show @Ne Nat s.heap.objs.size L; omega), fresh _ (Nat.le_refl _)⟩
    · rcases List.mem_cons.mp hp with rfl | hp
      · exact ⟨hoC, (by show @Ne Nat (s.heap.objs.size + 2) L; omega), fresh _ (Nat.le_add_right _ _)⟩
      · rcases List.mem_cons.mp hp with rfl | hp
        · exact ⟨gD, (by show @Ne Nat (s.heap.objs.size + 1) L; omega), fresh _ (Nat.le_add_right _ _)⟩
        · rw [List.append_nil] at hp; exact News.kp N kp p hp
  have F₁ := Fr.kp F kp
  have hit : h₁.IsTupleIter s.heap.objs.size l 0 := ⟨_, gI, rfl, rfl⟩
  have hl₁ : h₁.IsTuple l vs.toArray := hl.at fun o e => kp _ o e
  have hkd : ∀ p ∈ keep, p.1 ≠ s.heap.objs.size ∧ p.1 ≠ s.heap.objs.size + 2 ∧ p.1 ≠ s.heap.objs.size + 1 := fun p hp => by
    have z := big p hp
    exact ⟨(by show @Ne Nat p.1 s.heap.objs.size; omega), (by show @Ne Nat p.1 (s.heap.objs.size + 2); omega), (by show @Ne Nat p.1 (s.heap.objs.size + 1); omega)⟩
  have n1 : @Ne Nat s.heap.objs.size (s.heap.objs.size + 2) := by omega
  have n2 : @Ne Nat s.heap.objs.size (s.heap.objs.size + 1) := by omega
  have n3 : @Ne Nat (s.heap.objs.size + 2) (s.heap.objs.size + 1) := by omega
  have hvl : 0 < vs.length := List.length_pos_iff.mpr hne
  rw [e0, e1]
  clear hsb hns gI gD kp e0 e1 hI fresh
  generalize s.heap.objs.size = I0 at W hit hkd n1 n2 n3 N₁ ⊢
  have go : ∀ tk, codeAny (model prog w) A (.compLoop (.SetComp elt [⟨.Name x px, iter, [], 0⟩] scope pos) 0 (.ref I0) (.ref (I0 + 1)) (compEnvC scope cl (I0 + 2) env)) (compPost (model prog w) A E none Q (.ref (I0 + 1)) (I0 + 2)) ⟨h₁, s.gens, s.drawn, tk, s.os⟩ := fun tk => by
    refine comp_walksG (lo := fun o : Obj => o) (s := ⟨h₁, s.gens, s.drawn, tk, s.os⟩) (news₀ := []) (keep := keep)
      (fun P s₂ => wpAny (model prog w) A (eval elt (compEnvC scope cl (I0 + 2) env)) (fun xv s₃ => wpAny (model prog w) A (call (.builtin "set.add") [.ref (I0 + 1), xv]) (fun _ s₄ => P s₄) (fun _ _ => False) s₃) (fun _ _ => False) s₂)
      (fun P P' s hP h => wpAny_mono h (fun xv s₃ h₃ => wpAny_mono h₃ (fun _ s₄ h₄ => hP _ h₄) fun _ _ x => x) fun _ _ x => x)
      (fun Inv t k s' hI => set_loop Inv t k s' hI)
      (fun _ => True) (fun _ _ _ => trivial) (fun i o news => TrueSet (!(w.params.followText "set-order")) i o ∧ news = []) W (fun i h st => let ⟨o, ho, _⟩ := st.1; ⟨o, ho⟩) hkind hx ⟨hit, hl₁⟩ F₁ N₁ hC trivial
      (fun b hb => ?_) hkd (fun p hp => by cases hp) n1 n2 n3 hb ⟨rfl, rfl⟩
      (fun i v o news oI oC m₂ h g tk hi hP hj hg hC hm _ F N hoff => ?_)
      (fun o news oC m₂ h g tk hj hg hC _ F N hoff => ?_)
    · rcases List.mem_cons.mp hb with rfl | hb
      · exact .inl rfl
      · rw [List.mem_singleton.mp hb]; exact .inr hin
    · obtain ⟨ho, rfl⟩ := hj
      rw [List.append_nil] at N
      refine wpAny_mono (turn i v _ _ o _ oI oC m₂ h g tk (by simpa using hP) hC hm F N) (fun xv s₃ h₃ => ?_) fun _ _ x => x.elim
      obtain ⟨rfl, h₃, tk₃, rfl, F₃, N₃⟩ := h₃
      have gD := (N₃ _ (.tail _ (.tail _ (.head _)))).1
      have hDL := (N₃ _ (.tail _ (.tail _ (.head _)))).2
      have sa : ∃ b, SetAt h₃ (I0 + 1) (!(w.params.followText "set-order")) b := by
        unfold TrueSet at ho
        split at ho
        · subst ho; exact ⟨false, gD⟩
        · obtain ⟨ep, rfl⟩ := ho; exact ⟨true, ep, gD⟩
      obtain ⟨b, sa⟩ := sa
      refine add_true sa fun h₄ hs₄ sa₄ => ?_
      obtain ⟨ep, gD₄⟩ : ∃ ep, h₄.get? (I0 + 1) = some (setObj #[(1, .bool true)] ep (tab1 (!(w.params.followText "set-order")))) := sa₄
      refine ⟨h₄, g, _, _, [], oC, m₂, rfl, hg, F₃.change hs₄ hDL.1 hDL.2, fun p hp => ?_, hC, trivial, fun p hp => (by cases hp), ⟨ep, rfl⟩, rfl⟩
      rw [List.append_nil] at hp
      rcases List.mem_cons.mp hp with rfl | hp
      · exact ⟨hs₄.extBut _ _ n2 (N₃ _ (.head _)).1, (N₃ _ (.head _)).2⟩
      · rcases List.mem_cons.mp hp with rfl | hp
        · exact ⟨hs₄.extBut _ _ n3 (N₃ _ (.tail _ (.head _))).1, (N₃ _ (.tail _ (.head _))).2⟩
        · rcases List.mem_cons.mp hp with rfl | hp
          · exact ⟨gD₄, hDL⟩
          · have z := N₃ p (.tail _ (.tail _ (.tail _ hp)))
            exact ⟨hs₄.extBut _ _ (hkd p hp).2.2 z.1, z.2⟩
    · obtain ⟨ho, rfl⟩ := hj
      rw [List.append_nil] at N
      have hCL := (N _ (.head _)).2
      have ho1 : TrueSet (!(w.params.followText "set-order")) 1 o := by
        unfold TrueSet at ho ⊢
        rw [if_neg (by omega)] at ho
        exact ho
      refine ⟨m₂, hC.ns (N _ (.head _)).1, fun h' hs => done _ o h' g tk ho1 hg (F.change hs hCL.1 hCL.2) (fun p hp => ?_) (fun p hp => (hkd p hp).2.2)⟩
      have z := N p (.tail _ hp)
      refine ⟨hs.extBut _ _ ?_ z.1, z.2⟩
      rcases List.mem_cons.mp hp with rfl | hp
      · exact Ne.symm n3
      · exact (hkd p hp).2.1
  exact compStart_set (go _) (W.self 0 _ _ _ ⟨hit, hl₁⟩ (go _))
end
end
section /- SetC -/
theorem entry_set_iter : entryFor table "set.__iter__" = some Builtin.«frozenset.__iter__» :=
  entryFor_alias (id' := "frozenset.__iter__") (by kernel_rfl) (by first | rfl | decide +kernel | (unfold String.splitOn; simp +decide [String.splitOnAux])) (by decide +kernel) (by kernel_rfl)
theorem owner_set_iterator : Manifest.owners.lookup (String.ofList "set_iterator".toList.reverse.reverse) = some Manifest.sig_set_iterator := by kernel_rfl
theorem slot_seti_next : Slot "set_iterator" "__next__" "set_iterator.__next__" :=
  .of (owner := "set_iterator") (n := "__next__") (by rw [typeLookup_type, builtinLookup_eq_fast]; kernel_rfl) (by decide +kernel) (by decide +kernel) (by decide +kernel)
    (by first | exact .inl (by decide +kernel) | exact .inr (by decide +kernel)) (by rw [isSubtype_type]; kernel_rfl)
theorem entry_seti_next : entryFor table "set_iterator.__next__" = some Builtin.«set_iterator.__next__» := entryFor_of_tree (by kernel_rfl)
theorem args_seti_next (a : Value) : argsOk "set_iterator.__next__" ⟨[a], []⟩ := by
  unfold argsOk; rw [signature?_of (id := "set_iterator.__next__") (n := ['_', '_', 't', 'x', 'e', 'n', '_', '_']) (o := ['r', 'o', 't', 'a', 'r', 'e', 't', 'i', '_', 't', 'e', 's']) (by kernel_rfl) owner_set_iterator]; kernel_rfl
section
variable {prog : Program} {w : World} {A : Around} {E : Value → Shared → Prop} {s : Shared} {D : Addr} {ep : Nat}
noncomputable abbrev setIt (a : Int) (i : Int) (D : Value) (n ep : Int) : Obj := { cls := .type "set_iterator", dict := none, data := .fields #[rawInt a, rawInt i, D, rawInt n, rawInt ep], slots := #[] }
theorem set_pyIter {Q : Value → Shared → Prop} (ho : s.heap.get? D = some (setObj #[(1, .bool true)] ep (tab1 (!(w.params.followText "set-order")))))
    (h : Q (.ref s.heap.objs.size) { s with heap := s.heap.push (setIt 0 0 (.ref D) 1 ep) }) : wpAny (model prog w) A (pyIter (.ref D)) Q E s := by
  have hT : s.TypeIs (.ref D) "set" := ⟨_, ho, rfl⟩
  refine wpAny_pyIter_slot hT PySem.F.slot_set_iter (wpAny_call_entry PySem.F.slot_set_iter hT entry_set_iter ?_ (PySem.F.args_set_iter_1 _))
  unfold Builtin.«frozenset.__iter__» Builtin.Frozenset.slot0 slotArgs
  simp only [List.isEmpty_nil, Bool.not_true, Bool.false_eq_true, ↓reduceIte, bind_assoc, List.length_nil, bne_self_eq_false]
  unfold Builtin.Frozenset.addrOf Builtin.Frozenset.sizeOf
  refine wpAny_bind (wpAny_pure ?_)
  try dsimp only
  refine wpAny_bind (wpAny_pure ?_)
  refine wpAny_bind (wpAny_bind (wpAny_setEntries_of ho rfl rfl (wpAny_pure ?_)))
  unfold setDrawn setsByText
  refine wpAny_bind (wpAny_bind (wpAny_setState_of ho rfl rfl ?_))
  dsimp only
  refine wpAny_bind (wpAny_bind (wpAny_askSetting (wpAny_pure (wpAny_pure ?_))))
  show wpAny _ _ (if (!(w.params.followText "set-order") && false) = true then _ else _) _ _ _
  rw [Bool.and_false, if_neg (by decide)]
  refine wpAny_bind (wpAny_pure ?_)
  refine wpAny_bind (wpAny_setEpoch_of ho rfl rfl ?_)
  unfold newFields
  refine wpAny_bind (wpAny_newObj_type ?_)
  exact wpAny_pure ⟨_, rfl, "set_iterator", _, ⟨_, Heap.get?_push_size _ rfl, rfl⟩, slot_seti_next.lookup, h⟩
theorem pick_one (f : Nat → Nat) (e : Int × Value) : pickOrder f #[e] = #[e] := by
  unfold pickOrder
  show pickOrder.go f 1 0 [e] #[] = _
  rw [pickOrder.go]
  rw [show f 0 % [e].length = 0 from Nat.mod_one _]
  rfl
noncomputable def itSlot (w : World) : Nat := if w.params.followText "set-order" = true then 0 else 2
theorem setNext_one {Q : Option (Value × Nat) → Shared → Prop} (ho : s.heap.get? D = some (setObj #[(1, .bool true)] ep (tab1 (!(w.params.followText "set-order")))))
    (h : Q (some (.bool true, itSlot w)) s) : wpAny (model prog w) A (setNext D 0 0 ep) Q E s := by
  unfold setNext setsByText
  refine wpAny_bind (wpAny_setState_of ho rfl rfl ?_)
  dsimp only
  refine wpAny_bind (wpAny_bind (wpAny_askSetting (wpAny_pure ?_)))
  dsimp only
  rw [show (model prog w).w.params = w.params from rfl]
  unfold itSlot at h
  cases hb : w.params.followText "set-order" with
  | true =>
    rw [hb] at h ho
    rw [if_pos rfl] at h ⊢
    rw [if_neg (by simp)]
    unfold setWalk setsByText
    refine wpAny_bind (wpAny_bind (wpAny_setState_of ho rfl rfl ?_))
    dsimp only
    refine wpAny_bind (wpAny_bind (wpAny_askSetting (wpAny_pure ?_)))
    dsimp only
    rw [show (model prog w).w.params = w.params from rfl, hb, if_pos rfl]
    refine wpAny_bind (wpAny_askSetting (wpAny_pure ?_))
    rw [pick_one]
    exact wpAny_pure h
  | false =>
    rw [hb] at h ho
    rw [if_neg (by decide)] at h ⊢
    show wpAny _ _ ((pure () : Sem Unit) >>= fun _ => pure (some (Value.bool true, 2))) _ _ _
    exact wpAny_bind (wpAny_pure (wpAny_pure h))
theorem setNext_end {Q : Option (Value × Nat) → Shared → Prop} (ho : s.heap.get? D = some (setObj #[(1, .bool true)] ep (tab1 (!(w.params.followText "set-order")))))
    (h : Q none s) : wpAny (model prog w) A (setNext D (itSlot w) 1 ep) Q E s := by
  unfold setNext setsByText itSlot
  refine wpAny_bind (wpAny_setState_of ho rfl rfl ?_)
  dsimp only
  refine wpAny_bind (wpAny_bind (wpAny_askSetting (wpAny_pure ?_)))
  dsimp only
  rw [show (model prog w).w.params = w.params from rfl]
  cases hb : w.params.followText "set-order" with
  | true =>
    rw [hb] at ho
    rw [if_pos rfl]
    rw [if_neg (by simp)]
    unfold setWalk setsByText
    refine wpAny_bind (wpAny_bind (wpAny_setState_of ho rfl rfl ?_))
    dsimp only
    refine wpAny_bind (wpAny_bind (wpAny_askSetting (wpAny_pure ?_)))
    dsimp only
    rw [show (model prog w).w.params = w.params from rfl, hb, if_pos rfl]
    refine wpAny_bind (wpAny_askSetting (wpAny_pure ?_))
    rw [pick_one]
    exact wpAny_pure h
  | false =>
    rw [hb] at ho
    rw [if_neg (by decide)]
    show wpAny _ _ ((pure () : Sem Unit) >>= fun _ => pure none) _ _ _
    exact wpAny_bind (wpAny_pure (wpAny_pure h))
theorem set_next {I : Addr} {Q : Option Value → Shared → Prop} (hI : s.heap.get? I = some (setIt 0 0 (.ref D) 1 ep)) (hD : s.heap.get? D = some (setObj #[(1, .bool true)] ep (tab1 (!(w.params.followText "set-order")))))
    (h : ∀ h', h'.get? I = some (setIt (itSlot w) 1 (.ref D) 1 ep) → Heap.SameBut I s.heap h' → Q (some (.bool true)) { s with heap := h' }) : wpAny (model prog w) A (pyNext (.ref I)) Q E s := by
  have hT : s.TypeIs (.ref I) "set_iterator" := ⟨_, hI, rfl⟩
  unfold pyNext
  refine wpAny_bind (wpAny_attempt (wpAny_callSpecial?_slot (name := Str.ofString "__next__") hT slot_seti_next (wpAny_call_entry slot_seti_next hT entry_seti_next ?_ (args_seti_next _))))
  unfold Builtin.«set_iterator.__next__»
  show wpAny _ _ (fieldsOf (.ref I) >>= _) _ _ _
  refine wpAny_bind (wpAny_fieldsOf hI rfl ?_)
  show wpAny _ _ (setEntries D >>= _) _ _ _
  refine wpAny_bind (wpAny_setEntries_of hD rfl rfl ?_)
  show wpAny _ _ (setNext D 0 0 ep >>= _) _ _ _
  refine wpAny_bind (setNext_one hD ?_)
  show wpAny _ _ (setField (.ref I) 0 (rawInt (itSlot w)) >>= fun _ => setField (.ref I) 1 (rawInt (0 + 1)) >>= fun _ => ret (.bool true)) _ _ _
  refine wpAny_bind (wpAny_setField_rec hI (by simp) fun h₁ hI₁ hs₁ => ?_)
  refine wpAny_bind (wpAny_setField_rec hI₁ (by simp) fun h₂ hI₂ hs₂ => ?_)
  exact wpAny_pure ⟨_, rfl, wpAny_pure (h h₂ hI₂ (hs₁.trans hs₂))⟩
theorem set_end {I : Addr} {Q : Option Value → Shared → Prop} (hh : A.handled = none) (hI : s.heap.get? I = some (setIt (itSlot w) 1 (.ref D) 1 ep)) (hD : s.heap.get? D = some (setObj #[(1, .bool true)] ep (tab1 (!(w.params.followText "set-order")))))
    (h : ∀ h', (∀ b o, b ≠ I → s.heap.get? b = some o → h'.get? b = some o) → Q none { s with heap := h' }) : wpAny (model prog w) A (pyNext (.ref I)) Q E s := by
  have hT : s.TypeIs (.ref I) "set_iterator" := ⟨_, hI, rfl⟩
  unfold pyNext
  refine wpAny_bind (wpAny_attempt (wpAny_callSpecial?_slot (name := Str.ofString "__next__") hT slot_seti_next (wpAny_call_entry slot_seti_next hT entry_seti_next ?_ (args_seti_next _))))
  unfold Builtin.«set_iterator.__next__»
  show wpAny _ _ (fieldsOf (.ref I) >>= _) _ _ _
  refine wpAny_bind (wpAny_fieldsOf hI rfl ?_)
  show wpAny _ _ (setEntries D >>= _) _ _ _
  refine wpAny_bind (wpAny_setEntries_of hD rfl rfl ?_)
  show wpAny _ _ (setNext D (itSlot w) 1 ep >>= _) _ _ _
  refine wpAny_bind (setNext_end hD ?_)
  show wpAny _ _ (setField (.ref I) 2 .none >>= fun _ => newExc (.type "StopIteration") [] >>= fun e => raiseNew e) _ _ _
  refine wpAny_bind (wpAny_setField_rec hI (by simp) fun h₁ hI₁ hs₁ => ?_)
  refine wpAny_bind ?_
  simp only [newExc, newTuple]
  refine wpAny_bind (wpAny_newObj_type ?_ (by size_fits))
  refine wpAny_bind (m := firstArgMember _ _) (wpAny_of_eq (a := Value.none) (by first | rfl | (simp only [firstArgMember]; rfl)) ?_)
  refine wpAny_newObj_type ?_ (by size_fits)
  simp only [raiseNew]
  refine wpAny_bind (wpAny_handled ?_)
  rw [show A.in1.handled = none from hh]
  refine wpAny_throw ?_
  refine wpAny_bind (wpAny_isInstance (T := "StopIteration") (b := true) ⟨_, Heap.get?_push_size _ rfl, rfl⟩ isSubtype_stop ?_)
  exact wpAny_pure (h _ fun b o n e => Heap.get?_push_of_some _ (Heap.get?_push_of_some _ (hs₁.extBut _ _ n e)))
/-- one target, a set of True alone -/
theorem unpack_set1 {env : Env} {t : PySem.Expr} {k : Nat} {pos : Pos} {Q : Unit → Shared → Prop} (hh : A.handled = none) (he : assignEach [t] env = [(false, fun v => assign t env v)])
    (hD : s.heap.get? D = some (setObj #[(1, .bool true)] ep (tab1 (!(w.params.followText "set-order")))))
    (h : ∀ h', Kp s.heap h' → wpAny (model prog w) A (assign t env (.bool true)) Q E { s with heap := h' }) : wpAny (model prog w) A (assign (.Tuple [t] k pos) env (.ref D)) Q E s := by
  have hT : s.TypeIs (.ref D) "set" := ⟨_, hD, rfl⟩
  rw [arm_assign_Tuple]
  refine wpAny_bind (wpAny_standAt ?_)
  rw [he]
  unfold unpack
  refine wpAny_bind (wpAny_holding ?_)
  show wpAny _ _ (unpackItems (.ref D) 1 none) _ _ _
  unfold unpackItems
  refine wpAny_bind ?_
  unfold notIterableAtAll
  refine wpAny_bind (wpAny_specialOf hT PySem.F.slot_set_iter.lookup ?_)
  refine wpAny_pure ?_
  simp only [Bool.false_eq_true, if_false]
  refine wpAny_bind (wpAny_holding (set_pyIter hD ?_))
  have hlt : D < s.heap.objs.size := Heap.lt_size hD
  have hD₁ : (s.heap.push (setIt 0 0 (.ref D) 1 ep)).get? D = some (setObj #[(1, .bool true)] ep (tab1 (!(w.params.followText "set-order")))) := Heap.get?_push_of_some _ hD
  refine wpAny_bind (wpAny_holding ?_)
  show wpAny _ _ (pyNext (.ref s.heap.objs.size) >>= _) _ _ _
  refine wpAny_bind (set_next (Heap.get?_push_size _ rfl) hD₁ fun h₂ hI₂ hs₂ => ?_)
  have hD₂ := hs₂.extBut _ _ (Nat.ne_of_lt hlt) hD₁
  dsimp only
  refine wpAny_bind (wpAny_holding (wpAny_pure (wpAny_pure ?_)))
  rw [if_neg (by simp)]
  refine wpAny_bind (wpAny_holding (set_end hh hI₂ hD₂ fun h₃ hk₃ => ?_))
  simp only [Option.isSome_none, Bool.false_eq_true, if_false]
  refine wpAny_pure ?_
  show wpAny _ _ (holding [] (assign t env (.bool true)) >>= fun _ => pure ()) _ _ _
  refine wpAny_bind (wpAny_holding (wpAny_mono (h h₃ fun b o e => hk₃ b o (Nat.ne_of_lt (Heap.lt_size e)) (hs₂.extBut _ _ (Nat.ne_of_lt (Heap.lt_size e)) (Heap.get?_push_of_some _ e))) (fun _ _ q => wpAny_pure q) fun _ _ q => q))
end
end
section /- CompA -/
open PyProof.Rows.LCg (NsObj NsObj.ns ns_obj lst lst_snoc)
/-- what a comprehension bound to a name needs of its source -/
noncomputable def CompInA (prog : Program) (w : World) (A : Around) (E : Value → Shared → Prop) (env : Env) (e : PySem.Expr) (scope : Scope) (cl : List (Str × Addr)) (y : Str) (py : Pos) (Q : Flow → Shared → Prop) (xv : Value) (s₁ : Shared) : Prop :=
  wpAny (model prog w) A (pyIter xv) (fun it s₂ => wpAny (model prog w) A (newList []) (fun acc s₃ => wpAny (model prog w) A (newFunctionEnv scope env.globals cl [] env.qual none .none (some env)) (fun cenv s₄ =>
    codeAny (model prog w) A (.compStart e 0 it acc { cenv with scope := relabel scope env }) (compPost (model prog w) A E (some (assign (.Name y py) env)) (fun _ s' => Q .next s') acc cenv.locals) s₄) E s₃) E s₂) E s₁
section
variable {prog : Program} {w : World} {A : Around} {E : Value → Shared → Prop} {s : Shared} {env : Env} {h₀ : Heap} {m : Str → Option Value}
theorem comp_evalA {elt iter : PySem.Expr} {tg : PySem.Expr} {ifs : List PySem.Expr} {rest : List Comprehension} {scope : Scope} {cl : List (Str × Addr)} {pos spos : Pos} {y : Str} {py : Pos} {Q : Flow → Shared → Prop}
    (hsw : swapsWith (.ListComp elt (⟨tg, iter, ifs, 0⟩ :: rest) scope pos) (some (.Name y py)) spos.line env = pure true)
    (hclos : closureFor scope env = pure cl) (hkind : scope.kind = .function) (hnames : ∀ y ∈ scope.names, y.2 = .local → scope.names.lookup y.1 = some .local)
    (h : wpAny (model prog w) A (eval iter env) (CompInA prog w A E env (.ListComp elt (⟨tg, iter, ifs, 0⟩ :: rest) scope pos) scope cl y py Q) E s)
    (hs : ∀ x, foldedSetIterable iter env x = pure x := by intro _; rfl) :
    wpAny (model prog w) A (exec (.Assign [.Name y py] (.ListComp elt (⟨tg, iter, ifs, 0⟩ :: rest) scope pos) spos) env) Q E s := by
  rw [exec_Assign_Name_used _ _ _ _ hsw]
  refine wpAny_bind (wpAny_standAt (wpAny_bind ?_))
  show wpAny _ A (do let _ ← comprehension (.ListComp elt (⟨tg, iter, ifs, 0⟩ :: rest) scope pos) scope env _ (newList []) false (eval iter env) (some (assign (.Name y py) env))) _ _ s
  exact wpAny_bind (wpAny_mono (wpAny_comprehension_free (use := some (assign (.Name y py) env)) (Q := fun _ s' => Q .next s') rfl hs hclos hkind hnames h) (fun _ s' hq => wpAny_pure (wpAny_pure hq)) fun _ _ e => e)
/-- the list is bound -/
theorem compPostA {y : Str} {py : Pos} {Q : Flow → Shared → Prop} {C D : Addr} {oC : Obj} {m₂ : Str → Option Value} {ys : List Value} {rest : List (Addr × Obj)} (hy : env.kindOf y = some .local) (hp : (env.scope.kind == .class || (env.scope.kind == .module && env.locals != env.globals)) = false)
    (hC : NsObj oC m₂) (F : Fr h₀ env.locals s.heap m) (N : News h₀ env.locals s.heap ((C, oC) :: (D, lst ys) :: rest)) (off : ∀ p ∈ rest, p.1 ≠ D ∧ p.1 ≠ C) (hDC : @Ne Nat D C)
    (h : ∀ h' tk, Fr h₀ env.locals h' (fun z => if z = y then some (.ref D) else m z) → News h₀ env.locals h' ((D, lst ys) :: rest) → Q .next { s with heap := h', toks := tk }) :
    compPost (model prog w) A E (some (assign (.Name y py) env)) (fun _ s' => Q .next s') (.ref D) C (.ok .next) s := by
  have hCL := (N _ (.head _)).2
  show wpAny _ A (assign (.Name y py) env (.ref D)) _ _ _
  refine wpAny_assign_Name (wpAny_storeName_local hy F.ns (fun h₂ hn₂ hs₂ => ?_) hp)
  have F₂ := F.set hn₂ hs₂
  have N₂ : News h₀ env.locals h₂ ((C, oC) :: (D, lst ys) :: rest) := fun p hp => N.set hs₂ p hp
  refine ⟨m₂, hC.ns (N₂ _ (.head _)).1, fun h' hs => h h' _ (F₂.change hs hCL.1 hCL.2) fun p hp => ?_⟩
  have z := N₂ p (.tail _ hp)
  refine ⟨hs.extBut _ _ ?_ z.1, z.2⟩
  rcases List.mem_cons.mp hp with rfl | hp
  · exact hDC
  · exact (off p hp).2
theorem comp_tupleA {elt iter : PySem.Expr} {x : Str} {px : Pos} {ifs : List PySem.Expr} {scope : Scope} {cl : List (Str × Addr)} {pos : Pos} {l : Addr} {vs : List Value} {keep news₀ : List (Addr × Obj)} {y : Str} {py : Pos} {Q : Flow → Shared → Prop}
    (J : Nat → List Value → List (Addr × Obj) → Prop) (hh : A.handled = none) (hl : s.heap.IsTuple l vs.toArray) (hsz : vs.length ≤ 1000000)
    (hcell : ∀ y ∈ scope.names, y.2 ≠ .cell) (hkind : scope.kind = .function) (hx : scope.names.lookup x = some .local) (hy : env.kindOf y = some .local) (hp : (env.scope.kind == .class || (env.scope.kind == .module && env.locals != env.globals)) = false)
    (F : Fr h₀ env.locals s.heap m) (N : News h₀ env.locals s.heap (keep ++ news₀)) (hin : (∃ o, h₀.get? l = some o) ∨ ∃ o, (l, o) ∈ keep) (hb : AllBare s.gens) (hj : J 0 [] news₀)
    (turn : ∀ (i : Nat) v ys news I C D oI oC m₂ h g tk, vs[i]? = some v → J i ys news → ys.length ≤ i → AllBare g → NsObj oC m₂ → m₂ x = some v → Fr h₀ env.locals h m → News h₀ env.locals h ((I, oI) :: (C, oC) :: (D, lst ys) :: (keep ++ news)) → (∀ p ∈ keep ++ news, p.1 ≠ I ∧ p.1 ≠ C ∧ p.1 ≠ D) → ((@Ne Nat I C) ∧ (@Ne Nat I D) ∧ (@Ne Nat C D)) →
      wpAny (model prog w) A (forIn ifs true fun c r => if r = true then do let ok ← isTrue c (compEnvC scope cl C env) (eval c (compEnvC scope cl C env)); pure (ForInStep.yield ok) else pure (ForInStep.yield r)) (fun ok s₃ =>
        if ok = true then wpAny (model prog w) A (eval elt (compEnvC scope cl C env)) (fun y s₄ => CompGo h₀ env.locals m s ((I, oI) :: (C, oC) :: (D, lst ys) :: keep) I C D (J (i + 1) (ys ++ [y])) s₄) (fun _ _ => False) s₃
        else CompGo h₀ env.locals m s ((I, oI) :: (C, oC) :: (D, lst ys) :: keep) I C D (J (i + 1) ys) s₃) (fun _ _ => False) ⟨h, g, s.drawn, tk, s.os⟩)
    (done : ∀ D ys news h g tk, J vs.length ys news → AllBare g → Fr h₀ env.locals h (fun z => if z = y then some (.ref D) else m z) → News h₀ env.locals h ((D, lst ys) :: (keep ++ news)) → (∀ p ∈ keep ++ news, p.1 ≠ D) → Q .next ⟨h, g, s.drawn, tk, s.os⟩) :
    CompInA prog w A E env (.ListComp elt [⟨.Name x px, iter, ifs, 0⟩] scope pos) scope cl y py Q (.ref l) s := by
  refine wpAny_pyIter_tuple hl ?_
  have hlt : l < s.heap.objs.size := let ⟨o, ho, _⟩ := hl; Heap.lt_size ho
  have W := Walks.tuple (prog := prog) (w := w) hh s.heap.objs.size l (Nat.ne_of_lt hlt) vs.toArray
  rw [show vs.toArray.size = vs.length from rfl] at W
  have hkp : Kp s.heap (s.heap.push { cls := .type "tuple_iterator", data := .fields #[.ref l, .int 0 0] }) := fun b o e => Heap.get?_push_of_some _ e
  have hI0 : h₀.get? s.heap.objs.size = none := by
    cases hq : h₀.get? s.heap.objs.size with
    | none => rfl
    | some o' => exact absurd (Heap.lt_size (F.keep _ _ hq)) (Nat.lt_irrefl _)
  have N2 : News h₀ env.locals (s.heap.push { cls := .type "tuple_iterator", data := .fields #[.ref l, .int 0 0] }) ((s.heap.objs.size, { cls := .type "tuple_iterator", data := .fields #[.ref l, .int 0 0] }) :: (keep ++ news₀)) := fun p hp => by
    rcases List.mem_cons.mp hp with rfl | hp
    · exact ⟨Heap.get?_push_size _ rfl, Nat.ne_of_gt F.ns.lt, hI0⟩
    · exact News.kp N hkp p hp
  refine comp_srcR (RR := fun acc C => compPost (model prog w) A E (some (assign (.Name y py) env)) (fun _ s' => Q .next s') acc C) J W hsz (fun i h st => let ⟨o, ho, _⟩ := st.1; ⟨o, ho⟩) hcell hkind hx ⟨⟨_, Heap.get?_push_size _ rfl, rfl, rfl⟩, hl.at (hkp _)⟩ (Fr.kp F hkp) N2 (fun b hb => ?_) (fun p hp => Nat.ne_of_lt (Heap.lt_size (N p hp).1)) hb hj
    (fun i v ys news I C D oI oC m₂ h g tk hi hP => turn i v ys news I C D oI oC m₂ h g tk (by simpa using hP))
    fun C D oC m₂ ys news h g tk hj hg hC F N off hDC => compPostA hy hp hC F N off hDC fun h' tk' F' N' => done D ys news h' g tk' hj hg F' N' fun p hp => (off p hp).1
  rcases List.mem_cons.mp hb with rfl | hb
  · exact .inl rfl
  · rw [List.mem_singleton.mp hb]; exact .inr hin
theorem comp_listA {elt iter : PySem.Expr} {x : Str} {px : Pos} {ifs : List PySem.Expr} {scope : Scope} {cl : List (Str × Addr)} {pos : Pos} {l : Addr} {vs : List Value} {keep news₀ : List (Addr × Obj)} {y : Str} {py : Pos} {Q : Flow → Shared → Prop}
    (J : Nat → List Value → List (Addr × Obj) → Prop) (hh : A.handled = none) (hl : s.heap.IsList l vs.toArray) (hsz : vs.length ≤ 1000000)
    (hcell : ∀ y ∈ scope.names, y.2 ≠ .cell) (hkind : scope.kind = .function) (hx : scope.names.lookup x = some .local) (hy : env.kindOf y = some .local) (hp : (env.scope.kind == .class || (env.scope.kind == .module && env.locals != env.globals)) = false)
    (F : Fr h₀ env.locals s.heap m) (N : News h₀ env.locals s.heap (keep ++ news₀)) (hin : (∃ o, h₀.get? l = some o) ∨ ∃ o, (l, o) ∈ keep) (hb : AllBare s.gens) (hj : J 0 [] news₀)
    (turn : ∀ (i : Nat) v ys news I C D oI oC m₂ h g tk, vs[i]? = some v → J i ys news → ys.length ≤ i → AllBare g → NsObj oC m₂ → m₂ x = some v → Fr h₀ env.locals h m → News h₀ env.locals h ((I, oI) :: (C, oC) :: (D, lst ys) :: (keep ++ news)) → (∀ p ∈ keep ++ news, p.1 ≠ I ∧ p.1 ≠ C ∧ p.1 ≠ D) → ((@Ne Nat I C) ∧ (@Ne Nat I D) ∧ (@Ne Nat C D)) →
      wpAny (model prog w) A (forIn ifs true fun c r => if r = true then do let ok ← isTrue c (compEnvC scope cl C env) (eval c (compEnvC scope cl C env)); pure (ForInStep.yield ok) else pure (ForInStep.yield r)) (fun ok s₃ =>
        if ok = true then wpAny (model prog w) A (eval elt (compEnvC scope cl C env)) (fun y s₄ => CompGo h₀ env.locals m s ((I, oI) :: (C, oC) :: (D, lst ys) :: keep) I C D (J (i + 1) (ys ++ [y])) s₄) (fun _ _ => False) s₃
        else CompGo h₀ env.locals m s ((I, oI) :: (C, oC) :: (D, lst ys) :: keep) I C D (J (i + 1) ys) s₃) (fun _ _ => False) ⟨h, g, s.drawn, tk, s.os⟩)
    (done : ∀ D ys news h g tk, J vs.length ys news → AllBare g → Fr h₀ env.locals h (fun z => if z = y then some (.ref D) else m z) → News h₀ env.locals h ((D, lst ys) :: (keep ++ news)) → (∀ p ∈ keep ++ news, p.1 ≠ D) → Q .next ⟨h, g, s.drawn, tk, s.os⟩) :
    CompInA prog w A E env (.ListComp elt [⟨.Name x px, iter, ifs, 0⟩] scope pos) scope cl y py Q (.ref l) s := by
  refine wpAny_pyIter_list hl ?_
  have hlt : l < s.heap.objs.size := let ⟨o, ho, _⟩ := hl; Heap.lt_size ho
  have W := Walks.list (prog := prog) (w := w) hh s.heap.objs.size l (Nat.ne_of_lt hlt) vs.toArray
  rw [show vs.toArray.size = vs.length from rfl] at W
  have hkp : Kp s.heap (s.heap.push { cls := .type "list_iterator", data := .fields #[.ref l, .int 0 0] }) := fun b o e => Heap.get?_push_of_some _ e
  have hI0 : h₀.get? s.heap.objs.size = none := by
    cases hq : h₀.get? s.heap.objs.size with
    | none => rfl
    | some o' => exact absurd (Heap.lt_size (F.keep _ _ hq)) (Nat.lt_irrefl _)
  have N2 : News h₀ env.locals (s.heap.push { cls := .type "list_iterator", data := .fields #[.ref l, .int 0 0] }) ((s.heap.objs.size, { cls := .type "list_iterator", data := .fields #[.ref l, .int 0 0] }) :: (keep ++ news₀)) := fun p hp => by
    rcases List.mem_cons.mp hp with rfl | hp
    · exact ⟨Heap.get?_push_size _ rfl, Nat.ne_of_gt F.ns.lt, hI0⟩
    · exact News.kp N hkp p hp
  refine comp_srcR (RR := fun acc C => compPost (model prog w) A E (some (assign (.Name y py) env)) (fun _ s' => Q .next s') acc C) J W hsz (fun i h st => let ⟨o, ho, _⟩ := st.1; ⟨o, ho⟩) hcell hkind hx ⟨⟨_, Heap.get?_push_size _ rfl, rfl, rfl⟩, hl.push _⟩ (Fr.kp F hkp) N2 (fun b hb => ?_) (fun p hp => Nat.ne_of_lt (Heap.lt_size (N p hp).1)) hb hj
    (fun i v ys news I C D oI oC m₂ h g tk hi hP => turn i v ys news I C D oI oC m₂ h g tk (by simpa using hP))
    fun C D oC m₂ ys news h g tk hj hg hC F N off hDC => compPostA hy hp hC F N off hDC fun h' tk' F' N' => done D ys news h' g tk' hj hg F' N' fun p hp => (off p hp).1
  rcases List.mem_cons.mp hb with rfl | hb
  · exact .inl rfl
  · rw [List.mem_singleton.mp hb]; exact .inr hin
end
end
section /- CompB -/
open PyProof.Rows.LCg (NsObj NsObj.ns ns_obj lst lst_snoc)
section
variable {prog : Program} {w : World} {A : Around} {E : Value → Shared → Prop} {s : Shared} {h₀ : Heap} {m : Str → Option Value} {env : Env}
theorem comp_rangeA {elt iter : PySem.Expr} {x : Str} {px : Pos} {ifs : List PySem.Expr} {scope : Scope} {cl : List (Str × Addr)} {pos : Pos} {r : Addr} {a b c : Int} {t u v : Tok} {n : Nat} {keep news₀ : List (Addr × Obj)} {y : Str} {py : Pos} {Q : Flow → Shared → Prop}
    (J : Nat → List Value → List (Addr × Obj) → Prop) (hh : A.handled = none) (hr : IsRange s.heap r a b c t u v) (hsmall : Builtin.Range.small a b c = true) (hn : Builtin.Range.rangeSize a b c = (n : Int)) (hsz : n ≤ 1000000)
    (hcell : ∀ y ∈ scope.names, y.2 ≠ .cell) (hkind : scope.kind = .function) (hx : scope.names.lookup x = some .local) (hy : env.kindOf y = some .local) (hp : (env.scope.kind == .class || (env.scope.kind == .module && env.locals != env.globals)) = false)
    (F : Fr h₀ env.locals s.heap m) (N : News h₀ env.locals s.heap (keep ++ news₀)) (hb : AllBare s.gens) (hj : J 0 [] news₀)
    (turn : ∀ (i : Nat) v ys news I C D oI oC m₂ h g tk, i < n → (∃ ti, v = .int (a + i * c) ti) → J i ys news → ys.length ≤ i → AllBare g → NsObj oC m₂ → m₂ x = some v → Fr h₀ env.locals h m → News h₀ env.locals h ((I, oI) :: (C, oC) :: (D, lst ys) :: (keep ++ news)) → (∀ p ∈ keep ++ news, p.1 ≠ I ∧ p.1 ≠ C ∧ p.1 ≠ D) → ((@Ne Nat I C) ∧ (@Ne Nat I D) ∧ (@Ne Nat C D)) →
      wpAny (model prog w) A (forIn ifs true fun c r => if r = true then do let ok ← isTrue c (compEnvC scope cl C env) (eval c (compEnvC scope cl C env)); pure (ForInStep.yield ok) else pure (ForInStep.yield r)) (fun ok s₃ =>
        if ok = true then wpAny (model prog w) A (eval elt (compEnvC scope cl C env)) (fun y s₄ => CompGo h₀ env.locals m s ((I, oI) :: (C, oC) :: (D, lst ys) :: keep) I C D (J (i + 1) (ys ++ [y])) s₄) (fun _ _ => False) s₃
        else CompGo h₀ env.locals m s ((I, oI) :: (C, oC) :: (D, lst ys) :: keep) I C D (J (i + 1) ys) s₃) (fun _ _ => False) ⟨h, g, s.drawn, tk, s.os⟩)
    (done : ∀ D ys news h g tk, J n ys news → AllBare g → Fr h₀ env.locals h (fun z => if z = y then some (.ref D) else m z) → News h₀ env.locals h ((D, lst ys) :: (keep ++ news)) → (∀ p ∈ keep ++ news, p.1 ≠ D) → Q .next ⟨h, g, s.drawn, tk, s.os⟩) :
    CompInA prog w A E env (.ListComp elt [⟨.Name x px, iter, ifs, 0⟩] scope pos) scope cl y py Q (.ref r) s := by
  refine wpAny_pyIter_range hr hsmall ?_
  rw [hn]
  have W := Walks.range (prog := prog) (w := w) hh s.heap.objs.size a c n
  have hkp : Kp s.heap (s.heap.push { cls := .type "range_iterator", data := .fields #[rawInt a, rawInt (n : Int), rawInt c] }) := fun b o e => Heap.get?_push_of_some _ e
  have hI0 : h₀.get? s.heap.objs.size = none := by
    cases hq : h₀.get? s.heap.objs.size with
    | none => rfl
    | some o' => exact absurd (Heap.lt_size (F.keep _ _ hq)) (Nat.lt_irrefl _)
  have N2 : News h₀ env.locals (s.heap.push { cls := .type "range_iterator", data := .fields #[rawInt a, rawInt (n : Int), rawInt c] }) ((s.heap.objs.size, { cls := .type "range_iterator", data := .fields #[rawInt a, rawInt (n : Int), rawInt c] }) :: (keep ++ news₀)) := fun p hp => by
    rcases List.mem_cons.mp hp with rfl | hp
    · exact ⟨Heap.get?_push_size _ rfl, Nat.ne_of_gt F.ns.lt, hI0⟩
    · exact News.kp N hkp p hp
  exact comp_srcR (RR := fun acc C => compPost (model prog w) A E (some (assign (.Name y py) env)) (fun _ s' => Q .next s') acc C) J W hsz (fun i h st => ⟨_, st⟩) hcell hkind hx (by
    show IsRangeIter _ _ (a + ((0 : Nat) : Int) * c) ((n : Int) - ((0 : Nat) : Int)) c
    have e1 : a + ((0 : Nat) : Int) * c = a := by simp
    have e2 : (n : Int) - ((0 : Nat) : Int) = n := by simp
    rw [e1, e2]; exact Heap.get?_push_size _ rfl) (Fr.kp F hkp) N2 (fun b hb => .inl (List.mem_singleton.mp hb)) (fun p hp => Nat.ne_of_lt (Heap.lt_size (N p hp).1)) hb hj
    turn
    fun C D oC m₂ ys news h g tk hj hg hC F N off hDC => compPostA hy hp hC F N off hDC fun h' tk' F' N' => done D ys news h' g tk' hj hg F' N' fun p hp => (off p hp).1
end
end
section /- CommonB -/
theorem assign_pairE {prog : Program} {w : World} {A : Around} {s : Shared} {E : Value → Shared → Prop} {h₀ : Heap} {env : Env} {m : Str → Option Value} {news : List (Addr × Obj)} {x1 x2 : Str} {p1 p2 pt : Pos} {kk : Nat} {T : Addr} {v1 v2 : Value} {Q : Unit → Shared → Prop}
    (hh : A.handled = none) (F : Fr h₀ env.locals s.heap m) (N : News h₀ env.locals s.heap news) (hT : s.heap.IsTuple T #[v1, v2])
    (h1 : env.kindOf x1 = some .local) (h2 : env.kindOf x2 = some .local) (hp : (env.scope.kind == .class || (env.scope.kind == .module && env.locals != env.globals)) = false)
    (h : ∀ h' tk, Fr h₀ env.locals h' (fun y => if y = x2 then some v2 else if y = x1 then some v1 else m y) → News h₀ env.locals h' news → (∀ b o, b ≠ env.locals → s.heap.get? b = some o → h'.get? b = some o) → Q () { s with heap := h', toks := tk }) :
    wpAny (model prog w) A (assign (.Tuple [.Name x1 p1, .Name x2 p2] kk pt) env (.ref T)) Q E s := by
  refine wpAny_assign_Tuple hh hT rfl rfl fun h₃ hx₃ => ?_
  have k₃ : Kp s.heap h₃ := fun b o e => hx₃ b o (Nat.ne_of_lt (Heap.lt_size e)) e
  show wpAny _ A (do holding [v2] (assign (.Name x1 p1) env v1); do holding [] (assign (.Name x2 p2) env v2); pure ()) _ _ _
  refine wpAny_bind (wpAny_holding (wpAny_assign_Name (wpAny_storeName_local h1 (Fr.kp F k₃).ns (fun h₄ hn₄ hs₄ => ?_) hp)))
  have F₄ := (Fr.kp F k₃).set hn₄ hs₄
  have N₄ := (News.kp N k₃).set hs₄
  refine wpAny_bind (wpAny_holding (wpAny_assign_Name (wpAny_storeName_local h2 F₄.ns (fun h₅ hn₅ hs₅ => wpAny_pure ?_) hp)))
  exact h h₅ _ (F₄.set hn₅ hs₅) (N₄.set hs₅) fun b o hb e => hs₅.extBut b o hb (hs₄.extBut b o hb (k₃ b o e))

theorem for_enum {prog : Program} {w : World} {A : Around} {env : Env} {x1 x2 : Str} {p1 p2 pt : Pos} {kk : Nat} {body : List Stmt} {s : Shared} {Q : Flow → Shared → Prop} {E : Value → Shared → Prop} {l : Addr} {vs : List Value} {nl : Nat}
    {h₀ : Heap} {m₀ : Str → Option Value} {news : List (Addr × Obj)} (J : Nat → (Str → Option Value) → Prop)
    (hh : A.handled = none) (F : Fr h₀ env.locals s.heap m₀) (N : News h₀ env.locals s.heap news)
    (hl : (l, W.listOf vs.toArray nl) ∈ news) (hb : AllBare s.gens)
    (hx1 : env.kindOf x1 = some .local) (hx2 : env.kindOf x2 = some .local) (hp : (env.scope.kind == .class || (env.scope.kind == .module && env.locals != env.globals)) = false)
    (hj : J 0 m₀)
    (turn : ∀ i v t m₁ h g tk ent keep, vs[i]? = some v → J i m₁ → AllBare g → Fr h₀ env.locals h (fun y => if y = x2 then some v else if y = x1 then some (.int (i : Nat) t) else m₁ y) → News h₀ env.locals h (ent :: (keep :: news)) →
      wpAny (model prog w) A (execs body env) (fun f s₂ => match f with
        | .next => GoOn h₀ env.locals ent (keep :: news) (fun m n => n = [] ∧ J (i + 1) m) s s₂
        | .cont => GoOn h₀ env.locals ent (keep :: news) (fun m n => n = [] ∧ J (i + 1) m) s s₂
        | .brk => Q .next s₂
        | .ret v => Q (.ret v) s₂) (fun _ _ => False) ⟨h, g, s.drawn, tk, s.os⟩)
    (done : ∀ m₁ h g tk, J vs.length m₁ → AllBare g → Fr h₀ env.locals h m₁ → News h₀ env.locals h news → Q .next ⟨h, g, s.drawn, tk, s.os⟩) :
    wpAny (model prog w) A (call (.type "enumerate") [.ref l]) (fun ev s₁ => wpAny (model prog w) A (pyIter ev) (fun it s₂ => codeAny (model prog w) A (.forLoop (.Tuple [.Name x1 p1, .Name x2 p2] kk pt) it body [] env) (fun r s' => match r with | .ok f => Q f s' | .error e => cameBackBy (model prog w) A env E e s') s₂) E s₁) E s := by
  have hll : s.heap.IsList l vs.toArray := ⟨_, (N _ hl).1, rfl, _, rfl⟩
  refine call_enumerate_list hll fun h₁ hen hit hsz hk => ?_
  obtain ⟨I, hI⟩ : ∃ I, I = s.heap.objs.size := ⟨_, rfl⟩
  rw [← hI] at hen hit hsz ⊢
  have F₁ : Fr h₀ env.locals h₁ m₀ := Fr.kp F hk
  have N₁ : News h₀ env.locals h₁ news := News.kp N hk
  have hlt : ∀ p ∈ news, @LT.lt Nat _ p.1 I := fun p hp => by rw [hI]; exact Heap.lt_size (N p hp).1
  have hL : @LT.lt Nat _ env.locals I := by rw [hI]; exact ltN F.ns.lt
  have hfree : ∀ b, @LE.le Nat _ I b → h₀.get? b = none := fun b hb => by
    cases hq : h₀.get? b with
    | none => rfl
    | some o' =>
      have := Heap.lt_size (F.keep _ _ hq)
      have h2 : @LT.lt Nat _ b s.heap.objs.size := this
      omega
  have hlI : @LT.lt Nat _ l I := hlt _ hl
  have hIL : @Ne Nat I env.locals := by omega
  have hIL1 : @Ne Nat (I + 1) env.locals := by omega
  have W := fun (hA : A.handled = none) => WalksT.enumerate (prog := prog) (w := w) hA (I + 1) I l (by show @Ne Nat _ _; omega) (by show @Ne Nat _ _; omega) (by show @Ne Nat _ _; omega) vs.toArray
  replace W := W hh
  rw [List.size_toArray] at W
  have hst0 : (∃ old, IsEnum h₁ (I + 1) I ((0 : Nat) : Int) old) ∧ h₁.IsListIter I l 0 ∧ h₁.IsList l vs.toArray := ⟨⟨_, hen⟩, hit, hll.at fun o e => hk _ _ e⟩
  refine W.self 0 _ _ _ hst0 ?_
  refine loop_inv (fun k s' => ∃ i h g tk m₁, i + k = vs.length ∧ s' = ⟨h, g, s.drawn, tk, s.os⟩ ∧ AllBare g ∧ Fr h₀ env.locals h m₁ ∧ News h₀ env.locals h news ∧ J i m₁ ∧ ((∃ old, IsEnum h (I + 1) I (i : Int) old) ∧ h.IsListIter I l i ∧ h.IsList l vs.toArray)) ?_ vs.length
    ⟨0, h₁, s.gens, s.toks, m₀, by omega, rfl, hb, F₁, N₁, hj, hst0⟩
  rintro k s' ⟨i, h, g, tk, m₁, hik, rfl, hg, F₂, N₂, hj₂, hst⟩
  have off : ∀ b, (∃ o, h₀.get? b = some o) → b ∉ [I + 1, I] := fun b ⟨o, e⟩ hm => by
    simp only [List.mem_cons, List.not_mem_nil, or_false] at hm
    rcases hm with rfl | rfl
    · rw [hfree _ (Nat.le_succ _)] at e; cases e
    · rw [hfree _ (Nat.le_refl _)] at e; cases e
  have offL : env.locals ∉ [I + 1, I] := fun hm => by
    simp only [List.mem_cons, List.not_mem_nil, or_false] at hm
    rcases hm with hm | hm
    · exact hIL1 hm.symm
    · exact hIL hm.symm
  have offN : ∀ p ∈ news, p.1 ∉ [I + 1, I] := fun p hp hm => by
    have := hlt p hp
    simp only [List.mem_cons, List.not_mem_nil, or_false] at hm
    rcases hm with hm | hm
    · have h2 : @Eq Nat p.1 (I + 1) := hm
      omega
    · have h2 : @Eq Nat p.1 I := hm
      omega
  have keepF : ∀ {h h'} {m}, Fr h₀ env.locals h m → (∀ b o, b ∉ [I + 1, I] → h.get? b = some o → h'.get? b = some o) → Fr h₀ env.locals h' m := fun F hk =>
    ⟨F.ns.at' fun o e => hk _ o offL e, fun b o e => hk b o (off b ⟨o, e⟩) (F.keep b o e), F.above⟩
  have keepN : ∀ {h h'}, News h₀ env.locals h news → (∀ b o, b ∉ [I + 1, I] → h.get? b = some o → h'.get? b = some o) → News h₀ env.locals h' news := fun N hk p hp =>
    ⟨hk _ _ (offN p hp) (N p hp).1, (N p hp).2⟩
  cases k with
  | zero =>
    have : i = vs.length := by omega
    subst this
    exact W.done _ _ _ hst fun h' tk' hk => done _ _ _ _ hj₂ hg (keepF F₂ hk) (keepN N₂ hk)
  | succ k =>
    refine W.item i _ _ _ (by omega) hst fun T vals h₃ tk₃ hvals _ hT hmid hk₃ => ?_
    obtain ⟨t₃, x₃, hx₃, rfl⟩ := hvals
    have F₃ := keepF F₂ hk₃
    have N₃ := keepN N₂ hk₃
    dsimp only at hk₃ ⊢
    refine W.go _ _ _ i T _ _ _ hmid fun h₄ hst₄ hk₄ => ?_
    have F₄ := keepF F₃ hk₄
    have N₄ := keepN N₃ hk₄
    have hT₄ : h₄.IsTuple T #[.int i t₃, x₃] := hT.at fun o e => hk₄ T o (by
      have z1 := hmid.2.2.2.1; have z2 := hmid.2.2.2.2
      simp [z1, z2]) e
    obtain ⟨⟨old₄, hen₄⟩, hit₄, hl₄⟩ := hst₄
    have N₅ : News h₀ env.locals h₄ ((I + 1, _) :: (I, _) :: news) := fun p hp => by
      rcases List.mem_cons.mp hp with rfl | hp
      · exact ⟨hen₄, hIL1, hfree _ (Nat.le_succ _)⟩
      rcases List.mem_cons.mp hp with rfl | hp
      · exact ⟨hit₄.choose_spec.1, hIL, hfree _ (Nat.le_refl _)⟩
      · exact N₄ p hp
    refine assign_pairE hh F₄ N₅ hT₄ hx1 hx2 hp fun h₅ tk₅ F₆ N₆ hk₅ => ?_
    refine wpAny_mono (turn i x₃ t₃ m₁ h₅ g tk₅ _ _ (by simpa using hx₃) hj₂ hg F₆ N₆) (fun f s₂ hf => ?_) fun _ _ x => x
    have fin : ∀ {s₂ e1 e2 o1 o2}, e1 = (I + 1, o1) → e2 = (I, o2) → h₄.get? (I + 1) = some o1 → h₄.get? I = some o2 → GoOn h₀ env.locals e1 (e2 :: news) (fun m n => n = [] ∧ J (i + 1) m) s s₂ →
        ∃ i h g tk m₁, i + k = vs.length ∧ s₂ = ⟨h, g, s.drawn, tk, s.os⟩ ∧ AllBare g ∧ Fr h₀ env.locals h m₁ ∧ News h₀ env.locals h news ∧ J i m₁ ∧ ((∃ old, IsEnum h (I + 1) I (i : Int) old) ∧ h.IsListIter I l i ∧ h.IsList l vs.toArray) := by
      rintro s₂ _ _ o1 o2 rfl rfl q1 q2 ⟨h9, g9, tk9, m9, news9, rfl, hb9, F9, N9, rfl, hj9⟩
      rw [List.append_nil] at N9
      refine ⟨i + 1, h9, g9, tk9, m9, by omega, rfl, hb9, F9, fun p hp => N9 p (.tail _ (.tail _ hp)), hj9, ⟨old₄, ?_⟩, ?_, ⟨_, (N9 _ (.tail _ (.tail _ hl))).1, rfl, _, rfl⟩⟩
      · have z := (N9 _ (.head _)).1
        have q : some o1 = _ := q1.symm.trans hen₄
        cases q
        exact z
      · obtain ⟨o, ho, r⟩ := hit₄
        have z := (N9 _ (.tail _ (.head _))).1
        have q : some o2 = some o := q2.symm.trans ho
        cases q
        exact ⟨_, z, r⟩
    cases f with
    | next => exact Again.mk (Nat.lt_succ_self k) (fin rfl rfl hen₄ hit₄.choose_spec.1 hf)
    | cont => exact Again.mk (Nat.lt_succ_self k) (fin rfl rfl hen₄ hit₄.choose_spec.1 hf)
    | brk => exact hf
    | ret v => exact hf
theorem for_enum_then {prog : Program} {w : World} {A : Around} {env : Env} {tg : Expr} {body : List Stmt} {s : Shared} {Q₀ Q : Flow → Shared → Prop} {E : Value → Shared → Prop} {l : Addr}
    (h : wpAny (model prog w) A (call (.type "enumerate") [.ref l]) (fun ev s₁ => wpAny (model prog w) A (pyIter ev) (fun it s₂ => codeAny (model prog w) A (.forLoop tg it body [] env) (fun r s' => match r with | .ok f => Q₀ f s' | .error e => cameBackBy (model prog w) A env E e s') s₂) E s₁) E s)
    (hQ : ∀ f s', Q₀ f s' → Q f s') :
    wpAny (model prog w) A (call (.type "enumerate") [.ref l]) (fun ev s₁ => wpAny (model prog w) A (pyIter ev) (fun it s₂ => codeAny (model prog w) A (.forLoop tg it body [] env) (fun r s' => match r with | .ok f => Q f s' | .error e => cameBackBy (model prog w) A env E e s') s₂) E s₁) E s :=
  wpAny_mono h (fun ev s₁ h₁ => wpAny_mono h₁ (fun it s₂ h₂ => codeAny_mono h₂ fun r s₃ h₃ => by
    cases r with
    | ok f => exact hQ _ _ h₃
    | error e => exact h₃) fun _ _ x => x) fun _ _ x => x
theorem pick_upto (items : Array Value) (i : Nat) (h : i ≤ items.size) : slicePick items none (some (i : Int)) none = (items.toList.take i).toArray := by
  have e : sliceBounds none (some (i : Int)) none items.size = (((0 : Nat) : Int), ((i : Nat) : Int), 1) := by
    simp only [sliceBounds, Option.getD_none, show (1 : Int) > 0 by decide, if_true, if_neg (show ¬ ((i : Int) < 0) by omega)]
    congr 1
    congr 1
    omega
  rw [kmk_pick_nat _ e, List.drop_zero, Nat.sub_zero]
end
section /- CommonA -/
open PyProof.Rows.LCg (NsObj NsObj.ns ns_obj lst lst_snoc)
theorem nameObj {h : Heap} {a : Addr} {o : Obj} (_ : h.get? a = some o) : ∃ o', o' = o := ⟨o, rfl⟩

theorem filt_yes {f : Str → Bool} {l : List Str} {j : Nat} {c : Str} (h : l[j]? = some c) (hf : f c = true) : (l.take (j + 1)).filter f = (l.take j).filter f ++ [c] := by
  rw [List.take_add_one, h]; simp [hf]
theorem filt_no {f : Str → Bool} {l : List Str} {j : Nat} {c : Str} (h : l[j]? = some c) (hf : f c = false) : (l.take (j + 1)).filter f = (l.take j).filter f := by
  rw [List.take_add_one, h]; simp [hf]
noncomputable def okC (c : Str) : Bool := !(c == Str.ofString "") && !(c == Str.ofString ".")
theorem okC_empty {c : Str} (h : (c.length : Int) = 0) : okC c = false := by rw [ns_nil (by omega : c.length = 0)]; decide
theorem okC_dot {c : Str} (h : (c != Str.ofString ".") = false) : okC c = false := by rw [show c = Str.ofString "." by simpa using h]; decide
theorem okC_yes {c : Str} (h : (c.length : Int) ≠ 0) (h2 : (c != Str.ofString ".") = true) : okC c = true := by
  unfold okC
  have h1 : (c == Str.ofString "") = false := by
    rw [beq_eq_false_iff_ne]; rintro rfl; exact h rfl
  have h3 : (c == Str.ofString ".") = false := by simpa using h2
  rw [h1, h3]; rfl
/-- the steps of a path that count -/
noncomputable def comps (x : Str) : List Str := (Txt.split x (Str.ofString "/")).filter okC
/-- lists of texts, one for each item so far -/
noncomputable def SJ (f : Str → List Str) (xs : List Str) (i : Nat) (ys : List Value) (news : List (Addr × Obj)) : Prop :=
  ∃ ls : List (Addr × List Value × Nat), ys = ls.map (fun q => .ref q.1) ∧ news = ls.reverse.map (fun q => (q.1, W.listOf q.2.1.toArray q.2.2)) ∧ ls.length = i ∧ ∀ (j : Nat) (q : Addr × List Value × Nat), ls[j]? = some q → ∃ x, xs[j]? = some x ∧ StrsAre q.2.1 (f x)
theorem sj_next {f : Str → List Str} {xs : List Str} {i : Nat} {ls : List (Addr × List Value × Nat)} {a : Addr} {v : List Value} {n : Nat} {z : Str} (hls : ∀ (j : Nat) (q : Addr × List Value × Nat), ls[j]? = some q → ∃ x, xs[j]? = some x ∧ StrsAre q.2.1 (f x))
    (hli : ls.length = i) (hz : xs[i]? = some z) (hv : StrsAre v (f z)) : ∀ (j : Nat) (q : Addr × List Value × Nat), (ls ++ [(a, v, n)])[j]? = some q → ∃ x, xs[j]? = some x ∧ StrsAre q.2.1 (f x) := fun j q hq => by
  rcases Nat.lt_or_ge j ls.length with hj | hj
  · rw [List.getElem?_append_left hj] at hq
    exact hls j q hq
  · rw [List.getElem?_append_right hj] at hq
    have hj0 : j - ls.length = 0 := by
      rcases Nat.eq_zero_or_pos (j - ls.length) with h | h
      · exact h
      · rw [List.getElem?_eq_none (by simp; omega)] at hq; cases hq
    rw [hj0] at hq
    cases hq
    exact ⟨z, by rw [show j = i by omega]; exact hz, hv⟩
/-- the loop of commonpath has ended: common stands for the texts of C -/
noncomputable def CmnDone (s : Shared) (L : Addr) (oS : Obj) (C : List Str) (f : Flow) (s' : Shared) : Prop :=
  f = .next ∧ ∃ h g tk m Ac vc nc, s' = ⟨h, g, s.drawn, tk, s.os⟩ ∧ AllBare g ∧ Fr s.heap L h m ∧ News s.heap L h ((Ac, W.listOf vc.toArray nc) :: (L + 1, oS) :: []) ∧ StrsAre vc C ∧ m (Str.ofString "common") = some (.ref Ac) ∧ m (Str.ofString "isabs") = some (.bool true)
theorem commonpath_spec {w : World} {mg mb : Str → Option Value} {mean : ExcName → Option Value} {s : Shared} {d u : Nat} {l : Addr} {n : Nat} {x y : Str} {t1 t2 t3 : Tok} {C P Q : List Str} {R : Result → Shared → Prop}
    (X : (hd.heap_1 w.params).In s.heap) (T : Top view39 (looseW view39 []) mean mg mb s.heap) (hd : d < 430) (hu : u < 100) (hb : AllBare s.gens)
    (hl : s.heap.get? l = some (W.listOf #[.str x t1, .str y t2, .str x t3] n)) (hx : x.length ≤ 500) (hy : y.length ≤ 500)
    (hsx : Txt.startswith x (Str.ofString "/") = true) (hsy : Txt.startswith y (Str.ofString "/") = true)
    (hx2 : comps x = C ++ P) (hy2 : comps y = C ++ Q) (hPQ : ∀ p q, P[0]? = some p → Q[0]? = some q → p ≠ q) (hCl : (C ++ P ++ Q).length ≤ 100)
    (hR : ∀ h' g' tk t', Kp s.heap h' → AllBare g' → R (.ok (.ret (.str (Str.ofString "/" ++ Txt.join (Str.ofString "/") C) t'))) ⟨h', g', s.drawn, tk, s.os⟩) :
    codeAny (model PySem.Challenge.rw_ik0197_01.row.prog w) (ar d u) (.call (.ref 155) ⟨[.ref l], []⟩) R s := by
  refine enterC (binds := [(Str.ofString "paths", .ref l)]) X T.nolimit (by k_is) (by k_is) (show d < 1000 by omega) (BindsTo.of_eq rfl) (by rfl) (by decide +kernel) ?_
  intro L h₁ tk' cells' F N Y'
  k_cells Y'
  try simp only [List.cons_append, List.nil_append] at N
  try dsimp only
  have hl1 : s.heap.IsList l #[.str x t1, .str y t2, .str x t3] := ⟨_, hl, rfl, _, rfl⟩
  repeat' (walk_at "w5")
  (with_reducible rename Fr _ _ _ _ => F₁)
  have hlt0 := ltN F₁.ns.lt
  refine call_map (hl1.at fun o e => F₁.keep _ _ e) fun h₂ hz hTI hI hsz hk₂ => ?_
  have M : MapAt h₂ _ _ _ l (.ref 115) 0 #[.str x t1, .str y t2, .str x t3] := ⟨hz, hTI, hI, (hl1.at fun o e => F₁.keep _ _ e).at fun o e => hk₂ _ _ e, (by show @Ne Nat _ _; omega), (by show @Ne Nat _ _; omega), Nat.ne_of_lt (Heap.lt_size (F₁.keep _ _ hl))⟩
  have F := Fr.kp F₁ hk₂
  (with_reducible rename News _ _ _ _ => N₁)
  have N := News.kp N₁ hk₂
  have hI0 : s.heap.get? h₁.objs.size = none := by
    cases q : s.heap.get? h₁.objs.size with
    | none => rfl
    | some o => exact absurd (Heap.lt_size (F₁.keep _ _ q)) (Nat.lt_irrefl _)
  have hIL : h₁.objs.size ≠ L := Nat.ne_of_gt hlt0
  have hIN : ∀ p ∈ [(L + 1 + 1, _), (L + 1, _)], p.1 ≠ h₁.objs.size := fun p hp => Nat.ne_of_lt (Heap.lt_size (N₁ p hp).1)
  repeat' (walk_at "w5")
  refine call_tuple_map (u := u + 3) (d := d + 1) X T (show d + 1 < 450 by omega) hI0 (ys := [x, y, x]) (.cons _ _ (.cons _ _ (.cons _ _ .nil))) (show 3 ≤ 1000 by decide) F.keep M fun h₃ tk₃ D hk₃ hD hDn => ?_
  have F₃ := Fr.but (I := h₁.objs.size) F (fun b o hb e => hk₃ b o (by simpa using hb) e) hIL hI0
  have N₃ := News.but (I := h₁.objs.size) N (fun b o hb e => hk₃ b o (by simpa using hb) e) hIN
  have hzD : @LT.lt Nat _ (h₁.objs.size + 2) D := hDn (h₁.objs.size + 2) _ (by show @Ne Nat _ _; omega) hz
  have hDh : h₂.get? D = none := by
    cases q : h₂.get? D with
    | none => rfl
    | some o =>
      have := hDn D o (by show @Ne Nat D h₁.objs.size; omega) q
      exact absurd this (Nat.lt_irrefl _)
  have N₄ := newsIn F hDh hD N₃
  clear N₃ N N₁ F F₁ hDn hk₃ hD hIN hIL hI0 M hI hTI hz hk₂ hsz
  repeat' (walk_at "w5")
  (with_reducible rename Fr _ _ _ _ => F₁)
  (with_reducible rename News _ _ _ _ => N₁)
  refine try_calm ?_
  repeat' (walk_at "w5")
  refine comp_evalA (by with_unfolding_all rfl) (by with_unfolding_all rfl) rfl (by decide) ?_
  repeat' (walk_at "w5")
  refine comp_tupleA (keep := [(D, _), (L + 1 + 1, _), (L + 1, _)]) (news₀ := []) (SJ (fun x => Txt.split x (Str.ofString "/")) [x, y, x]) rfl ⟨_, (N₁ _ (.head _)).1, rfl, _, rfl⟩ (show 3 ≤ 1000000 by decide) (by decide) rfl rfl rfl rfl F₁ N₁ (.inr ⟨_, .head _⟩) hb ⟨[], rfl, rfl, rfl, fun j q hq => by simp at hq⟩
    (fun i v ys news I C' D' oI oC m₂ h g tk hv hj hyl hg hC hm F N hoff hne => ?_) (fun D₂ ys news h g tk hj hg F N hoff => ?_)
  · obtain ⟨ls, rfl, rfl, hli, hls⟩ := hj
    obtain ⟨z, tz, rfl, hz⟩ := StrsAre.item (ys := [x, y, x]) (.cons _ _ (.cons _ _ (.cons _ _ .nil))) i v hv
    have hzl : z.length ≤ 500 := by
      have := List.mem_of_getElem? hz
      simp only [List.mem_cons, List.not_mem_nil, or_false] at this
      rcases this with rfl | rfl | rfl <;> assumption
    change Fr s.heap L h _ at F
    change News s.heap L h _ at N
    have hbig : ∀ p ∈ (I, oI) :: (C', oC) :: (D', lst (List.map (fun q => Value.ref q.fst) ls)) :: [], @LT.lt Nat _ p.1 h.objs.size := fun p hp => Heap.lt_size (N p (by
      simp only [List.mem_cons, List.not_mem_nil, or_false] at hp ⊢
      rcases hp with h | h | h <;> simp [h])).1
    refine wpAny_tests_nil ?_
    show wpAny _ _ _ _ _ _
    clear F₁ N₁
    repeat' (walk_at "w5")
    (with_reducible rename Fr _ _ _ _ => F₂)
    (with_reducible rename News _ _ _ _ => N₂)
    (with_reducible rename StrsAre (strValues _) _ => hsa)
    rename_i lz hz2 tkz hsz1 hsz2 hsz3
    show CompGo _ _ _ _ _ _ _ _ _ _
    rw [hsz1] at hsa
    dsimp only at N₂
    refine CompGo.mk (news' := (h.objs.size, W.listOf (strValues lz).toArray 0) :: ls.reverse.map (fun q => (q.1, W.listOf q.2.1.toArray q.2.2))) hg F₂ N₂ (fun p hp => ?_) (fun p hp => ?_) ⟨ls ++ [(h.objs.size, strValues lz, 0)], by simp, by simp, by simp [hli], sj_next hls hli hz hsa⟩
    · generalize ls.reverse.map (fun q : Addr × List Value × Nat => (q.1, W.listOf q.2.1.toArray q.2.2)) = rest at hp ⊢
      exact mem_pick [1, 2, 3, 4, 5, 6, 0] 7 rfl p hp
    · rcases List.mem_cons.mp hp with rfl | hp
      · have z1 := hbig _ (.head _); have z2 := hbig _ (.tail _ (.head _)); have z3 := hbig _ (.tail _ (.tail _ (.head _)))
        exact ⟨Nat.ne_of_gt z1, Nat.ne_of_gt z2, Nat.ne_of_gt z3⟩
      · exact hoff p (List.mem_append_right _ hp)
  · obtain ⟨ls, rfl, rfl, hli, hls⟩ := hj
    obtain ⟨q1, q2, q3, rfl⟩ : ∃ q1 q2 q3, ls = [q1, q2, q3] := by
      match ls, hli with
      | [a, b, c], _ => exact ⟨a, b, c, rfl⟩
    obtain ⟨a1, v1, n1⟩ := q1
    obtain ⟨a2, v2, n2⟩ := q2
    obtain ⟨a3, v3, n3⟩ := q3
    have s1 : StrsAre v1 (Txt.split x (Str.ofString "/")) := by obtain ⟨_, h1, h2⟩ := hls 0 _ rfl; cases h1; exact h2
    have s2 : StrsAre v2 (Txt.split y (Str.ofString "/")) := by obtain ⟨_, h1, h2⟩ := hls 1 _ rfl; cases h1; exact h2
    have s3 : StrsAre v3 (Txt.split x (Str.ofString "/")) := by obtain ⟨_, h1, h2⟩ := hls 2 _ rfl; cases h1; exact h2
    simp only [List.reverse_cons, List.reverse_nil, List.nil_append, List.cons_append, List.map_cons, List.map_nil] at N hoff
    change Fr s.heap L h _ at F
    change News s.heap L h _ at N
    clear F₁ N₁ hls hli
    show wpAny _ _ _ _ _ _
    dsimp only
    repeat' (walk_at "w5")
    refine try_calm ?_
    repeat' (walk_at "w5")
    refine setcomp_eval (by with_unfolding_all rfl) rfl (by decide) ?_
    repeat' (walk_at "w5")
    refine setcomp_true (keep := _) rfl ⟨_, (N _ (.tail _ (.head _))).1, rfl, _, rfl⟩ (List.cons_ne_nil _ _) (by decide) rfl rfl F N (.inr ⟨_, .tail _ (.head _)⟩) hg (fun i v C' D' oD I oI oC m₂ h g tk hv hC hm F N => ?_) (fun D₃ o h g tk ho hg F N hoff => ?_)
    · obtain ⟨z, tz, rfl, hz⟩ := StrsAre.item (ys := [x, y, x]) (.cons _ _ (.cons _ _ (.cons _ _ .nil))) i v hv
      have hsz : Txt.startswith z (Str.ofString "/") = true := by
        have := List.mem_of_getElem? hz
        simp only [List.mem_cons, List.not_mem_nil, or_false] at this
        rcases this with rfl | rfl | rfl <;> assumption
      repeat' (walk_at "w5")
      · rw [hsz]
      · exact F
      · exact N
    · obtain ⟨ep, rfl⟩ : ∃ ep, o = setObj #[(1, .bool true)] ep (tab1 (!(w.params.followText "set-order"))) := ho
      refine unpack_set1 rfl rfl (N _ (.head _)).1 fun h₄ hk₄ => ?_
      have F := Fr.kp F hk₄
      have N : News s.heap L h₄ _ := fun p hp => News.kp N hk₄ p (.tail _ hp)
      clear hoff
      repeat' (walk_at "w5")
      (with_reducible rename Fr _ _ _ _ => F₁)
      (with_reducible rename News _ _ _ _ => N₁)
      refine comp_evalA (by with_unfolding_all rfl) (by with_unfolding_all rfl) rfl (by decide) ?_
      repeat' (walk_at "w5")
      refine comp_listA (keep := (D₂, _) :: _) (news₀ := []) (SJ comps [x, y, x]) rfl ⟨_, (N₁ _ (.head _)).1, rfl, _, rfl⟩ (show 3 ≤ 1000000 by decide) (by decide) rfl rfl rfl rfl F₁ (by rw [List.append_nil]; exact N₁) (.inr ⟨_, .head _⟩) hg ⟨[], rfl, rfl, rfl, fun j q hq => by simp at hq⟩
        (fun i v ys news I C' D' oI oC m₂ h g tk hv hj hyl hg hC hm F N hoff hne => ?_) (fun D₄ ys news h g tk hj hg F N hoff => ?_)
      · obtain ⟨ls, rfl, rfl, hli, hls⟩ := hj
        have hv3 : ∃ a vv nn z, v = .ref a ∧ (a, W.listOf vv.toArray nn) ∈ [(D₂, lst [Value.ref a1, Value.ref a2, Value.ref a3]), (a3, W.listOf v3.toArray n3), (a2, W.listOf v2.toArray n2), (a1, W.listOf v1.toArray n1)] ∧ StrsAre vv (Txt.split z (Str.ofString "/")) ∧ [x, y, x][i]? = some z := by
          match i, hv with
          | 0, hv => cases hv; exact ⟨a1, v1, n1, x, rfl, by simp, s1, rfl⟩
          | 1, hv => cases hv; exact ⟨a2, v2, n2, y, rfl, by simp, s2, rfl⟩
          | 2, hv => cases hv; exact ⟨a3, v3, n3, x, rfl, by simp, s3, rfl⟩
          | i + 3, hv => simp at hv
        obtain ⟨a, vv, nn, z, rfl, hmem, sz, hz⟩ := hv3
        change Fr s.heap L h _ at F
        change News s.heap L h _ at N
        refine wpAny_tests_nil ?_
        show wpAny _ _ _ _ _ _
        refine comp_eval (by with_unfolding_all rfl) (by with_unfolding_all rfl) (by decide) ?_
        repeat' (walk_at "w5")
        have hzl : z.length ≤ 500 := by
          have := List.mem_of_getElem? hz
          simp only [List.mem_cons, List.not_mem_nil, or_false] at this
          rcases this with rfl | rfl | rfl <;> assumption
        have hvl := StrsAre.length sz
        have hsl := split_le z (Str.ofString "/")
        have ga : h.get? a = some (W.listOf vv.toArray nn) := (N (a, W.listOf vv.toArray nn) (by
          refine .tail _ (.tail _ (.tail _ (List.mem_append_left _ ?_)))
          simp only [List.mem_cons, List.not_mem_nil, or_false] at hmem ⊢
          rcases hmem with h | h | h | h <;> simp [h])).1
        refine comp_list (keep := (I, oI) :: _) (news₀ := []) (fun j ys news => news = [] ∧ StrsAre ys (((Txt.split z (Str.ofString "/")).take j).filter okC)) rfl ⟨_, ga, rfl, _, rfl⟩ (by omega) (by decide) rfl rfl F (by rw [List.append_nil]; exact N) (.inr ⟨W.listOf vv.toArray nn, by
          refine .tail _ (.tail _ (.tail _ (List.mem_append_left _ ?_)))
          simp only [List.mem_cons, List.not_mem_nil, or_false] at hmem ⊢
          rcases hmem with h | h | h | h <;> simp [h]⟩) hg ⟨rfl, .nil⟩
          (fun j v ys news I2 C2 D2 oI2 oC2 m₃ h g tk hv2 hj2 hyl2 hg hC2 hm2 F N hoff2 hne2 => ?_) (fun D₅ ys news h g tk hj2 hg F N hoff2 => ?_)
        · obtain ⟨rfl, hys⟩ := hj2
          obtain ⟨c, tc, rfl, hc⟩ := sz.item j v hv2
          rw [List.append_nil] at N
          have hcl : c.length ≤ 500 := by
            have := PySem.join_mem_le (Str.ofString "/") _ c (List.mem_of_getElem? hc)
            rw [StrLaws.join_split] at this; omega
          refine wpAny_tests_one ?_
          repeat' (walk_at "w5")
          · exact CompGo.mk hg F N (fun p hp => by rw [List.append_nil] at hp; exact hp) (fun p hp => by cases hp) ⟨rfl, by rw [filt_yes hc (okC_yes (by assumption) (by assumption))]; exact hys.append' (.cons _ _ .nil)⟩
          · exact CompGo.mk hg F N (fun p hp => by rw [List.append_nil] at hp; exact hp) (fun p hp => by cases hp) ⟨rfl, by rw [filt_no hc (okC_dot (by assumption))]; exact hys⟩
          · exact CompGo.mk hg F N (fun p hp => by rw [List.append_nil] at hp; exact hp) (fun p hp => by cases hp) ⟨rfl, by rw [filt_no hc (okC_empty (by assumption))]; exact hys⟩
        · obtain ⟨rfl, hys⟩ := hj2
          rw [hvl, List.take_length] at hys
          change Fr s.heap L h _ at F
          rw [List.append_nil] at N
          refine CompGo.mk (news' := (D₅, W.listOf ys.toArray ys.length) :: ls.reverse.map (fun q => (q.1, W.listOf q.2.1.toArray q.2.2))) hg F N (fun p hp => ?_) (fun p hp => ?_) ⟨ls ++ [(D₅, ys, ys.length)], by simp, by simp, by simp [hli], sj_next hls hli hz hys⟩
          · generalize ls.reverse.map (fun q : Addr × List Value × Nat => (q.1, W.listOf q.2.1.toArray q.2.2)) = rest at hp ⊢
            exact mem_pick [1, 2, 3, 4, 5, 6, 7, 8, 9, 10, 0] 11 rfl p hp
          · rcases List.mem_cons.mp hp with rfl | hp
            · have z1 := hoff2 (I, oI) (.head _); have z2 := hoff2 (C', oC) (.tail _ (.head _)); have z3 := hoff2 (D', _) (.tail _ (.tail _ (.head _)))
              exact ⟨Ne.symm z1, Ne.symm z2, Ne.symm z3⟩
            · exact hoff p (List.mem_append_right _ hp)
      · obtain ⟨ls, rfl, rfl, hli, hls⟩ := hj
        obtain ⟨q1, q2, q3, rfl⟩ : ∃ q1 q2 q3, ls = [q1, q2, q3] := by
          match ls, hli with
          | [a, b, c], _ => exact ⟨a, b, c, rfl⟩
        obtain ⟨b1, w1, k1⟩ := q1
        obtain ⟨b2, w2, k2⟩ := q2
        obtain ⟨b3, w3, k3⟩ := q3
        have r1 : StrsAre w1 (C ++ P) := by obtain ⟨_, h1, h2⟩ := hls 0 _ rfl; cases h1; rw [← hx2]; exact h2
        have r2 : StrsAre w2 (C ++ Q) := by obtain ⟨_, h1, h2⟩ := hls 1 _ rfl; cases h1; rw [← hy2]; exact h2
        have r3 : StrsAre w3 (C ++ P) := by obtain ⟨_, h1, h2⟩ := hls 2 _ rfl; cases h1; rw [← hx2]; exact h2
        simp only [List.reverse_cons, List.reverse_nil, List.nil_append, List.cons_append, List.map_cons, List.map_nil] at N hoff
        change Fr s.heap L h _ at F
        replace N : News s.heap L h ((D₄, lst [.ref b1, .ref b2, .ref b3]) :: (L + 1 + 1, _) :: (L + 1, _) :: (b3, W.listOf w3.toArray k3) :: (b2, W.listOf w2.toArray k2) :: (b1, W.listOf w1.toArray k1) :: []) := fun p hp => N p (by
          rcases List.mem_cons.mp hp with rfl | hp
          · exact .head _
          rcases List.mem_cons.mp hp with rfl | hp
          · exact .tail _ (.tail _ (.tail _ (.head _)))
          rcases List.mem_cons.mp hp with rfl | hp
          · exact .tail _ (.tail _ (.tail _ (.tail _ (.head _))))
          rcases List.mem_cons.mp hp with rfl | hp
          · exact .tail _ (.tail _ (.tail _ (.tail _ (.tail _ (.tail _ (.tail _ (.tail _ (.head _))))))))
          rcases List.mem_cons.mp hp with rfl | hp
          · exact .tail _ (.tail _ (.tail _ (.tail _ (.tail _ (.tail _ (.tail _ (.tail _ (.tail _ (.head _)))))))))
          rcases List.mem_cons.mp hp with rfl | hp
          · exact .tail _ (.tail _ (.tail _ (.tail _ (.tail _ (.tail _ (.tail _ (.tail _ (.tail _ (.tail _ (.head _))))))))))
          cases hp)
        clear F₁ N₁ hls hli hoff s1 s2 s3
        show wpAny _ _ _ _ _ _
        dsimp only
        repeat' (walk_at "w5")
        have g1 := (N _ (.tail _ (.tail _ (.tail _ (.tail _ (.tail _ (.head _))))))).1
        have g2 := (N _ (.tail _ (.tail _ (.tail _ (.tail _ (.head _)))))).1
        have g3 := (N _ (.tail _ (.tail _ (.tail _ (.head _))))).1
        refine call_min3 rfl (show u + 3 + 2 < 9900 by omega) ⟨_, (N _ (.head _)).1, rfl, _, rfl⟩ ⟨_, g1, rfl, _, rfl⟩ ⟨_, g2, rfl, _, rfl⟩ ⟨_, g3, rfl, _, rfl⟩ r1 r2 r3 fun h5 tk5 r A1 hr hA1 hk5 => ?_
        obtain ⟨v1', n1', mA1, sA1⟩ := pick3 N (.tail _ (.tail _ (.tail _ (.tail _ (.tail _ (.head _)))))) (.tail _ (.tail _ (.tail _ (.tail _ (.head _))))) (.tail _ (.tail _ (.tail _ (.head _)))) r1 r2 r3 hr hA1
        clear hr hA1 g1 g2 g3
        have F := Fr.kp F hk5
        have N := News.kp N hk5
        repeat' (walk_at "w5")
        (with_reducible rename Fr _ _ _ _ => F₁)
        (with_reducible rename News _ _ _ _ => N₁)
        have g1 := (N₁ _ (.tail _ (.tail _ (.tail _ (.tail _ (.tail _ (.head _))))))).1
        have g2 := (N₁ _ (.tail _ (.tail _ (.tail _ (.tail _ (.head _)))))).1
        have g3 := (N₁ _ (.tail _ (.tail _ (.tail _ (.head _))))).1
        refine call_max3 rfl (show u + 3 + 2 < 9900 by omega) ⟨_, (N₁ _ (.head _)).1, rfl, _, rfl⟩ ⟨_, g1, rfl, _, rfl⟩ ⟨_, g2, rfl, _, rfl⟩ ⟨_, g3, rfl, _, rfl⟩ r1 r2 r3 fun h6 tk6 r' A2 hr hA2 hk6 => ?_
        obtain ⟨v2', n2', mA2, sA2⟩ := pick3 N₁ (.tail _ (.tail _ (.tail _ (.tail _ (.tail _ (.head _)))))) (.tail _ (.tail _ (.tail _ (.tail _ (.head _))))) (.tail _ (.tail _ (.tail _ (.head _)))) r1 r2 r3 hr hA2
        clear hr hA2 g1 g2 g3
        have F := Fr.kp F₁ hk6
        have N := News.kp N₁ hk6
        clear F₁ N₁ r1 r2 r3
        obtain ⟨U, V, e1, e2, hUV⟩ := mm_parts hPQ rfl rfl
        have hUl : id ((C ++ U).length ≤ 100) := by
          show (C ++ U).length ≤ 100
          have h := hCl
          rw [← e1]
          simp only [List.length_append] at h
          repeat' split
          all_goals (rw [List.length_append]; omega)
        rw [e1] at sA1
        rw [e2] at sA2
        clear e1 e2
        repeat' (walk_at "w5")
        (with_reducible rename Fr _ _ _ _ => F₁)
        (with_reducible rename News _ _ _ _ => N₁)
        replace N₁ : News s.heap L _ ((A1, W.listOf v1'.toArray n1') :: (A2, W.listOf v2'.toArray n2') :: (L + 1, _) :: []) := fun p hp => N₁ p (by
          rcases List.mem_cons.mp hp with rfl | hp
          · exact mA1
          rcases List.mem_cons.mp hp with rfl | hp
          · exact mA2
          rcases List.mem_cons.mp hp with rfl | hp
          · exact .tail _ (.tail _ (.head _))
          cases hp)
        clear mA1 mA2
        refine wpAny_For ?_
        repeat' (walk_at "w5")
        obtain ⟨oS, hoS⟩ := nameObj (N₁ _ (.tail _ (.tail _ (.head _)))).1
        subst hoS
        refine for_enum_then (Q₀ := CmnDone s L oS C)
          (for_enum (fun i m => i ≤ C.length ∧ m (Str.ofString "common") = some (.ref A1) ∧ m (Str.ofString "s1") = some (.ref A1) ∧ m (Str.ofString "s2") = some (.ref A2) ∧ m (Str.ofString "isabs") = some (.bool true)) rfl F₁ N₁ (.head _) hg rfl rfl rfl ⟨Nat.zero_le _, by walk_at "turnMap0", by walk_at "turnMap0", by walk_at "turnMap0", by walk_at "turnMap0"⟩
            (fun i v t m h g tk ent kp hv hj hg F N => ?_) (fun m h g tk hj hg F N => ?_)) (fun f s' hq => ?_)
        · obtain ⟨hi, j1, j2, j3, j4⟩ := hj
          change Fr s.heap L h _ at F
          change News s.heap L h _ at N
          have F' := (Fr.know (Fr.know (Fr.know (Fr.know F (a := Str.ofString "common") (by rw [if_neg (by decide), if_neg (by decide)]; exact j1)) (a := Str.ofString "s1") (by rw [if_neg (by decide), if_neg (by decide), if_neg (by decide)]; exact j2)) (a := Str.ofString "s2") (by rw [if_neg (by decide), if_neg (by decide), if_neg (by decide), if_neg (by decide)]; exact j3)) (a := Str.ofString "isabs") (by rw [if_neg (by decide), if_neg (by decide), if_neg (by decide), if_neg (by decide), if_neg (by decide)]; exact j4))
          clear F F₁ N₁
          obtain ⟨z, tz, rfl, hz⟩ := sA1.item i v hv
          obtain ⟨z', hz', hzz⟩ : ∃ z', (C ++ V)[i]? = some z' ∧ ((i < C.length ∧ z = z') ∨ (i = C.length ∧ z ≠ z')) := by
            rcases Nat.lt_or_ge i C.length with hlt | hge
            · rw [List.getElem?_append_left hlt] at hz ⊢
              exact ⟨z, hz, .inl ⟨hlt, rfl⟩⟩
            · have hiC : i = C.length := Nat.le_antisymm hi hge
              rw [List.getElem?_append_right hge, hiC, Nat.sub_self] at hz ⊢
              rcases hUV with rfl | ⟨a, U', b, V', rfl, rfl, hne⟩
              · cases hz
              · cases hz
                exact ⟨b, rfl, .inr ⟨rfl, hne⟩⟩
          obtain ⟨tq, hq⟩ := StrsAre.get sA2 i z' hz'
          have hl2 : h.IsList A2 v2'.toArray := ⟨_, (N _ (.tail _ (.tail _ (.tail _ (.head _))))).1, rfl, _, rfl⟩
          have hC100 : C.length ≤ 100 := by rw [List.length_append, List.length_append] at hCl; omega
          repeat' (walk_at "w5")
          refine item_in hl2 (Int.natCast_nonneg i) (by omega) (show v2'.toArray[((i : Nat) : Int).toNat]? = _ by rw [Int.toNat_natCast, List.getElem?_toArray]; exact hq) ?_
          repeat' (walk_at "w5")
          · have hl1 : h.IsList A1 v1'.toArray := ⟨_, (N _ (.tail _ (.tail _ (.head _)))).1, rfl, _, rfl⟩
            have hiC : i = C.length ∧ z ≠ z' := by
              rcases hzz with ⟨_, rfl⟩ | h
              · rename_i hb; simp at hb
              · exact h
            have e1 := StrsAre.length sA1
            rw [List.length_append] at e1
            refine kmk_slice_lit F' N hl1 IsPart.none (IsPart.int _ _) (zs := v1'.take i) (by rw [pick_upto _ _ (by rw [List.size_toArray]; omega)]) (fun D₆ h' F N l1 => ?_) (by with_unfolding_all rfl) (by kmk_pure) (by
              change (C ++ U).length ≤ 100 at hUl
              rw [List.length_append] at hUl
              rw [List.size_toArray, PySem.sizeLine_eq]; omega)
            clear hl1 hl2 F'
            repeat' (walk_at "w5")
            (with_reducible rename Fr _ _ _ _ => F₁)
            (with_reducible rename News _ _ _ _ => N₁)
            show CmnDone _ _ _ _ _ _
            refine ⟨rfl, _, _, _, _, D₆, v1'.take i, 0, rfl, hg, F₁, fun p hp => N₁ p ?_, ?_, by walk_at "turnMap0", by walk_at "turnMap0"⟩
            · rcases List.mem_cons.mp hp with rfl | hp
              · exact .head _
              · rw [List.mem_singleton.mp hp]
                exact .tail _ (.tail _ (.tail _ (.tail _ (.tail _ (.head _)))))
            · have := StrsAre.take' i sA1
              rw [hiC.1, List.take_left] at this
              rw [hiC.1]; exact this
          · have hiC : i < C.length := by
              rcases hzz with ⟨h, _⟩ | ⟨_, h⟩
              · exact h
              · rename_i hb _; exact absurd (by simpa using hb) h
            show GoOn _ _ _ _ _ _ _
            exact GoOn.mk hg F' N (fun p hp => by rw [List.append_nil] at hp; exact hp) ⟨rfl, hiC, by walk_at "turnMap0", by walk_at "turnMap0", by walk_at "turnMap0", by walk_at "turnMap0"⟩
        · obtain ⟨hi, j1, j2, j3, j4⟩ := hj
          refine ⟨rfl, h, g, tk, m, A1, v1', n1', rfl, hg, F, fun p hp => N p ?_, ?_, j1, j4⟩
          · rcases List.mem_cons.mp hp with rfl | hp
            · exact .head _
            · exact .tail _ (.tail _ hp)
          · have hU : U = [] := by
              have := StrsAre.length sA1
              rw [List.length_append] at this
              exact List.length_eq_zero_iff.mp (by omega)
            rw [hU, List.append_nil] at sA1
            exact sA1
        · obtain ⟨rfl, h, g, tk, m, Ac, vc, nc, rfl, hg, F, N, sC, j1, j2⟩ := hq
          have F' := Fr.know (Fr.know F (a := Str.ofString "common") j1) (a := Str.ofString "isabs") (by rw [if_neg (by decide)]; exact j2)
          clear F F₁ N₁
          show wpAny _ _ _ _ _ _
          repeat' (walk_at "w5")
          (with_reducible rename Fr _ _ _ _ => F₁)
          (with_reducible rename News _ _ _ _ => N₁)
          refine join_led N₁ (.head _) sC (fun c hc => ?_) (by have := hCl; simp at this; omega) (by decide) (fun t' k' _ => ?_)
          · have := PySem.join_mem_le (Str.ofString "/") _ c (show c ∈ Txt.split x (Str.ofString "/") from (List.mem_filter.mp (show c ∈ comps x by rw [hx2]; exact List.mem_append_left _ hc)).1)
            rw [StrLaws.join_split] at this; omega
          have hjl := join_lenC (x := Str.ofString "/") (ys := C) (c := 500) (fun c hc => by
            have := PySem.join_mem_le (Str.ofString "/") _ c (show c ∈ Txt.split x (Str.ofString "/") from (List.mem_filter.mp (show c ∈ comps x by rw [hx2]; exact List.mem_append_left _ hc)).1)
            rw [StrLaws.join_split] at this; omega)
          repeat' (walk_at "w5")
          exact hR _ _ _ _ F₁.keep hg
end
section /- LawS -/
noncomputable def Shaped (k : Nat) (st : LawSt) : Prop := st.1.length ≤ k ∧ st.2.1.length = st.1.length ∧ (∀ y ∈ st.1, y.length ≤ 10) ∧ ∀ y ∈ st.2.1, y.length ≤ k + 2
theorem pc_le : ∀ k < 8, (pc k).length ≤ 10 := by decide
theorem nm_length (n : Nat) : (nm n).length = n + 1 := by
  have h := len_mul_k1 (x := Str.ofString "a") (n := (n : Int) + 1) (by decide)
  rw [if_neg (by omega)] at h
  unfold nm
  omega
theorem shaped_snoc {k : Nat} {st : LawSt} {p q : Str} {d : Int} (h : Shaped k st) (hp : p.length ≤ 10) (hq : q.length ≤ k + 2) : Shaped (k + 1) (st.1 ++ [p], st.2.1 ++ [q], d) := by
  obtain ⟨h1, h2, h3, h4⟩ := h
  refine ⟨by simp; omega, by simp; omega, fun y hy => ?_, fun y hy => ?_⟩
  · rcases List.mem_append.mp hy with hy | hy
    · exact h3 y hy
    · rw [List.mem_singleton.mp hy]; exact hp
  · rcases List.mem_append.mp hy with hy | hy
    · have := h4 y hy; omega
    · rw [List.mem_singleton.mp hy]; omega
theorem shaped_step {k : Nat} {st : LawSt} (x : Int) (h : Shaped k st) : Shaped (k + 1) (lawStep st x) := by
  have hp : (pc (x % 8).toNat).length ≤ 10 := pc_le _ (by omega)
  have h1 := h.1
  unfold lawStep
  split
  · exact ⟨by have := h.1; omega, h.2.1, h.2.2.1, fun y hy => by have := h.2.2.2 y hy; omega⟩
  split
  · exact shaped_snoc h hp (by rw [nm_length]; omega)
  split
  · exact shaped_snoc h hp (by show 2 ≤ _; omega)
  · exact shaped_snoc h hp (by show 1 ≤ _; omega)
theorem shaped_fold : ∀ (xs : List Int) {k : Nat} {st : LawSt}, Shaped k st → Shaped (k + xs.length) (xs.foldl lawStep st)
  | [], _, _, h => h
  | x :: xs, k, st, h => by
    have := shaped_fold xs (shaped_step x h)
    rw [List.length_cons, show k + (xs.length + 1) = k + 1 + xs.length by omega]
    exact this
theorem law_shape {xs : List Int} (h : xs.length ≤ 11) : Shaped 11 (xs.foldl lawStep ([], [], 0)) := by
  obtain ⟨h1, h2, h3, h4⟩ := shaped_fold xs (k := 0) (st := ([], [], 0)) ⟨Nat.le_refl _, rfl, nofun, nofun⟩
  exact ⟨by omega, h2, h3, fun y hy => by have := h4 y hy; omega⟩
end
section /- LawF -/
/-! what the law's walk asks of the plain functions -/
noncomputable def pathOf (rs : List Nat) : Str := (Str.ofString "x" :: Str.ofString "/" :: rs.map nm).foldl joinStep (Str.ofString "")
noncomputable def plainOf (cl op : List Nat) : Str :=
  if (Txt.join (Str.ofString "/") (List.replicate cl.length (Str.ofString "..") ++ op.map nm)).length = 0 then Str.ofString "." else Txt.join (Str.ofString "/") (List.replicate cl.length (Str.ofString "..") ++ op.map nm)
noncomputable def nz (l : List Nat) : List Int := l.map fun (n : Nat) => (n : Int)
noncomputable def sldN (es as : List Int) : List Int × List Int := sldF (es.length + as.length + 1) es as
structure Span (ps qs : List Str) (i j : Nat) (cl op : List Nat) (C P Q : List Str) : Prop where
  lcl : cl.length ≤ 20
  lop : op.length ≤ 20
  mcl : ∀ x ∈ cl, x < ps.length
  mop : ∀ x ∈ op, x < ps.length
  first : sldN (nz (signs ps (around ps qs i) 1) ++ [(ps.length : Int)]) (nz (signs ps (around ps qs j) 2) ++ [(ps.length : Int)]) = (nz cl, nz op)
  told : sldN (nz (signs ps (around ps qs j) 1)) (nz (signs ps (around ps qs i) 1)) = (nz (signs ps op 1), if op = [] then nz (signs ps cl 1) else nz cl)
  plain : normed (Txt.join (Str.ofString "/") ((qs.drop i).take (j - i))) = plainOf cl op
  cx : comps (pathOf (around ps qs i)) = C ++ P
  cy : comps (pathOf (around ps qs j)) = C ++ Q
  cPQ : ∀ p q, P[0]? = some p → Q[0]? = some q → p ≠ q
  cl3 : (C ++ P ++ Q).length ≤ 100
  shl : (Str.ofString "/" ++ Txt.join (Str.ofString "/") C).length ≤ 1000
  back : (cl.map nm).foldl joinStep (Str.ofString "/" ++ Txt.join (Str.ofString "/") C) = pathOf (around ps qs i)
  taken : checked (Txt.join (Str.ofString "") ((ps.drop i).take (j - i))) = (plainOf cl op == Str.ofString ".")
structure LawFacts (ps qs : List Str) : Prop where
  len : ps.length ≤ 11
  lenq : qs.length = ps.length
  leps : ∀ y ∈ ps, y.length ≤ 10
  leqs : ∀ y ∈ qs, y.length ≤ 13
  rowlen : ∀ k, k ≤ ps.length → (around ps qs k).length ≤ 11
  rowmem : ∀ k, k ≤ ps.length → ∀ x ∈ around ps qs k, x < ps.length
  path : ∀ k, k ≤ ps.length → normed (Str.ofString "/../" ++ Txt.join (Str.ofString "/") (qs.take k)) = pathOf (around ps qs k)
  plen : ∀ k, k ≤ ps.length → (pathOf (around ps qs k)).length ≤ 500
  pabs : ∀ k, k ≤ ps.length → Txt.startswith (pathOf (around ps qs k)) (Str.ofString "/") = true
  span : ∀ i j, i ≤ j → j ≤ ps.length → ∃ cl op C P Q, Span ps qs i j cl op C P Q
end
section /- LawG -/
/-! the law's statements, taken out of the given text -/
noncomputable def lawStmt : Stmt := PySem.Challenge.rw_ik0197_01.row.prog.main.body.getLast?.getD (.Pass ⟨0, 0, 0, 0⟩)
noncomputable def lawScope : Scope := scopeOf lawStmt
noncomputable def lawTail : List Stmt := (bodyOf lawStmt).drop 3
noncomputable def lawFor : Stmt := lawTail.getD 1 (.Pass ⟨0, 0, 0, 0⟩)
noncomputable def lawTurn : List Stmt := bodyOf lawFor
noncomputable abbrev lawEnv (L fa : Addr) (cd : Value) : Env := envOfC (Str.ofString "law") lawScope L fa cd
/-- what the law keeps -/
noncomputable abbrev lawKeep (L lp lq lr lx : Addr) (pv qv rv xv : List Value) (np nq : Nat) (op oq : Obj) (rest : List (Addr × Obj)) : List (Addr × Obj) :=
  (lx, PyProof.Rows.LCg.lst xv) :: (lr, PyProof.Rows.LCg.lst rv) :: (lp, W.listOf pv.toArray np) :: (lq, W.listOf qv.toArray nq) :: (L + 1 + 1, oq) :: (L + 1, op) :: rest
end
section /- LawH -/
theorem codeAny_of_ar {M : Model} {A : Around} {d u : Nat} {c : Code} {R : Result → Shared → Prop} {s : Shared} (hh : A.handled = none) (hd : A.depth ≤ d) (hu : A.units ≤ u) (h : codeAny M (ar d u) c R s) : codeAny M A c R s :=
  fun Γ p hc hb => h Γ p hc ⟨hb.1.trans hh, Nat.le_trans hb.2.1 hd, nofun, nofun, Nat.le_trans hb.2.2.2.2 hu⟩
theorem strs_rep (x : Str) (t : Tok) : ∀ n, StrsAre (List.replicate n [Value.str x t]).flatten (List.replicate n x)
  | 0 => .nil
  | n + 1 => .cons x t (strs_rep x t n)
theorem rep_len {α : Type} (x : α) : ∀ n, (List.replicate n [x]).flatten.length = n
  | 0 => rfl
  | n + 1 => by rw [List.replicate_succ, List.flatten_cons, List.length_append, rep_len x n]; simp; omega
theorem range_up : ∀ k < 21, Builtin.Range.small 0 ((k : Nat) + 1 : Int) 1 = true ∧ Builtin.Range.rangeSize 0 ((k : Nat) + 1 : Int) 1 = ((k + 1 : Nat) : Int) := by decide
theorem row_mem {ls : List (Addr × List Value × Nat)} {i : Nat} {a : Addr} {v : List Value} {n : Nat} (h : ls[i]? = some (a, v, n)) : (a, W.listOf v.toArray n) ∈ ls.reverse.map fun q : Addr × List Value × Nat => (q.1, W.listOf q.2.1.toArray q.2.2) :=
  List.mem_map.mpr ⟨_, List.mem_reverse.mpr (List.mem_of_getElem? h), rfl⟩
theorem sCnt_le2 {ps : List Str} {rs : List Nat} {times i : Nat} (hle : ∀ y ∈ ps, y.length ≤ 10) (ht : times ≤ 2) : sCnt ps rs times i ≤ 20 := by
  unfold sCnt
  have h : (ps.getD (rs.getD i 0) Str.empty).length ≤ 10 := by
    rw [List.getD_eq_getElem?_getD]
    cases e : ps[rs.getD i 0]? with
    | none => exact Nat.zero_le _
    | some y => exact hle y (List.mem_of_getElem? e)
  exact Nat.mul_le_mul h ht
theorem signsTo_len {ps : List Str} {rs : List Nat} {times : Nat} (hle : ∀ y ∈ ps, y.length ≤ 10) (ht : times ≤ 2) : ∀ i, (signsTo ps rs times i).length ≤ 20 * i
  | 0 => Nat.le_refl _
  | i + 1 => by
    have h1 := signsTo_len (rs := rs) hle ht i
    have h2 := sCnt_le2 (rs := rs) (i := i) hle ht
    rw [signsTo, List.length_append, List.length_replicate]; omega
theorem signs_len {ps : List Str} (rs : List Nat) {times : Nat} (hle : ∀ y ∈ ps, y.length ≤ 10) (ht : times ≤ 2) : (nz (signs ps rs times)).length ≤ 20 * rs.length := by
  rw [nz, List.length_map]; exact signsTo_len hle ht _
section
variable {prog : Program} {w : World} {A : Around} {E : Value → Shared → Prop} {s : Shared} {h₀ : Heap} {L l : Addr} {m : Str → Option Value} {news : List (Addr × Obj)} {vs : List Value} {n : Nat} {value slice : PySem.Expr}
theorem slice_to {b : Nat} {tb : Tok} {Q : Value → Shared → Prop} (F : Fr h₀ L s.heap m) (N : News h₀ L s.heap news) (hm : (l, W.listOf vs.toArray n) ∈ news) (hb : b ≤ vs.length) (hz : vs.length ≤ 1000000)
    (h : ∀ D h', Fr h₀ L h' m → News h₀ L h' ((D, W.listOf (vs.take b).toArray 0) :: news) → (∀ p ∈ news, p.1 < D) → Q (.ref D) { s with heap := h' })
    (hs : subscripted slice false (.ref l) (.ref s.heap.objs.size) = operate [.ref s.heap.objs.size, .ref l] (getItem (.ref l) (.ref s.heap.objs.size)) := by with_unfolding_all rfl) (ht : ∀ r, letTemporaryGo value (.ref l) r = pure () := by (intro _; with_unfolding_all rfl)) :
    wpAny (model prog w) A (subscriptTail value slice (.ref l) (.ref s.heap.objs.size)) Q E { s with heap := s.heap.push { cls := .type "slice", data := .fields #[.none, .int (b : Int) tb, .none] } } := by
  have e : slicePick vs.toArray none (some (b : Int)) none = (vs.take b).toArray := by
    have e : sliceBounds none (some (b : Int)) none vs.toArray.size = (((0 : Nat) : Int), ((b : Nat) : Int), 1) := by
      simp only [sliceBounds, Option.getD_none, show (1 : Int) > 0 by decide, if_true, if_neg (show ¬ ((b : Int) < 0) by omega)]
      congr 1
      congr 1
      simp; omega
    rw [kmk_pick_nat _ e]; simp
  refine kmk_slice F N (led_list N hm) IsPart.none (IsPart.int _ _) (fun D h' F' N' l1 => h D h' F' ?_ l1) hs ht (by rw [List.size_toArray, PySem.sizeLine_eq]; omega)
  rw [e] at N'; exact N'
theorem slice_ab {a b : Nat} {ta tb : Tok} {Q : Value → Shared → Prop} (F : Fr h₀ L s.heap m) (N : News h₀ L s.heap news) (hm : (l, W.listOf vs.toArray n) ∈ news) (hab : a ≤ b) (hb : b ≤ vs.length) (hz : vs.length ≤ 1000000)
    (h : ∀ D h', Fr h₀ L h' m → News h₀ L h' ((D, W.listOf ((vs.drop a).take (b - a)).toArray 0) :: news) → (∀ p ∈ news, p.1 < D) → Q (.ref D) { s with heap := h' })
    (hs : subscripted slice false (.ref l) (.ref s.heap.objs.size) = operate [.ref s.heap.objs.size, .ref l] (getItem (.ref l) (.ref s.heap.objs.size)) := by with_unfolding_all rfl) (ht : ∀ r, letTemporaryGo value (.ref l) r = pure () := by (intro _; with_unfolding_all rfl)) :
    wpAny (model prog w) A (subscriptTail value slice (.ref l) (.ref s.heap.objs.size)) Q E { s with heap := s.heap.push { cls := .type "slice", data := .fields #[.int (a : Int) ta, .int (b : Int) tb, .none] } } := by
  have e : slicePick vs.toArray (some (a : Int)) (some (b : Int)) none = ((vs.drop a).take (b - a)).toArray := slicePick_run vs.toArray a b (by simpa using hb) hab
  refine kmk_slice F N (led_list N hm) (IsPart.int _ _) (IsPart.int _ _) (fun D h' F' N' l1 => h D h' F' ?_ l1) hs ht (by rw [List.size_toArray, PySem.sizeLine_eq]; omega)
  rw [e] at N'; exact N'
theorem pair_read {h : Heap} {a x y : Addr} {o : Obj} {k : Nat} {xs ys : List Value} {ns ms : List Int} (ha : h.get? a = some o) (hc : o.cls = .type "tuple") (hd : o.data = .seq #[.ref x, .ref y] k) (hx : h.IsList x xs.toArray) (hy : h.IsList y ys.toArray) (hi : IntsAre xs ns) (hj : IntsAre ys ms) :
    Reads h (.ref a) (.tuple [.list (ns.map PyData.int), .list (ms.map PyData.int)]) [x, y] :=
  reads_tuple_at ha hc hd (.cons (reads_newData hx (ke_carried hi)) (.cons (reads_newData hy (ke_carried hj)) .nil))
theorem pair_shaped (ns ms : List Int) : SeqAt.shaped (.tuple [.list (ns.map PyData.int), .list (ms.map PyData.int)]) = true := by
  simp [SeqAt.shaped, PyData.canLay0, PyData.canLayAll0, PyData.depth, PyData.depthAll, ke_canLayAll0, ke_depthAll]
theorem pair_ne {a b x y x' y' : Addr} {oa ob : Obj} {k k' : Nat} {xs ys xs' ys' : List Value} {ns ms : List Int} {Q : Value → Shared → Prop} (ha : s.heap.get? a = some oa) (hac : oa.cls = .type "tuple") (had : oa.data = .seq #[.ref x, .ref y] k) (hb : s.heap.get? b = some ob) (hbc : ob.cls = .type "tuple") (hbd : ob.data = .seq #[.ref x', .ref y'] k')
    (hx : s.heap.IsList x xs.toArray) (hy : s.heap.IsList y ys.toArray) (hx' : s.heap.IsList x' xs'.toArray) (hy' : s.heap.IsList y' ys'.toArray) (hi : IntsAre xs ns) (hj : IntsAre ys ms) (hi' : IntsAre xs' ns) (hj' : IntsAre ys' ms) (hu : A.units + 64 < cLine)
    (h : Q (.bool false) s) : wpAny (model prog w) A (compareOp .NotEq (.ref a) (.ref b)) Q E s := by
  refine ne_dataH (pair_read ha hac had hx hy hi hj) (pair_read hb hbc hbd hx' hy' hi' hj') (pair_shaped _ _) (pair_shaped _ _) hu ?_
  simp only [PyData.eqv, PyData.eqvAll, ked_eqvAll, decide_true, Bool.and_true, Bool.not_true]
  exact h
end
end
section
local macro_rules | `(tactic| walk_at "subscriptTail Name Slice ref ref") => `(tactic| (k_dflt (refine' slice_to ?F ?N ?m ?b ?z ?_ ?s ?t; (case F => k_asm); (case N => k_asm); (case m => k_mem); (case b => omega); (case z => omega); (case s => with_unfolding_all rfl); (case t => kmk_pure)); intro D' h' F' N' l1; (try k_lt l1)))
section /- LawW0 -/
open PyProof.Rows.LCg (NsObj NsObj.ns ns_obj lst lst_snoc)
theorem law_w0 {w : World} {mg mb : Str → Option Value} {mean : ExcName → Option Value} {h₀ h : Heap} {L fa lp lq lr lx : Addr} {cd : Value} {pv qv rv xv : List Value} {np nq : Nat} {op oq : Obj} {rest : List (Addr × Obj)} {ent : Addr × Obj} {ps qs : List Str}
    {m : Str → Option Value} {g : Array GenState} {dr : Drawn} {tk : Nat} {os : OsState} {k : Nat} {tkk : Tok} {Q : Flow → Shared → Prop}
    (X : (hd.heap_1 w.params).In h₀) (T : Top view39 (looseW view39 []) mean mg mb h₀) (HF : LawFacts ps qs) (hps : StrsAre pv ps) (hqs : StrsAre qv qs)
    (hcp : op.data = .cell (some (.ref lp))) (hcq : oq.data = .cell (some (.ref lq)))
    (hxs : StrsAre xv ((List.range (ps.length + 1)).map fun k => pathOf (around ps qs k)))
    (F : Fr h₀ L h m) (N : News h₀ L h (ent :: lawKeep L lp lq lr lx pv qv rv xv np nq op oq rest)) (hg : AllBare g)
    (hk : k ≤ ps.length) (hm1 : m (Str.ofString "k") = some (.int k tkk)) (hm2 : m (Str.ofString "paths") = some (.ref lx))
    (H : ∀ h' g' tk', AllBare g' → Fr h₀ L h' m → News h₀ L h' (ent :: lawKeep L lp lq lr lx pv qv rv xv np nq op oq rest) →
      wpAny (model PySem.Challenge.rw_ik0197_01.row.prog w) (callerA.deeper (lawEnv L fa cd)) (execs (lawTurn.drop 1) (lawEnv L fa cd)) Q (fun _ _ => False) ⟨h', g', dr, tk', os⟩) :
    wpAny (model PySem.Challenge.rw_ik0197_01.row.prog w) (callerA.deeper (lawEnv L fa cd)) (execs lawTurn (lawEnv L fa cd)) Q (fun _ _ => False) ⟨h, g, dr, tk, os⟩ := by
  obtain ⟨r, hr⟩ : ∃ r, r = lawTurn.drop 1 := ⟨_, rfl⟩
  obtain ⟨b, hb⟩ : ∃ b, b = lawTurn := ⟨_, rfl⟩
  obtain ⟨sc, hsc⟩ : ∃ sc, sc = lawScope := ⟨_, rfl⟩
  unfold lawEnv at H ⊢
  rw [← hr, ← hsc] at H
  rw [← hb, ← hsc]
  conv at hb => rhs; whnf
  conv at hr => rhs; whnf
  conv at hsc => rhs; whnf
  subst hb hr hsc
  have hkn : knowL [(Str.ofString "k", .int k tkk), (Str.ofString "paths", .ref lx)] m = m := knowL_eq (by simpa using ⟨hm1, hm2⟩)
  have F : Fr h₀ L h (knowL [(Str.ofString "k", .int k tkk), (Str.ofString "paths", .ref lx)] m) := hkn.symm ▸ F
  dsimp only [knowL, List.foldr] at F
  dsimp only [lawKeep] at N
  have e1 := StrsAre.length hps
  have e2 := StrsAre.length hqs
  have e3 := HF.len
  have e4 := HF.lenq
  walk1
  repeat' (walk_at "wL")
  (with_reducible rename News _ _ _ _ => N₁)
  have hb1 : ∀ y ∈ qs.take k, y.length ≤ 13 := fun y hy => HF.leqs y (List.take_subset _ _ hy)
  have hl1 : (qs.take k).length ≤ 11 := by simp; omega
  have hj := join_lenC (x := Str.ofString "/") hb1
  have es : (Str.ofString "/").length = 1 := by decide
  rw [es] at hj
  refine join_led N₁ (.head _) (StrsAre.take' k hqs) (fun y hy => by have := hb1 y hy; omega) (by omega) (by rw [es]; omega) (fun t' k' _ => ?_)
  have hp := HF.path k hk
  generalize Txt.join (Str.ofString "/") (qs.take k) = z at hj hp
  have hz : z.length ≤ 154 := by omega
  clear hb1 hl1 hj
  repeat' (walk_at "wL")
  (with_reducible rename Fr _ _ _ _ => F₁)
  (with_reducible rename News _ _ _ _ => N₁)
  (with_reducible rename _ ∧ _ => hlz)
  refine wpAny_call (codeAny_of_ar (d := 420) (u := 50) rfl (Nat.le_of_ble_eq_true rfl) (Nat.le_of_ble_eq_true rfl) (normpath_spec (X.keeps F₁.keep) (T.keeps F₁.keep) (by decide) (by have : (Str.ofString "/../").length = 4 := by decide
                                                                                                                                                                                       omega) hg fun h₂ g₂ tk₂ t₂ hk₂ hg₂ => ?_))
  have F := Fr.kp F₁ hk₂
  have N := News.kp N₁ hk₂
  clear F₁ N₁ hlz
  rw [hp]
  dsimp only
  repeat' (walk_at "wL")
  (with_reducible rename Fr _ _ _ _ => F₁)
  (with_reducible rename News _ _ _ _ => N₁)
  obtain ⟨tp, hxk⟩ := StrsAre.get hxs k (pathOf (around ps qs k)) (by rw [List.getElem?_map, List.getElem?_range (by omega)]; rfl)
  refine item_led N₁ (by k_mem) (by omega) hxk ?_
  repeat' (walk_at "wL")
  all_goals try ((with_reducible rename (_ != _) = true => hz); exact absurd hz (by simp))
  · (with_reducible rename Fr _ _ _ _ => F₁)
    (with_reducible rename News _ _ _ _ => N₁)
    exact H _ _ _ hg₂ (hkn ▸ (F₁ : Fr h₀ L h₂ (knowL [(Str.ofString "k", .int k tkk), (Str.ofString "paths", .ref lx)] m))) fun p hp => N₁ p (.tail _ hp)
end
end
section /- LawW1 -/
open PyProof.Rows.LCg (NsObj NsObj.ns ns_obj lst lst_snoc)
theorem law_w1 {w : World} {mg mb : Str → Option Value} {mean : ExcName → Option Value} {h₀ h : Heap} {L fa lp lq lr lx : Addr} {cd : Value} {pv qv xv : List Value} {np nq : Nat} {op oq : Obj} {ls : List (Addr × List Value × Nat)} {ent : Addr × Obj} {ps qs : List Str}
    {m : Str → Option Value} {g : Array GenState} {dr : Drawn} {tk : Nat} {os : OsState} {k a : Nat} {tkk ta : Tok} {Q : Flow → Shared → Prop}
    (X : (hd.heap_1 w.params).In h₀) (T : Top view39 (looseW view39 []) mean mg mb h₀) (HF : LawFacts ps qs) (hps : StrsAre pv ps) (hqs : StrsAre qv qs)
    (hcp : op.data = .cell (some (.ref lp))) (hlsl : ls.length = ps.length + 1) (hls : ∀ (j : Nat) (q : Addr × List Value × Nat), ls[j]? = some q → IntsAre q.2.1 ((around ps qs j).map fun (n : Nat) => (n : Int)))
    (F : Fr h₀ L h m) (N : News h₀ L h (ent :: lawKeep L lp lq lr lx pv qv (ls.map fun q => .ref q.1) xv np nq op oq (ls.reverse.map fun q => (q.1, W.listOf q.2.1.toArray q.2.2)))) (hg : AllBare g)
    (hk : k ≤ ps.length) (ha : a ≤ ps.length) (hm1 : m (Str.ofString "k") = some (.int k tkk)) (hm2 : m (Str.ofString "at") = some (.int a ta)) (hm3 : m (Str.ofString "rows") = some (.ref lr))
    (H : ∀ h' g' tk' t1 t2 lo lw ov wv, AllBare g' → Fr h₀ L h' (fun y => if y = Str.ofString "once" then some (.ref lo) else if y = Str.ofString "twice" then some (.ref lw) else if y = Str.ofString "first" then some (.int (min k a : Nat) t1) else if y = Str.ofString "last" then some (.int (max k a : Nat) t2) else m y) → News h₀ L h' ((lw, lst wv) :: (lo, lst ov) :: ent :: lawKeep L lp lq lr lx pv qv (ls.map fun q => .ref q.1) xv np nq op oq (ls.reverse.map fun q => (q.1, W.listOf q.2.1.toArray q.2.2))) →
      IntsAre ov (nz (signs ps (around ps qs (min k a)) 1)) → IntsAre wv (nz (signs ps (around ps qs (max k a)) 2)) →
      wpAny (model PySem.Challenge.rw_ik0197_01.row.prog w) (callerA.deeper (lawEnv L fa cd)) (execs (lawTurn.drop 3) (lawEnv L fa cd)) Q (fun _ _ => False) ⟨h', g', dr, tk', os⟩) :
    wpAny (model PySem.Challenge.rw_ik0197_01.row.prog w) (callerA.deeper (lawEnv L fa cd)) (execs (lawTurn.drop 1) (lawEnv L fa cd)) Q (fun _ _ => False) ⟨h, g, dr, tk, os⟩ := by
  obtain ⟨r, hr⟩ : ∃ r, r = lawTurn.drop 3 := ⟨_, rfl⟩
  obtain ⟨b, hb⟩ : ∃ b, b = lawTurn.drop 1 := ⟨_, rfl⟩
  obtain ⟨sc, hsc⟩ : ∃ sc, sc = lawScope := ⟨_, rfl⟩
  unfold lawEnv at H ⊢
  rw [← hr, ← hsc] at H
  rw [← hb, ← hsc]
  conv at hb => rhs; whnf
  conv at hr => rhs; whnf
  conv at hsc => rhs; whnf
  subst hb hr hsc
  have hkn : knowL [(Str.ofString "k", .int k tkk), (Str.ofString "at", .int a ta), (Str.ofString "rows", .ref lr)] m = m := knowL_eq (by simpa using ⟨hm1, hm2, hm3⟩)
  have F : Fr h₀ L h (knowL [(Str.ofString "k", .int k tkk), (Str.ofString "at", .int a ta), (Str.ofString "rows", .ref lr)] m) := hkn.symm ▸ F
  dsimp only [knowL, List.foldr] at F
  dsimp only [lawKeep] at N
  have e1 := StrsAre.length hps
  have e2 := StrsAre.length hqs
  have e3 := HF.len
  have e4 := HF.lenq
  have hi1 : min k a ≤ ps.length := Nat.le_trans (Nat.min_le_left ..) hk
  have hj1 : max k a ≤ ps.length := Nat.max_le.mpr ⟨hk, ha⟩
  obtain ⟨⟨ra, rv, nr⟩, hq1⟩ : ∃ q, ls[min k a]? = some q := ⟨ls[min k a]'(by omega), List.getElem?_eq_getElem _⟩
  obtain ⟨⟨rb, rw, nw⟩, hq2⟩ : ∃ q, ls[max k a]? = some q := ⟨ls[max k a]'(by omega), List.getElem?_eq_getElem _⟩
  have hI1 := hls _ _ hq1
  have hI2 := hls _ _ hq2
  have hr1 : (ls.map fun q : Addr × List Value × Nat => Value.ref q.1)[min k a]? = some (.ref ra) := by rw [List.getElem?_map, hq1]; rfl
  have hr2 : (ls.map fun q : Addr × List Value × Nat => Value.ref q.1)[max k a]? = some (.ref rb) := by rw [List.getElem?_map, hq2]; rfl
  have hm1' := row_mem hq1
  have hm2' := row_mem hq2
  clear hls hq1 hq2
  generalize (ls.map fun q : Addr × List Value × Nat => Value.ref q.1) = rrv at N H hr1 hr2
  generalize (ls.reverse.map fun q : Addr × List Value × Nat => (q.1, W.listOf q.2.1.toArray q.2.2)) = rest at N H hm1' hm2'
  walk1
  repeat' (walk_at "wL")
  (with_reducible rename Fr _ _ _ _ => F₁)
  (with_reducible rename News _ _ _ _ => N₁)
  have ei : (if (a : Int) < (k : Int) then (a : Int) else (k : Int)) = ((min k a : Nat) : Int) := by split <;> omega
  have ej : (if (a : Int) > (k : Int) then (a : Int) else (k : Int)) = ((max k a : Nat) : Int) := by split <;> omega
  replace N₁ := fun p hp => N₁ p (.tail _ hp)
  rw [ei, ej] at F₁
  clear ei ej
  generalize (if (a : Int) < (k : Int) then ta else tkk) = t1 at F₁
  generalize (if (a : Int) > (k : Int) then ta else tkk) = t2 at F₁
  generalize min k a = i at F₁ H hi1 hI1 hr1
  generalize max k a = j at F₁ H hj1 hI2 hr2
  change News h₀ L _ _ at N₁
  try clear N
  try clear F
  dsimp only
  walk1
  repeat' (walk_at "wL")
  (with_reducible rename Fr _ _ _ _ => F₁)
  (with_reducible rename News _ _ _ _ => N₁)
  refine item_led N₁ (by k_mem) (by omega) hr1 ?_
  repeat' (walk_at "wL")
  dsimp only at hI1 hI2
  have hw0 : ps.length ≤ 20 := by omega
  have hw1 : (around ps qs i).length ≤ 20 := by have := HF.rowlen i hi1; omega
  have hw2 : (around ps qs j).length ≤ 20 := by have := HF.rowlen j hj1; omega
  refine wpAny_call (codeAny_of_ar (d := 420) (u := 50) rfl (Nat.le_of_ble_eq_true rfl) (Nat.le_of_ble_eq_true rfl) (signs_spec (times := 1) (X.keeps F₁.keep) (T.keeps F₁.keep) (by decide) hg (led_list N₁ (by k_mem)) (led_list N₁ (.tail _ (.tail _ (.tail _ (.tail _ (.tail _ (.tail _ (.tail _ hm1')))))))) hps hI1 hw1 (HF.rowmem i hi1) hw0 HF.leps (by decide) fun h₂ g₂ tk₂ lo ov hk₂ hg₂ hD₂ hn₂ hI₃ => ?_))
  have F₂ := Fr.kp F₁ hk₂
  have N₂ := newsIn F₁ hn₂ hD₂ (News.kp N₁ hk₂)
  clear F₁ N₁
  dsimp only
  repeat' (walk_at "wL")
  (with_reducible rename Fr _ _ _ _ => F₁)
  (with_reducible rename News _ _ _ _ => N₁)
  refine item_led N₁ (by k_mem) (by omega) hr2 ?_
  repeat' (walk_at "wL")
  (with_reducible rename Fr _ _ _ _ => F₁)
  (with_reducible rename News _ _ _ _ => N₁)
  refine wpAny_call (codeAny_of_ar (d := 420) (u := 50) rfl (Nat.le_of_ble_eq_true rfl) (Nat.le_of_ble_eq_true rfl) (signs_spec (times := 2) (X.keeps F₁.keep) (T.keeps F₁.keep) (by decide) hg₂ (led_list N₁ (by k_mem)) (led_list N₁ (.tail _ (.tail _ (.tail _ (.tail _ (.tail _ (.tail _ (.tail _ (.tail _ hm2'))))))))) hps hI2 hw2 (HF.rowmem j hj1) hw0 HF.leps (by decide) fun h₃ g₃ tk₃ lw wv hk₃ hg₃ hD₃ hn₃ hI₄ => ?_))
  have F₂ := Fr.kp F₁ hk₃
  have N₂ := newsIn F₁ hn₃ hD₃ (News.kp N₁ hk₃)
  clear F₁ N₁
  dsimp only
  repeat' (walk_at "wL")
  (with_reducible rename Fr _ _ _ _ => F₁)
  (with_reducible rename News _ _ _ _ => N₁)
  have F₂ : Fr h₀ L _ (fun y => if y = Str.ofString "once" then some (.ref lo) else if y = Str.ofString "twice" then some (.ref lw) else if y = Str.ofString "first" then some (.int (i : Nat) t1) else if y = Str.ofString "last" then some (.int (j : Nat) t2) else knowL [(Str.ofString "k", .int k tkk), (Str.ofString "at", .int a ta), (Str.ofString "rows", .ref lr)] m y) := F₁
  rw [hkn] at F₂
  exact H _ _ _ t1 t2 lo lw ov wv hg₃ F₂ (fun p hp => N₁ p (.tail _ hp)) hI₃ hI₄
end
section /- LawW3 -/
open PyProof.Rows.LCg (NsObj NsObj.ns ns_obj lst lst_snoc)
theorem law_w3 {w : World} {mg mb : Str → Option Value} {mean : ExcName → Option Value} {h₀ h : Heap} {L fa lp lq lr lx lo lc ld : Addr} {cd : Value} {pv qv rrv xv ov cv dv : List Value} {np nq nc nd : Nat} {op oq : Obj} {rest : List (Addr × Obj)} {ent : Addr × Obj} {ps : List Str} {cl od : List Nat}
    {m : Str → Option Value} {g : Array GenState} {dr : Drawn} {tk : Nat} {os : OsState} {Q : Flow → Shared → Prop}
    (X : (hd.heap_1 w.params).In h₀) (T : Top view39 (looseW view39 []) mean mg mb h₀) (hps : StrsAre pv ps) (hpl : ps.length ≤ 11) (hle : ∀ y ∈ ps, y.length ≤ 10)
    (hcp : op.data = .cell (some (.ref lp))) (hc : IntsAre cv (nz cl)) (hd : IntsAre dv (nz od)) (hcl : cl.length ≤ 20) (hdl : od.length ≤ 20) (hcm : ∀ x ∈ cl, x < ps.length)
    (F : Fr h₀ L h m) (N : News h₀ L h ((lc, W.listOf cv.toArray nc) :: (ld, W.listOf dv.toArray nd) :: (lo, lst ov) :: ent :: lawKeep L lp lq lr lx pv qv rrv xv np nq op oq rest)) (hg : AllBare g)
    (hm1 : m (Str.ofString "opened") = some (.ref ld)) (hm2 : m (Str.ofString "closed") = some (.ref lc))
    (H : ∀ h' g' tk' lg gv ng, AllBare g' → Fr h₀ L h' (fun y => if y = Str.ofString "gone" then some (.ref lg) else m y) → News h₀ L h' ((lg, W.listOf gv.toArray ng) :: (lc, W.listOf cv.toArray nc) :: (ld, W.listOf dv.toArray nd) :: (lo, lst ov) :: ent :: lawKeep L lp lq lr lx pv qv rrv xv np nq op oq rest) →
      IntsAre gv (if od = [] then nz (signs ps cl 1) else nz cl) →
      wpAny (model PySem.Challenge.rw_ik0197_01.row.prog w) (callerA.deeper (lawEnv L fa cd)) (execs (lawTurn.drop 5) (lawEnv L fa cd)) Q (fun _ _ => False) ⟨h', g', dr, tk', os⟩) :
    wpAny (model PySem.Challenge.rw_ik0197_01.row.prog w) (callerA.deeper (lawEnv L fa cd)) (execs (lawTurn.drop 4) (lawEnv L fa cd)) Q (fun _ _ => False) ⟨h, g, dr, tk, os⟩ := by
  obtain ⟨r, hr⟩ : ∃ r, r = lawTurn.drop 5 := ⟨_, rfl⟩
  obtain ⟨b, hb⟩ : ∃ b, b = lawTurn.drop 4 := ⟨_, rfl⟩
  obtain ⟨sc, hsc⟩ : ∃ sc, sc = lawScope := ⟨_, rfl⟩
  unfold lawEnv at H ⊢
  rw [← hr, ← hsc] at H
  rw [← hb, ← hsc]
  conv at hb => rhs; whnf
  conv at hr => rhs; whnf
  conv at hsc => rhs; whnf
  subst hb hr hsc
  have hkn : knowL [(Str.ofString "opened", .ref ld), (Str.ofString "closed", .ref lc)] m = m := knowL_eq (by simpa using ⟨hm1, hm2⟩)
  have F : Fr h₀ L h (knowL [(Str.ofString "opened", .ref ld), (Str.ofString "closed", .ref lc)] m) := hkn.symm ▸ F
  dsimp only [knowL, List.foldr] at F
  dsimp only [lawKeep] at N
  have e1 := StrsAre.length hps
  have e2 := IntsAre.length hc
  have e3 := IntsAre.length hd
  walk1
  repeat' (walk_at "wL")
  · (with_reducible rename Fr _ _ _ _ => F₁)
    (with_reducible rename News _ _ _ _ => N₁)
    (with_reducible rename decide _ = _ => hod)
    replace hod : od = [] := List.map_eq_nil_iff.mp (of_decide_eq_true hod)
    refine wpAny_call (codeAny_of_ar (d := 420) (u := 50) rfl (Nat.le_of_ble_eq_true rfl) (Nat.le_of_ble_eq_true rfl) (signs_spec (times := 1) (X.keeps F₁.keep) (T.keeps F₁.keep) (by decide) hg (led_list N₁ (by k_mem)) (led_list N₁ (.tail _ (.head _))) hps hc hcl hcm (by omega) hle (by decide) fun h₂ g₂ tk₂ lg gv hk₂ hg₂ hD₂ hn₂ hI₃ => ?_))
    have F₂ := Fr.kp F₁ hk₂
    have N₂ := newsIn F₁ hn₂ hD₂ (News.kp N₁ hk₂)
    clear F₁ N₁
    dsimp only
    repeat' (walk_at "wL")
    (with_reducible rename Fr _ _ _ _ => F₁)
    (with_reducible rename News _ _ _ _ => N₁)
    have F₂ : Fr h₀ L _ (fun y => if y = Str.ofString "gone" then some (.ref lg) else knowL [(Str.ofString "opened", .ref ld), (Str.ofString "closed", .ref lc)] m y) := F₁
    rw [hkn] at F₂
    exact H _ _ _ lg gv gv.length hg₂ F₂ (fun p hp => N₁ p (by
      rcases List.mem_cons.mp hp with rfl | hp
      · exact .head _
      · exact .tail _ (.tail _ hp))) (by rw [if_pos hod]; exact hI₃)
  · (with_reducible rename Fr _ _ _ _ => F₁)
    (with_reducible rename News _ _ _ _ => N₁)
    (with_reducible rename decide _ = _ => hod)
    replace hod : ¬ od = [] := fun e => of_decide_eq_false hod (by rw [e]; rfl)
    refine list_copyK F₁ N₁ (led_list N₁ (.tail _ (.head _))) (fun lg ng h₂ F₂ N₂ _ => ?_) (by rw [List.size_toArray, PySem.sizeLine_eq, e2]; simp [nz]; omega)
    clear F₁ N₁
    repeat' (walk_at "wL")
    (with_reducible rename Fr _ _ _ _ => F₁)
    (with_reducible rename News _ _ _ _ => N₁)
    have F₂ : Fr h₀ L _ (fun y => if y = Str.ofString "gone" then some (.ref lg) else knowL [(Str.ofString "opened", .ref ld), (Str.ofString "closed", .ref lc)] m y) := F₁
    rw [hkn] at F₂
    exact H _ _ _ lg cv ng hg F₂ (fun p hp => N₁ p (by
      rcases List.mem_cons.mp hp with rfl | hp
      · exact .head _
      · exact .tail _ (.tail _ hp))) (by rw [if_neg hod]; exact hc)
end
section /- LawW4 -/
open PyProof.Rows.LCg (NsObj NsObj.ns ns_obj lst lst_snoc)
theorem law_w4 {w : World} {mg mb : Str → Option Value} {mean : ExcName → Option Value} {h₀ h : Heap} {L fa lp lq lr lx lo lc ld lg rb : Addr} {cd : Value} {pv qv rrv xv ov cv dv gv rw : List Value} {np nq nc nd ng nw : Nat} {op oq : Obj} {rest : List (Addr × Obj)} {ent : Addr × Obj} {ps : List Str} {rs od : List Nat} {os' G : List Int}
    {m : Str → Option Value} {g : Array GenState} {dr : Drawn} {tk j : Nat} {t2 : Tok} {os : OsState} {Q : Flow → Shared → Prop}
    (X : (hd.heap_1 w.params).In h₀) (T : Top view39 (looseW view39 []) mean mg mb h₀) (hps : StrsAre pv ps) (hpl : ps.length ≤ 11) (hle : ∀ y ∈ ps, y.length ≤ 10)
    (hcp : op.data = .cell (some (.ref lp))) (ho : IntsAre ov os') (hd : IntsAre dv (nz od)) (hgv : IntsAre gv G) (hw : IntsAre rw (rs.map fun (n : Nat) => (n : Int))) (hdl : od.length ≤ 20) (hdm : ∀ x ∈ od, x < ps.length) (hrl : rs.length ≤ 20) (hrm : ∀ x ∈ rs, x < ps.length) (hol : os'.length ≤ 400) (hgl : gv.length ≤ 1000)
    (htold : sldN (nz (signs ps rs 1)) os' = (nz (signs ps od 1), G))
    (hrb : rrv[j]? = some (.ref rb)) (hrb2 : (rb, W.listOf rw.toArray nw) ∈ rest) (hj : j ≤ 11)
    (F : Fr h₀ L h m) (N : News h₀ L h ((lg, W.listOf gv.toArray ng) :: (lc, W.listOf cv.toArray nc) :: (ld, W.listOf dv.toArray nd) :: (lo, lst ov) :: ent :: lawKeep L lp lq lr lx pv qv rrv xv np nq op oq rest)) (hg : AllBare g)
    (hm1 : m (Str.ofString "opened") = some (.ref ld)) (hm2 : m (Str.ofString "gone") = some (.ref lg)) (hm3 : m (Str.ofString "once") = some (.ref lo)) (hm4 : m (Str.ofString "rows") = some (.ref lr)) (hm5 : m (Str.ofString "last") = some (.int j t2))
    (H : ∀ h' g' tk' v, AllBare g' → Fr h₀ L h' (fun y => if y = Str.ofString "told" then some v else m y) → News h₀ L h' ((lc, W.listOf cv.toArray nc) :: (ld, W.listOf dv.toArray nd) :: ent :: lawKeep L lp lq lr lx pv qv rrv xv np nq op oq rest) →
      wpAny (model PySem.Challenge.rw_ik0197_01.row.prog w) (callerA.deeper (lawEnv L fa cd)) (execs (lawTurn.drop 7) (lawEnv L fa cd)) Q (fun _ _ => False) ⟨h', g', dr, tk', os⟩) :
    wpAny (model PySem.Challenge.rw_ik0197_01.row.prog w) (callerA.deeper (lawEnv L fa cd)) (execs (lawTurn.drop 5) (lawEnv L fa cd)) Q (fun _ _ => False) ⟨h, g, dr, tk, os⟩ := by
  obtain ⟨r, hr⟩ : ∃ r, r = lawTurn.drop 7 := ⟨_, rfl⟩
  obtain ⟨b, hb⟩ : ∃ b, b = lawTurn.drop 5 := ⟨_, rfl⟩
  obtain ⟨sc, hsc⟩ : ∃ sc, sc = lawScope := ⟨_, rfl⟩
  unfold lawEnv at H ⊢
  rw [← hr, ← hsc] at H
  rw [← hb, ← hsc]
  conv at hb => rhs; whnf
  conv at hr => rhs; whnf
  conv at hsc => rhs; whnf
  subst hb hr hsc
  have hkn : knowL [(Str.ofString "opened", .ref ld), (Str.ofString "gone", .ref lg), (Str.ofString "once", .ref lo), (Str.ofString "rows", .ref lr), (Str.ofString "last", .int j t2)] m = m := knowL_eq (by simpa using ⟨hm1, hm2, hm3, hm4, hm5⟩)
  have F : Fr h₀ L h (knowL [(Str.ofString "opened", .ref ld), (Str.ofString "gone", .ref lg), (Str.ofString "once", .ref lo), (Str.ofString "rows", .ref lr), (Str.ofString "last", .int j t2)] m) := hkn.symm ▸ F
  dsimp only [knowL, List.foldr] at F
  dsimp only [lawKeep] at N
  have e1 := StrsAre.length hps
  have e2 := IntsAre.length ho
  have e3 := IntsAre.length hd
  walk1
  repeat' (walk_at "w6")
  (with_reducible rename Fr _ _ _ _ => F₁)
  (with_reducible rename News _ _ _ _ => N₁)
  refine item_led N₁ (by k_mem) (by omega) hrb ?_
  repeat' (walk_at "w6")
  (with_reducible rename Fr _ _ _ _ => F₁)
  (with_reducible rename News _ _ _ _ => N₁)
  refine wpAny_call (codeAny_of_ar (d := 420) (u := 50) rfl (Nat.le_of_ble_eq_true rfl) (Nat.le_of_ble_eq_true rfl) (signs_spec (times := 1) (X.keeps F₁.keep) (T.keeps F₁.keep) (by decide) hg (led_list N₁ (by k_mem)) (led_list N₁ (.tail _ (.tail _ (.tail _ (.tail _ (.tail _ (.tail _ (.tail _ (.tail _ (.tail _ (.tail _ (.tail _ hrb2)))))))))))) hps hw hrl hrm (by omega) hle (by decide) fun h₂ g₂ tk₂ D1 d1 hk₂ hg₂ hD₂ hn₂ hI₃ => ?_))
  have F₂ := Fr.kp F₁ hk₂
  have N₂ := newsIn F₁ hn₂ hD₂ (News.kp N₁ hk₂)
  clear F₁ N₁
  dsimp only
  repeat' (walk_at "w6")
  have hsl := signs_len rs (times := 1) hle (by decide)
  have N : News h₀ L h₂ ((D1, lst d1) :: (lo, lst ov) :: (lg, W.listOf gv.toArray ng) :: (lc, W.listOf cv.toArray nc) :: (ld, W.listOf dv.toArray nd) :: ent :: lawKeep L lp lq lr lx pv qv rrv xv np nq op oq rest) := fun p hp => by
    rcases List.mem_cons.mp hp with rfl | hp
    · exact N₂ _ (.head _)
    rcases List.mem_cons.mp hp with rfl | hp
    · exact N₂ _ (.tail _ (.tail _ (.tail _ (.tail _ (.head _)))))
    rcases List.mem_cons.mp hp with rfl | hp
    · exact N₂ _ (.tail _ (.head _))
    rcases List.mem_cons.mp hp with rfl | hp
    · exact N₂ _ (.tail _ (.tail _ (.head _)))
    rcases List.mem_cons.mp hp with rfl | hp
    · exact N₂ _ (.tail _ (.tail _ (.tail _ (.head _))))
    · exact N₂ _ (.tail _ (.tail _ (.tail _ (.tail _ (.tail _ hp)))))
  clear N₂
  refine wpAny_call (sld_spec (s := ⟨h₂, g₂, dr, _, os⟩) F₂ N X T rfl rfl rfl (by intro e; cases e) (Nat.le_of_ble_eq_true rfl) rfl hI₃ ho (show (nz (signs ps rs 1)).length ≤ 1000 by omega) (by omega) fun h₆ tk₆ D lm lu mv uv nm' nu F N hmI huI _ _ _ _ => ?_)
  change IntsAre mv (sldN (nz (signs ps rs 1)) os').1 at hmI
  change IntsAre uv (sldN (nz (signs ps rs 1)) os').2 at huI
  rw [htold] at hmI huI
  dsimp only [lawKeep] at N hmI huI
  dsimp only
  repeat' (walk_at "w6")
  walk1
  walk1
  repeat' (walk_at "w6")
  (with_reducible rename Fr _ _ _ _ => F₁)
  (with_reducible rename News _ _ _ _ => N₁)
  refine wpAny_call (codeAny_of_ar (d := 420) (u := 50) rfl (Nat.le_of_ble_eq_true rfl) (Nat.le_of_ble_eq_true rfl) (signs_spec (times := 1) (X.keeps F₁.keep) (T.keeps F₁.keep) (by decide) hg₂ (led_list N₁ (by k_mem)) (led_list N₁ (.tail _ (.tail _ (.tail _ (.tail _ (.tail _ (.tail _ (.tail _ (.head _))))))))) hps hd hdl hdm (by omega) hle (by decide) fun h₇ g₇ tk₇ D2 d2 hk₇ hg₇ hD₇ hn₇ hI₇ => ?_))
  have F₂ := Fr.kp F₁ hk₇
  have N₂ := newsIn F₁ hn₇ hD₇ (News.kp N₁ hk₇)
  clear F₁ N₁
  dsimp only
  repeat' (walk_at "w6")
  (with_reducible rename News _ _ _ _ => N₁)
  (with_reducible rename Fr _ _ _ _ => F₁)
  refine pair_ne (N₁ _ (.tail _ (.tail _ (.head _)))).1 rfl rfl (N₁ _ (.head _)).1 rfl rfl (led_list N₁ (.tail _ (.tail _ (.tail _ (.head _))))) (led_list N₁ (.tail _ (.tail _ (.tail _ (.tail _ (.head _)))))) (led_list N₁ (.tail _ (.head _))) (led_list N₁ (.tail _ (.tail _ (.tail _ (.tail _ (.tail _ (.tail _ (.tail _ (.head _))))))))) hmI huI hI₇ hgv (Nat.le_of_ble_eq_true rfl) ?_
  repeat' (walk_at "w6")
  (with_reducible rename Fr _ _ _ _ => F₁)
  (with_reducible rename News _ _ _ _ => N₁)
  have F₂ : Fr h₀ L _ (fun y => if y = Str.ofString "told" then some (.ref D) else knowL [(Str.ofString "opened", .ref ld), (Str.ofString "gone", .ref lg), (Str.ofString "once", .ref lo), (Str.ofString "rows", .ref lr), (Str.ofString "last", .int j t2)] m y) := F₁
  rw [hkn] at F₂
  refine H _ _ _ (.ref D) hg₇ F₂ (fun p hp => N₁ p ?_)
  rcases List.mem_cons.mp hp with rfl | hp
  · exact (.tail _ (.tail _ (.tail _ (.tail _ (.tail _ (.tail _ (.tail _ (.tail _ (.head _)))))))))
  rcases List.mem_cons.mp hp with rfl | hp
  · exact (.tail _ (.tail _ (.tail _ (.tail _ (.tail _ (.tail _ (.tail _ (.tail _ (.tail _ (.head _))))))))))
  · exact (.tail _ (.tail _ (.tail _ (.tail _ (.tail _ (.tail _ (.tail _ (.tail _ (.tail _ (.tail _ (id hp)))))))))))
end
section /- LawW7 -/
open PyProof.Rows.LCg (NsObj NsObj.ns ns_obj lst lst_snoc)
theorem law_w7 {w : World} {mg mb : Str → Option Value} {mean : ExcName → Option Value} {h₀ h : Heap} {L fa lp lq lr lx lc : Addr} {cd : Value} {pv qv rrv xv cv : List Value} {np nq nc : Nat} {op oq : Obj} {rest : List (Addr × Obj)} {ent : Addr × Obj} {x y : Str} {cl : List Nat} {C P Q' : List Str}
    {m : Str → Option Value} {g : Array GenState} {dr : Drawn} {tk i j : Nat} {t1 t2 tx ty : Tok} {os : OsState} {Q : Flow → Shared → Prop}
    (X : (hd.heap_1 w.params).In h₀) (T : Top view39 (looseW view39 []) mean mg mb h₀) (hi : i ≤ 11) (hj : j ≤ 11) (hx : xv[i]? = some (.str x tx)) (hy : xv[j]? = some (.str y ty)) (hxl : x.length ≤ 500) (hyl : y.length ≤ 500)
    (hsx : Txt.startswith x (Str.ofString "/") = true) (hsy : Txt.startswith y (Str.ofString "/") = true) (hx2 : comps x = C ++ P) (hy2 : comps y = C ++ Q') (hPQ : ∀ p q, P[0]? = some p → Q'[0]? = some q → p ≠ q) (hCl : (C ++ P ++ Q').length ≤ 100)
    (hc : IntsAre cv (nz cl)) (hcl : cl.length ≤ 20) (hcm : ∀ x ∈ cl, x ≤ 11) (hsl : (Str.ofString "/" ++ Txt.join (Str.ofString "/") C).length ≤ 1000) (hback : (cl.map nm).foldl joinStep (Str.ofString "/" ++ Txt.join (Str.ofString "/") C) = x)
    (F : Fr h₀ L h m) (N : News h₀ L h ((lc, W.listOf cv.toArray nc) :: ent :: lawKeep L lp lq lr lx pv qv rrv xv np nq op oq rest)) (hg : AllBare g)
    (hm1 : m (Str.ofString "first") = some (.int i t1)) (hm2 : m (Str.ofString "last") = some (.int j t2)) (hm3 : m (Str.ofString "paths") = some (.ref lx)) (hm4 : m (Str.ofString "closed") = some (.ref lc))
    (H : ∀ h' g' tk' v, AllBare g' → Fr h₀ L h' (fun y => if y = Str.ofString "shared" then some v else m y) → News h₀ L h' (ent :: lawKeep L lp lq lr lx pv qv rrv xv np nq op oq rest) →
      wpAny (model PySem.Challenge.rw_ik0197_01.row.prog w) (callerA.deeper (lawEnv L fa cd)) (execs (lawTurn.drop 11) (lawEnv L fa cd)) Q (fun _ _ => False) ⟨h', g', dr, tk', os⟩) :
    wpAny (model PySem.Challenge.rw_ik0197_01.row.prog w) (callerA.deeper (lawEnv L fa cd)) (execs (lawTurn.drop 9) (lawEnv L fa cd)) Q (fun _ _ => False) ⟨h, g, dr, tk, os⟩ := by
  obtain ⟨r, hr⟩ : ∃ r, r = lawTurn.drop 11 := ⟨_, rfl⟩
  obtain ⟨b, hb⟩ : ∃ b, b = lawTurn.drop 9 := ⟨_, rfl⟩
  obtain ⟨sc, hsc⟩ : ∃ sc, sc = lawScope := ⟨_, rfl⟩
  unfold lawEnv at H ⊢
  rw [← hr, ← hsc] at H
  rw [← hb, ← hsc]
  conv at hb => rhs; whnf
  conv at hr => rhs; whnf
  conv at hsc => rhs; whnf
  subst hb hr hsc
  have hkn : knowL [(Str.ofString "first", .int i t1), (Str.ofString "last", .int j t2), (Str.ofString "paths", .ref lx), (Str.ofString "closed", .ref lc)] m = m := knowL_eq (by simpa using ⟨hm1, hm2, hm3, hm4⟩)
  have F : Fr h₀ L h (knowL [(Str.ofString "first", .int i t1), (Str.ofString "last", .int j t2), (Str.ofString "paths", .ref lx), (Str.ofString "closed", .ref lc)] m) := hkn.symm ▸ F
  dsimp only [knowL, List.foldr] at F
  dsimp only [lawKeep] at N
  walk1
  repeat' (walk_at "w7")
  (with_reducible rename News _ _ _ _ => N₁)
  refine item_led N₁ (by k_mem) (by omega) hx ?_
  repeat' (walk_at "w7")
  (with_reducible rename News _ _ _ _ => N₁)
  refine item_led N₁ (by k_mem) (by omega) hy ?_
  repeat' (walk_at "w7")
  (with_reducible rename News _ _ _ _ => N₁)
  refine item_led N₁ (by k_mem) (by omega) hx ?_
  repeat' (walk_at "w7")
  (with_reducible rename Fr _ _ _ _ => F₁)
  (with_reducible rename News _ _ _ _ => N₁)
  refine wpAny_call (codeAny_of_ar (d := 420) (u := 50) rfl (Nat.le_of_ble_eq_true rfl) (Nat.le_of_ble_eq_true rfl) (commonpath_spec (C := C) (P := P) (Q := Q') (X.keeps F₁.keep) (T.keeps F₁.keep) (by decide) (by decide) hg (N₁ _ (.head _)).1 hxl hyl hsx hsy hx2 hy2 hPQ hCl fun h₂ g₂ tk₂ t₂ hk₂ hg₂ => ?_))
  have F₂ := Fr.kp F₁ hk₂
  have N₂ : News h₀ L h₂ _ := fun p hp => News.kp N₁ hk₂ p (.tail _ hp)
  clear F₁ N₁
  generalize Str.ofString "/" ++ Txt.join (Str.ofString "/") C = sh at hback hsl ⊢
  dsimp only
  repeat' (walk_at "w7")
  walk1
  walk1
  repeat' (walk_at "w7")
  (with_reducible rename Fr _ _ _ _ => F₁)
  (with_reducible rename News _ _ _ _ => N₁)
  refine wpAny_call (codeAny_of_ar (d := 420) (u := 50) rfl (Nat.le_of_ble_eq_true rfl) (Nat.le_of_ble_eq_true rfl) (names_spec (X.keeps F₁.keep) (T.keeps F₁.keep) (by decide) hg₂ (led_list N₁ (.head _)) hc (by omega) (fun x hx => by have := hcm x hx; omega) fun h₃ g₃ tk₃ D1 d1 hk₃ hg₃ hD₃ hn₃ hI₃ => ?_))
  have F₂ := Fr.kp F₁ hk₃
  have N₂ := newsIn F₁ hn₃ hD₃ (News.kp N₁ hk₃)
  clear F₁ N₁
  have hdl := StrsAre.length hI₃
  rw [List.length_map] at hdl
  dsimp only
  refine star_seq (T := "list") (ws := d1) F₂ N₂ (.head _) rfl rfl (.inl rfl) rfl (by rw [List.size_toArray, PySem.sizeLine_eq]; omega) fun h₄ F₄ N₄ => ?_
  repeat' (walk_at "w7")
  rw [List.append_nil]
  refine wpAny_call (codeAny_of_ar (d := 420) (u := 50) rfl (Nat.le_of_ble_eq_true rfl) (Nat.le_of_ble_eq_true rfl) (join_spec (X.keeps F₄.keep) (T.keeps F₄.keep) (by decide) hsl hg₃ hI₃ (by rw [List.length_map]; omega) (fun y hy => by
    obtain ⟨x, hx, rfl⟩ := List.mem_map.mp hy
    have := hcm x hx
    rw [nm_length]; omega) fun h₅ g₅ tk₅ t₅ hk₅ hg₅ => ?_))
  have F₅ := Fr.kp F₄ hk₅
  have N₅ := News.kp N₄ hk₅
  clear F₂ N₂ F₄ N₄
  rw [hback]
  dsimp only
  repeat' (walk_at "w7")
  (with_reducible rename Fr _ _ _ _ => F₁)
  (with_reducible rename News _ _ _ _ => N₁)
  refine item_led N₁ (by k_mem) (by omega) hx ?_
  repeat' (walk_at "w7")
  all_goals try ((with_reducible rename (_ != _) = true => hz); exact absurd hz (by simp))
  · (with_reducible rename Fr _ _ _ _ => F₁)
    (with_reducible rename News _ _ _ _ => N₁)
    have F₂ : Fr h₀ L _ (fun y => if y = Str.ofString "shared" then some (.str sh t₂) else knowL [(Str.ofString "first", .int i t1), (Str.ofString "last", .int j t2), (Str.ofString "paths", .ref lx), (Str.ofString "closed", .ref lc)] m y) := F₁
    rw [hkn] at F₂
    exact H _ _ _ _ hg₅ F₂ (fun p hp => N₁ p (.tail _ (.tail _ (id hp))))
end
section
local macro_rules | `(tactic| walk_at "call builtin:len") => `(tactic| (k_dflt (refine' len_led ?N ?m ?z ?_; (case N => k_asm); (case m => k_mem); (case z => omega)); intro _ _))
section /- LawW2 -/
open PyProof.Rows.LCg (NsObj NsObj.ns ns_obj lst lst_snoc)
theorem law_w2 {w : World} {mg mb : Str → Option Value} {mean : ExcName → Option Value} {h₀ h : Heap} {L fa lp lq lr lx lo lw : Addr} {cd : Value} {pv qv rrv xv ov wv : List Value} {np nq : Nat} {op oq : Obj} {rest : List (Addr × Obj)} {ent : Addr × Obj} {ps : List Str} {os' ws' : List Int}
    {m : Str → Option Value} {g : Array GenState} {dr : Drawn} {tk : Nat} {os : OsState} {Q : Flow → Shared → Prop}
    (X : (hd.heap_1 w.params).In h₀) (T : Top view39 (looseW view39 []) mean mg mb h₀) (hps : StrsAre pv ps) (hpl : ps.length ≤ 11)
    (hcp : op.data = .cell (some (.ref lp))) (ho : IntsAre ov os') (hw : IntsAre wv ws') (hol : os'.length ≤ 400) (hwl : ws'.length ≤ 400)
    (F : Fr h₀ L h m) (N : News h₀ L h ((lw, lst wv) :: (lo, lst ov) :: ent :: lawKeep L lp lq lr lx pv qv rrv xv np nq op oq rest)) (hg : AllBare g)
    (hm1 : m (Str.ofString "once") = some (.ref lo)) (hm2 : m (Str.ofString "twice") = some (.ref lw))
    (H : ∀ h' g' tk' lc ld cv dv nc nd, AllBare g' → Fr h₀ L h' (fun y => if y = Str.ofString "opened" then some (.ref ld) else if y = Str.ofString "closed" then some (.ref lc) else m y) → News h₀ L h' ((lc, W.listOf cv.toArray nc) :: (ld, W.listOf dv.toArray nd) :: (lo, lst ov) :: ent :: lawKeep L lp lq lr lx pv qv rrv xv np nq op oq rest) →
      IntsAre cv (sldN (os' ++ [(ps.length : Int)]) (ws' ++ [(ps.length : Int)])).1 → IntsAre dv (sldN (os' ++ [(ps.length : Int)]) (ws' ++ [(ps.length : Int)])).2 →
      wpAny (model PySem.Challenge.rw_ik0197_01.row.prog w) (callerA.deeper (lawEnv L fa cd)) (execs (lawTurn.drop 4) (lawEnv L fa cd)) Q (fun _ _ => False) ⟨h', g', dr, tk', os⟩) :
    wpAny (model PySem.Challenge.rw_ik0197_01.row.prog w) (callerA.deeper (lawEnv L fa cd)) (execs (lawTurn.drop 3) (lawEnv L fa cd)) Q (fun _ _ => False) ⟨h, g, dr, tk, os⟩ := by
  obtain ⟨r, hr⟩ : ∃ r, r = lawTurn.drop 4 := ⟨_, rfl⟩
  obtain ⟨b, hb⟩ : ∃ b, b = lawTurn.drop 3 := ⟨_, rfl⟩
  obtain ⟨sc, hsc⟩ : ∃ sc, sc = lawScope := ⟨_, rfl⟩
  unfold lawEnv at H ⊢
  rw [← hr, ← hsc] at H
  rw [← hb, ← hsc]
  conv at hb => rhs; whnf
  conv at hr => rhs; whnf
  conv at hsc => rhs; whnf
  subst hb hr hsc
  have hkn : knowL [(Str.ofString "once", .ref lo), (Str.ofString "twice", .ref lw)] m = m := knowL_eq (by simpa using ⟨hm1, hm2⟩)
  have F : Fr h₀ L h (knowL [(Str.ofString "once", .ref lo), (Str.ofString "twice", .ref lw)] m) := hkn.symm ▸ F
  dsimp only [knowL, List.foldr] at F
  dsimp only [lawKeep] at N
  have e1 := StrsAre.length hps
  have e2 := IntsAre.length ho
  have e3 := IntsAre.length hw
  walk1
  repeat' (walk_at "wL")
  rename_i D1 ws1 _ hI1 _ _ _ _ _ _ D2 ws2 h5 F₁ N₁ hI2 _
  have N₂ : News h₀ L h5 ((D1, W.listOf ws1.toArray 0) :: (D2, W.listOf ws2.toArray 0) :: (lo, lst ov) :: ent :: lawKeep L lp lq lr lx pv qv rrv xv np nq op oq rest) := fun p hp => by
    rcases List.mem_cons.mp hp with rfl | hp
    · exact N₁ _ (.tail _ (.tail _ (.head _)))
    rcases List.mem_cons.mp hp with rfl | hp
    · exact N₁ _ (.head _)
    · exact N₁ _ (.tail _ (.tail _ (.tail _ (.tail _ (.tail _ hp)))))
  clear N₁
  rw [e1] at hI1 hI2
  refine wpAny_call (sld_spec (s := ⟨h5, g, dr, _, os⟩) F₁ N₂ X T rfl rfl rfl (by intro e; cases e) (Nat.le_of_ble_eq_true rfl) rfl hI1 hI2 (by simp; omega) (by simp; omega) fun h₆ tk₆ D lc ld cv dv nc nd F N hc hd _ _ _ _ => ?_)
  dsimp only
  refine assign_pairE rfl F N ⟨_, (N _ (.head _)).1, rfl, _, rfl⟩ rfl rfl rfl fun h₇ tk₇ F₇ N₇ _ => ?_
  have F₂ : Fr h₀ L h₇ (fun y => if y = Str.ofString "opened" then some (.ref ld) else if y = Str.ofString "closed" then some (.ref lc) else knowL [(Str.ofString "once", .ref lo), (Str.ofString "twice", .ref lw)] m y) := F₇
  rw [hkn] at F₂
  exact H _ _ _ lc ld cv dv nc nd hg F₂ (fun p hp => N₇ p (by
    rcases List.mem_cons.mp hp with rfl | hp
    · exact .tail _ (.head _)
    rcases List.mem_cons.mp hp with rfl | hp
    · exact .tail _ (.tail _ (.head _))
    · exact .tail _ (.tail _ (.tail _ (.tail _ (.tail _ hp)))))) hc hd
end
section /- LawW5 -/
open PyProof.Rows.LCg (NsObj NsObj.ns ns_obj lst lst_snoc)
theorem law_w5 {w : World} {mg mb : Str → Option Value} {mean : ExcName → Option Value} {h₀ h : Heap} {L fa lp lq lr lx lc ld : Addr} {cd : Value} {pv qv rrv xv cv dv : List Value} {np nq nc nd : Nat} {op oq : Obj} {rest : List (Addr × Obj)} {ent : Addr × Obj} {cl od : List Nat}
    {m : Str → Option Value} {g : Array GenState} {dr : Drawn} {tk : Nat} {os : OsState} {Q : Flow → Shared → Prop}
    (X : (hd.heap_1 w.params).In h₀) (T : Top view39 (looseW view39 []) mean mg mb h₀)
    (hc : IntsAre cv (nz cl)) (hd : IntsAre dv (nz od)) (hcl : cl.length ≤ 20) (hdl : od.length ≤ 20) (hdm : ∀ x ∈ od, x ≤ 11)
    (F : Fr h₀ L h m) (N : News h₀ L h ((lc, W.listOf cv.toArray nc) :: (ld, W.listOf dv.toArray nd) :: ent :: lawKeep L lp lq lr lx pv qv rrv xv np nq op oq rest)) (hg : AllBare g)
    (hm1 : m (Str.ofString "opened") = some (.ref ld)) (hm2 : m (Str.ofString "closed") = some (.ref lc))
    (H : ∀ h' g' tk' t, AllBare g' → Fr h₀ L h' (fun y => if y = Str.ofString "plain" then some (.str (plainOf cl od) t) else m y) → News h₀ L h' ((lc, W.listOf cv.toArray nc) :: (ld, W.listOf dv.toArray nd) :: ent :: lawKeep L lp lq lr lx pv qv rrv xv np nq op oq rest) →
      wpAny (model PySem.Challenge.rw_ik0197_01.row.prog w) (callerA.deeper (lawEnv L fa cd)) (execs (lawTurn.drop 8) (lawEnv L fa cd)) Q (fun _ _ => False) ⟨h', g', dr, tk', os⟩) :
    wpAny (model PySem.Challenge.rw_ik0197_01.row.prog w) (callerA.deeper (lawEnv L fa cd)) (execs (lawTurn.drop 7) (lawEnv L fa cd)) Q (fun _ _ => False) ⟨h, g, dr, tk, os⟩ := by
  obtain ⟨r, hr⟩ : ∃ r, r = lawTurn.drop 8 := ⟨_, rfl⟩
  obtain ⟨b, hb⟩ : ∃ b, b = lawTurn.drop 7 := ⟨_, rfl⟩
  obtain ⟨sc, hsc⟩ : ∃ sc, sc = lawScope := ⟨_, rfl⟩
  unfold lawEnv at H ⊢
  rw [← hr, ← hsc] at H
  rw [← hb, ← hsc]
  conv at hb => rhs; whnf
  conv at hr => rhs; whnf
  conv at hsc => rhs; whnf
  subst hb hr hsc
  have hkn : knowL [(Str.ofString "opened", .ref ld), (Str.ofString "closed", .ref lc)] m = m := knowL_eq (by simpa using ⟨hm1, hm2⟩)
  have F : Fr h₀ L h (knowL [(Str.ofString "opened", .ref ld), (Str.ofString "closed", .ref lc)] m) := hkn.symm ▸ F
  dsimp only [knowL, List.foldr] at F
  dsimp only [lawKeep] at N
  have e2 : cv.length = cl.length := by have := IntsAre.length hc; simpa [nz] using this
  have e3 : dv.length = od.length := by have := IntsAre.length hd; simpa [nz] using this
  walk1
  repeat' (walk_at "w8")
  (with_reducible rename Heap.IsList _ _ _ => hRl)
  (with_reducible rename Fr _ _ _ _ => F₁)
  (with_reducible rename News _ _ _ _ => N₁)
  refine wpAny_call (codeAny_of_ar (d := 420) (u := 50) rfl (Nat.le_of_ble_eq_true rfl) (Nat.le_of_ble_eq_true rfl) (names_spec (X.keeps F₁.keep) (T.keeps F₁.keep) (by decide) hg (led_list N₁ (.tail _ (.tail _ (.head _)))) hd (by omega) (fun x hx => by have := hdm x hx; omega) fun h₂ g₂ tk₂ D1 d1 hk₂ hg₂ hD₂ hn₂ hI₃ => ?_))
  have F₂ := Fr.kp F₁ hk₂
  have N₂ := newsIn F₁ hn₂ hD₂ (News.kp N₁ hk₂)
  replace hRl := hRl.at fun o e => hk₂ _ _ e
  rw [Int.toNat_natCast, e2] at hRl
  change h₂.IsList _ (List.replicate cl.length [Value.str (Str.ofString "..") (tk + 1)]).flatten.toArray at hRl
  clear F₁ N₁
  dsimp only
  have hdl' := StrsAre.length hI₃
  refine add_lists F₂ N₂ hRl (led_list N₂ (.head _)) (fun h₃ F₃ N₃ => ?_) (by rw [rep_len, PySem.sizeLine_eq]; simp at hdl'; omega)
  clear F₂ N₂
  repeat' (walk_at "w8")
  have hS := (strs_rep (Str.ofString "..") (tk + 1) cl.length).append' hI₃
  have hbd : ∀ y ∈ List.replicate cl.length (Str.ofString "..") ++ od.map nm, y.length ≤ 1000 := fun y hy => by
    rcases List.mem_append.mp hy with hy | hy
    · rw [(List.mem_replicate.mp hy).2]; exact Nat.le_of_ble_eq_true rfl
    · obtain ⟨x, hx, rfl⟩ := List.mem_map.mp hy
      have := hdm x hx
      rw [nm_length]; omega
  refine join_led N₃ (.head _) hS hbd (by simp; omega) (Nat.le_of_ble_eq_true rfl) (fun t' k' hjl => ?_)
  have hpo : plainOf cl od = if (Txt.join (Str.ofString "/") (List.replicate cl.length (Str.ofString "..") ++ od.map nm)).length = 0 then Str.ofString "." else Txt.join (Str.ofString "/") (List.replicate cl.length (Str.ofString "..") ++ od.map nm) := rfl
  generalize Txt.join (Str.ofString "/") (List.replicate cl.length (Str.ofString "..") ++ od.map nm) = z at hpo hjl ⊢
  generalize plainOf cl od = po at H hpo
  clear hbd hS hdl'
  repeat' (walk_at "w8")
  · rw [if_neg (by omega)] at hpo
    subst hpo
    (with_reducible rename Fr _ _ _ _ => F₁)
    (with_reducible rename News _ _ _ _ => N₁)
    have F₂ : Fr h₀ L _ (fun y => if y = Str.ofString "plain" then some (.str _ _) else knowL [(Str.ofString "opened", .ref ld), (Str.ofString "closed", .ref lc)] m y) := F₁
    rw [hkn] at F₂
    exact H _ _ _ _ hg₂ F₂ (fun p hp => N₁ p (.tail _ (.tail _ (.tail _ (id hp)))))
  · rw [if_pos (by omega)] at hpo
    subst hpo
    (with_reducible rename Fr _ _ _ _ => F₁)
    (with_reducible rename News _ _ _ _ => N₁)
    have F₂ : Fr h₀ L _ (fun y => if y = Str.ofString "plain" then some (.str _ _) else knowL [(Str.ofString "opened", .ref ld), (Str.ofString "closed", .ref lc)] m y) := F₁
    rw [hkn] at F₂
    exact H _ _ _ _ hg₂ F₂ (fun p hp => N₁ p (.tail _ (.tail _ (.tail _ (id hp)))))
end
end
section
local macro_rules | `(tactic| walk_at "subscriptTail Name Slice ref ref") => `(tactic| (k_dflt (refine' slice_ab ?F ?N ?m ?a ?b ?z ?_ ?s ?t; (case F => k_asm); (case N => k_asm); (case m => k_mem); (case a => omega); (case b => omega); (case z => omega); (case s => with_unfolding_all rfl); (case t => kmk_pure)); intro D' h' F' N' l1; (try k_lt l1)))
section /- LawW6 -/
open PyProof.Rows.LCg (NsObj NsObj.ns ns_obj lst lst_snoc)
theorem law_w6 {w : World} {mg mb : Str → Option Value} {mean : ExcName → Option Value} {h₀ h : Heap} {L fa lp lq lr lx lc : Addr} {cd : Value} {pv qv rrv xv cv : List Value} {np nq nc : Nat} {op oq : Obj} {rest : List (Addr × Obj)} {ent : Addr × Obj} {qs : List Str} {pl : Str}
    {m : Str → Option Value} {g : Array GenState} {dr : Drawn} {tk i j : Nat} {t1 t2 t3 : Tok} {os : OsState} {Q : Flow → Shared → Prop}
    (X : (hd.heap_1 w.params).In h₀) (T : Top view39 (looseW view39 []) mean mg mb h₀) (hqs : StrsAre qv qs) (hql : qs.length ≤ 11) (hle : ∀ y ∈ qs, y.length ≤ 13) (hij : i ≤ j) (hj : j ≤ qs.length)
    (hcq : oq.data = .cell (some (.ref lq))) (hpl : normed (Txt.join (Str.ofString "/") ((qs.drop i).take (j - i))) = pl)
    (F : Fr h₀ L h m) (N : News h₀ L h ((lc, W.listOf cv.toArray nc) :: ent :: lawKeep L lp lq lr lx pv qv rrv xv np nq op oq rest)) (hg : AllBare g)
    (hm1 : m (Str.ofString "first") = some (.int i t1)) (hm2 : m (Str.ofString "last") = some (.int j t2)) (hm3 : m (Str.ofString "plain") = some (.str pl t3))
    (H : ∀ h' g' tk', AllBare g' → Fr h₀ L h' m → News h₀ L h' ((lc, W.listOf cv.toArray nc) :: ent :: lawKeep L lp lq lr lx pv qv rrv xv np nq op oq rest) →
      wpAny (model PySem.Challenge.rw_ik0197_01.row.prog w) (callerA.deeper (lawEnv L fa cd)) (execs (lawTurn.drop 9) (lawEnv L fa cd)) Q (fun _ _ => False) ⟨h', g', dr, tk', os⟩) :
    wpAny (model PySem.Challenge.rw_ik0197_01.row.prog w) (callerA.deeper (lawEnv L fa cd)) (execs (lawTurn.drop 8) (lawEnv L fa cd)) Q (fun _ _ => False) ⟨h, g, dr, tk, os⟩ := by
  obtain ⟨r, hr⟩ : ∃ r, r = lawTurn.drop 9 := ⟨_, rfl⟩
  obtain ⟨b, hb⟩ : ∃ b, b = lawTurn.drop 8 := ⟨_, rfl⟩
  obtain ⟨sc, hsc⟩ : ∃ sc, sc = lawScope := ⟨_, rfl⟩
  unfold lawEnv at H ⊢
  rw [← hr, ← hsc] at H
  rw [← hb, ← hsc]
  conv at hb => rhs; whnf
  conv at hr => rhs; whnf
  conv at hsc => rhs; whnf
  subst hb hr hsc
  have hkn : knowL [(Str.ofString "first", .int i t1), (Str.ofString "last", .int j t2), (Str.ofString "plain", .str pl t3)] m = m := knowL_eq (by simpa using ⟨hm1, hm2, hm3⟩)
  have F : Fr h₀ L h (knowL [(Str.ofString "first", .int i t1), (Str.ofString "last", .int j t2), (Str.ofString "plain", .str pl t3)] m) := hkn.symm ▸ F
  dsimp only [knowL, List.foldr] at F
  dsimp only [lawKeep] at N
  have e2 := StrsAre.length hqs
  walk1
  repeat' (walk_at "wL")
  (with_reducible rename News _ _ _ _ => N₁)
  have hb1 : ∀ y ∈ (qs.drop i).take (j - i), y.length ≤ 13 := fun y hy => hle y (List.drop_subset _ _ (List.take_subset _ _ hy))
  have hl1 : ((qs.drop i).take (j - i)).length ≤ 11 := Nat.le_trans (mid_len ..) hql
  have hjn := join_lenC (x := Str.ofString "/") hb1
  have es : (Str.ofString "/").length = 1 := by decide
  rw [es] at hjn
  refine join_led N₁ (.head _) (StrsAre.take' (j - i) (StrsAre.drop' i hqs)) (fun y hy => by have := hb1 y hy; omega) (by omega) (by rw [es]; omega) (fun t' k' _ => ?_)
  generalize Txt.join (Str.ofString "/") ((qs.drop i).take (j - i)) = z at hjn hpl
  have hz : z.length ≤ 154 := by omega
  clear hb1 hl1 hjn
  repeat' (walk_at "wL")
  (with_reducible rename Fr _ _ _ _ => F₁)
  (with_reducible rename News _ _ _ _ => N₁)
  refine wpAny_call (codeAny_of_ar (d := 420) (u := 50) rfl (Nat.le_of_ble_eq_true rfl) (Nat.le_of_ble_eq_true rfl) (normpath_spec (X.keeps F₁.keep) (T.keeps F₁.keep) (by decide) (by omega) hg fun h₂ g₂ tk₂ t₂ hk₂ hg₂ => ?_))
  have F₂ := Fr.kp F₁ hk₂
  have N₂ := News.kp N₁ hk₂
  clear F₁ N₁
  rw [hpl]
  dsimp only
  repeat' (walk_at "wL")
  all_goals try ((with_reducible rename (_ != _) = true => hz); exact absurd hz (by simp))
  · (with_reducible rename Fr _ _ _ _ => F₁)
    (with_reducible rename News _ _ _ _ => N₁)
    exact H _ _ _ hg₂ (hkn ▸ (F₁ : Fr h₀ L h₂ (knowL [(Str.ofString "first", .int i t1), (Str.ofString "last", .int j t2), (Str.ofString "plain", .str pl t3)] m))) fun p hp => N₁ p (.tail _ hp)
end
section /- LawW8 -/
open PyProof.Rows.LCg (NsObj NsObj.ns ns_obj lst lst_snoc)
theorem law_w8 {w : World} {mg mb : Str → Option Value} {mean : ExcName → Option Value} {h₀ h : Heap} {L fa lp lq lr lx : Addr} {cd : Value} {pv qv rrv xv : List Value} {np nq : Nat} {op oq : Obj} {rest : List (Addr × Obj)} {ent : Addr × Obj} {ps : List Str} {pl : Str}
    {m : Str → Option Value} {g : Array GenState} {dr : Drawn} {tk i j : Nat} {t1 t2 t3 : Tok} {os : OsState} {Q : Flow → Shared → Prop}
    (X : (hd.heap_1 w.params).In h₀) (T : Top view39 (looseW view39 []) mean mg mb h₀) (hps : StrsAre pv ps) (hpl : ps.length ≤ 11) (hle : ∀ y ∈ ps, y.length ≤ 10) (hij : i ≤ j) (hj : j ≤ ps.length)
    (hcp : op.data = .cell (some (.ref lp))) (hch : checked (Txt.join (Str.ofString "") ((ps.drop i).take (j - i))) = (pl == Str.ofString "."))
    (F : Fr h₀ L h m) (N : News h₀ L h (ent :: lawKeep L lp lq lr lx pv qv rrv xv np nq op oq rest)) (hg : AllBare g)
    (hm1 : m (Str.ofString "first") = some (.int i t1)) (hm2 : m (Str.ofString "last") = some (.int j t2)) (hm3 : m (Str.ofString "plain") = some (.str pl t3))
    (H : ∀ h' g' tk', AllBare g' → Fr h₀ L h' m → News h₀ L h' (ent :: lawKeep L lp lq lr lx pv qv rrv xv np nq op oq rest) → Q .next ⟨h', g', dr, tk', os⟩) :
    wpAny (model PySem.Challenge.rw_ik0197_01.row.prog w) (callerA.deeper (lawEnv L fa cd)) (execs (lawTurn.drop 11) (lawEnv L fa cd)) Q (fun _ _ => False) ⟨h, g, dr, tk, os⟩ := by
  obtain ⟨b, hb⟩ : ∃ b, b = lawTurn.drop 11 := ⟨_, rfl⟩
  obtain ⟨sc, hsc⟩ : ∃ sc, sc = lawScope := ⟨_, rfl⟩
  unfold lawEnv
  rw [← hb, ← hsc]
  conv at hb => rhs; whnf
  conv at hsc => rhs; whnf
  subst hb hsc
  have hkn : knowL [(Str.ofString "first", .int i t1), (Str.ofString "last", .int j t2), (Str.ofString "plain", .str pl t3)] m = m := knowL_eq (by simpa using ⟨hm1, hm2, hm3⟩)
  have F : Fr h₀ L h (knowL [(Str.ofString "first", .int i t1), (Str.ofString "last", .int j t2), (Str.ofString "plain", .str pl t3)] m) := hkn.symm ▸ F
  dsimp only [knowL, List.foldr] at F
  dsimp only [lawKeep] at N
  have e2 := StrsAre.length hps
  walk1
  repeat' (walk_at "wL")
  (with_reducible rename News _ _ _ _ => N₁)
  have hb1 : ∀ y ∈ (ps.drop i).take (j - i), y.length ≤ 10 := fun y hy => hle y (List.drop_subset _ _ (List.take_subset _ _ hy))
  have hl1 : ((ps.drop i).take (j - i)).length ≤ 11 := Nat.le_trans (mid_len ..) hpl
  have hjn := join_lenC (x := Str.ofString "") hb1
  have es : (Str.ofString "").length = 0 := by decide
  rw [es] at hjn
  refine join_led N₁ (.head _) (StrsAre.take' (j - i) (StrsAre.drop' i hps)) (fun y hy => by have := hb1 y hy; omega) (by omega) (by rw [es]; omega) (fun t' k' _ => ?_)
  generalize Txt.join (Str.ofString "") ((ps.drop i).take (j - i)) = z at hjn hch
  have hz : z.length ≤ 154 := by omega
  clear hb1 hl1 hjn
  repeat' (walk_at "wL")
  (with_reducible rename Fr _ _ _ _ => F₁)
  (with_reducible rename News _ _ _ _ => N₁)
  refine wpAny_call (codeAny_of_ar (d := 420) (u := 50) rfl (Nat.le_of_ble_eq_true rfl) (Nat.le_of_ble_eq_true rfl) (check_spec (X.keeps F₁.keep) (T.keeps F₁.keep) (by decide) (by omega) hg fun h₂ g₂ tk₂ hk₂ hg₂ => ?_))
  have F₂ := Fr.kp F₁ hk₂
  have N₂ := News.kp N₁ hk₂
  clear F₁ N₁
  rw [hch]
  dsimp only
  repeat' (walk_at "wL")
  all_goals try ((with_reducible rename (_ != _) = true => hz); exact absurd hz (by simp))
  · (with_reducible rename Fr _ _ _ _ => F₁)
    (with_reducible rename News _ _ _ _ => N₁)
    exact H _ _ _ hg₂ (hkn ▸ (F₁ : Fr h₀ L h₂ (knowL [(Str.ofString "first", .int i t1), (Str.ofString "last", .int j t2), (Str.ofString "plain", .str pl t3)] m))) fun p hp => N₁ p (.tail _ hp)
end
end
section /- LawT -/
open PyProof.Rows.LCg (NsObj NsObj.ns ns_obj lst lst_snoc)
theorem law_turn {w : World} {mg mb : Str → Option Value} {mean : ExcName → Option Value} {h₀ h : Heap} {L fa lp lq lr lx : Addr} {cd : Value} {pv qv xv : List Value} {np nq : Nat} {op oq : Obj} {ls : List (Addr × List Value × Nat)} {ent : Addr × Obj} {ps qs : List Str}
    {m : Str → Option Value} {g : Array GenState} {dr : Drawn} {tk : Nat} {os : OsState} {k a : Nat} {tkk ta : Tok} {Q : Flow → Shared → Prop}
    (X : (hd.heap_1 w.params).In h₀) (T : Top view39 (looseW view39 []) mean mg mb h₀) (HF : LawFacts ps qs) (hps : StrsAre pv ps) (hqs : StrsAre qv qs)
    (hcp : op.data = .cell (some (.ref lp))) (hcq : oq.data = .cell (some (.ref lq))) (hlsl : ls.length = ps.length + 1) (hls : ∀ (j : Nat) (q : Addr × List Value × Nat), ls[j]? = some q → IntsAre q.2.1 ((around ps qs j).map fun (n : Nat) => (n : Int)))
    (hxs : StrsAre xv ((List.range (ps.length + 1)).map fun k => pathOf (around ps qs k)))
    (F : Fr h₀ L h m) (N : News h₀ L h (ent :: lawKeep L lp lq lr lx pv qv (ls.map fun q => .ref q.1) xv np nq op oq (ls.reverse.map fun q => (q.1, W.listOf q.2.1.toArray q.2.2)))) (hg : AllBare g)
    (hk : k ≤ ps.length) (ha : a ≤ ps.length) (hm1 : m (Str.ofString "k") = some (.int k tkk)) (hm2 : m (Str.ofString "at") = some (.int a ta)) (hm3 : m (Str.ofString "rows") = some (.ref lr)) (hm4 : m (Str.ofString "paths") = some (.ref lx))
    (H : ∀ h' g' tk' m', AllBare g' → Fr h₀ L h' m' → News h₀ L h' (ent :: lawKeep L lp lq lr lx pv qv (ls.map fun q => .ref q.1) xv np nq op oq (ls.reverse.map fun q => (q.1, W.listOf q.2.1.toArray q.2.2))) →
      m' (Str.ofString "at") = some (.int a ta) → m' (Str.ofString "rows") = some (.ref lr) → m' (Str.ofString "paths") = some (.ref lx) → Q .next ⟨h', g', dr, tk', os⟩) :
    wpAny (model PySem.Challenge.rw_ik0197_01.row.prog w) (callerA.deeper (lawEnv L fa cd)) (execs lawTurn (lawEnv L fa cd)) Q (fun _ _ => False) ⟨h, g, dr, tk, os⟩ := by
  have e1 := HF.len
  have e2 := HF.lenq
  refine law_w0 X T HF hps hqs hcp hcq hxs F N hg hk hm1 hm4 fun h g tk hg F N => ?_
  have hi : min k a ≤ ps.length := Nat.le_trans (Nat.min_le_left ..) hk
  have hj : max k a ≤ ps.length := Nat.max_le.mpr ⟨hk, ha⟩
  have hij : min k a ≤ max k a := Nat.le_trans (Nat.min_le_left ..) (Nat.le_max_left ..)
  obtain ⟨cl, od, C, P, Q', S⟩ := HF.span (min k a) (max k a) hij hj
  refine law_w1 X T HF hps hqs hcp hlsl hls F N hg hk ha hm1 hm2 hm3 fun h g tk t1 t2 lo lw ov wv hg F N ho hw => ?_
  generalize min k a = i at *
  generalize max k a = j at *
  have hr1 := HF.rowlen i hi
  have hr2 := HF.rowlen j hj
  have hs1 := signs_len (around ps qs i) (times := 1) HF.leps (by decide)
  have hs2 := signs_len (around ps qs j) (times := 2) HF.leps (by decide)
  have xi := StrsAre.get hxs i (pathOf (around ps qs i)) (by rw [List.getElem?_map, List.getElem?_range (by omega)]; rfl)
  have xj := StrsAre.get hxs j (pathOf (around ps qs j)) (by rw [List.getElem?_map, List.getElem?_range (by omega)]; rfl)
  obtain ⟨tx, xi⟩ := xi
  obtain ⟨ty, xj⟩ := xj
  obtain ⟨⟨rb, rv, nr⟩, hq⟩ : ∃ q, ls[j]? = some q := ⟨ls[j]'(by omega), List.getElem?_eq_getElem _⟩
  have hI := hls _ _ hq
  have hrr : (ls.map fun q : Addr × List Value × Nat => Value.ref q.1)[j]? = some (.ref rb) := by rw [List.getElem?_map, hq]; rfl
  refine law_w2 X T hps e1 hcp ho hw (by omega) (by omega) F N hg (by walk_at "lk9") (by walk_at "lk9") fun h g tk lc ld cv dv nc nd hg F N hc hd => ?_
  rw [S.first] at hc hd
  refine law_w3 X T hps e1 HF.leps hcp hc hd S.lcl S.lop S.mcl F N hg (by walk_at "lk9") (by walk_at "lk9") fun h g tk lg gv ng hg F N hgv => ?_
  have hgl : gv.length ≤ 1000 := by
    have h1 := IntsAre.length hgv
    have h2 := signs_len cl (times := 1) HF.leps (by decide)
    have h3 := S.lcl
    split at h1
    · omega
    · rw [nz, List.length_map] at h1; omega
  refine law_w4 X T hps e1 HF.leps hcp ho hd hgv hI S.lop S.mop (by omega) (HF.rowmem j hj) (by omega) hgl S.told hrr (row_mem hq) (by omega) F N hg (by walk_at "lk9") (by walk_at "lk9") (by walk_at "lk9") (by walk_at "lk9") (by walk_at "lk9") fun h g tk v hg F N => ?_
  refine law_w5 X T hc hd S.lcl S.lop (fun x hx => by have := S.mop x hx; omega) F N hg (by walk_at "lk9") (by walk_at "lk9") fun h g tk t3 hg F N => ?_
  have N : News h₀ L h ((lc, W.listOf cv.toArray nc) :: ent :: _) := fun p hp => N p (by
    rcases List.mem_cons.mp hp with rfl | hp
    · exact .head _
    · exact .tail _ (.tail _ hp))
  refine law_w6 X T hqs (by omega) HF.leqs hij (by omega) hcq S.plain F N hg (by walk_at "lk9") (by walk_at "lk9") (by walk_at "lk9") fun h g tk hg F N => ?_
  refine law_w7 X T (by omega) (by omega) xi xj (HF.plen i hi) (HF.plen j hj) (HF.pabs i hi) (HF.pabs j hj) S.cx S.cy S.cPQ S.cl3 hc S.lcl (fun x hx => by have := S.mcl x hx; omega) S.shl S.back F N hg (by walk_at "lk9") (by walk_at "lk9") (by walk_at "lk9") (by walk_at "lk9") fun h g tk v' hg F N => ?_
  refine law_w8 X T hps e1 HF.leps hij hj hcp S.taken F N hg (by walk_at "lk9") (by walk_at "lk9") (by walk_at "lk9") fun h g tk hg F N => ?_
  exact H h g tk _ hg F N (by walk_at "lk9") (by walk_at "lk9") (by walk_at "lk9")
end
section /- LawR -/
open PyProof.Rows.LCg (NsObj NsObj.ns ns_obj lst lst_snoc)
noncomputable def RK (L lp lq lr : Addr) (pv qv rv : List Value) (np nq : Nat) (op oq : Obj) (rest : List (Addr × Obj)) : List (Addr × Obj) := (lr, lst rv) :: (lp, W.listOf pv.toArray np) :: (lq, W.listOf qv.toArray nq) :: (L + 1 + 1, oq) :: (L + 1, op) :: rest
theorem law_rest {w : World} {mg mb : Str → Option Value} {mean : ExcName → Option Value} {h₀ h : Heap} {L fa lp lq lr : Addr} {cd : Value} {pv qv : List Value} {np nq : Nat} {op oq : Obj} {ls : List (Addr × List Value × Nat)} {ps qs : List Str}
    {m : Str → Option Value} {g : Array GenState} {dr : Drawn} {tk : Nat} {os : OsState} {a : Nat} {ta : Tok} {Q : Flow → Shared → Prop}
    (X : (hd.heap_1 w.params).In h₀) (T : Top view39 (looseW view39 []) mean mg mb h₀) (HF : LawFacts ps qs) (hps : StrsAre pv ps) (hqs : StrsAre qv qs)
    (hcp : op.data = .cell (some (.ref lp))) (hcq : oq.data = .cell (some (.ref lq))) (hlsl : ls.length = ps.length + 1) (hls : ∀ (j : Nat) (q : Addr × List Value × Nat), ls[j]? = some q → IntsAre q.2.1 ((around ps qs j).map fun (n : Nat) => (n : Int)))
    (F : Fr h₀ L h m) (N : News h₀ L h ((lr, lst (ls.map fun q => .ref q.1)) :: (lp, W.listOf pv.toArray np) :: (lq, W.listOf qv.toArray nq) :: (L + 1 + 1, oq) :: (L + 1, op) :: (ls.reverse.map fun q => (q.1, W.listOf q.2.1.toArray q.2.2)))) (hg : AllBare g)
    (ha : a ≤ ps.length) (hm2 : m (Str.ofString "at") = some (.int a ta)) (hm3 : m (Str.ofString "rows") = some (.ref lr))
    (H : ∀ h' g' tk', Kp h₀ h' → AllBare g' → Q (.ret (.bool true)) ⟨h', g', dr, tk', os⟩) :
    wpAny (model PySem.Challenge.rw_ik0197_01.row.prog w) (callerA.deeper (lawEnv L fa cd)) (execs lawTail (lawEnv L fa cd)) Q (fun _ _ => False) ⟨h, g, dr, tk, os⟩ := by
  obtain ⟨b, hb⟩ : ∃ b, b = lawTail := ⟨_, rfl⟩
  obtain ⟨sc, hsc⟩ : ∃ sc, sc = lawScope := ⟨_, rfl⟩
  have hsc' := hsc
  unfold lawEnv
  rw [← hb, ← hsc]
  conv at hb => rhs; whnf
  conv at hsc => rhs; whnf
  subst hb hsc
  have hkn : knowL [(Str.ofString "at", .int a ta), (Str.ofString "rows", .ref lr)] m = m := knowL_eq (by simpa using ⟨hm2, hm3⟩)
  have F : Fr h₀ L h (knowL [(Str.ofString "at", .int a ta), (Str.ofString "rows", .ref lr)] m) := hkn.symm ▸ F
  dsimp only [knowL, List.foldr] at F
  have e1 := StrsAre.length hps
  have e2 := HF.len
  generalize hrest : (ls.reverse.map fun q : Addr × List Value × Nat => (q.1, W.listOf q.2.1.toArray q.2.2)) = rest at N
  repeat' (walk_at "w10")
  refine comp_evalA (by with_unfolding_all rfl) (by with_unfolding_all rfl) rfl (by decide) ?_
  repeat' (walk_at "w10")
  have hll : (ls.map fun q : Addr × List Value × Nat => Value.ref q.1).length = ps.length + 1 := by rw [List.length_map]; exact hlsl
  refine comp_listA (keep := (lr, lst (ls.map fun q => .ref q.1)) :: (lp, W.listOf pv.toArray np) :: (lq, W.listOf qv.toArray nq) :: (L + 1 + 1, oq) :: (L + 1, op) :: rest) (news₀ := []) (fun i ys news => news = [] ∧ StrsAre ys ((List.range i).map fun k => pathOf (around ps qs k))) rfl (led_list N (.head _)) (by omega) (by decide) rfl rfl rfl rfl F (by rw [List.append_nil]; exact N) (.inr ⟨_, .head _⟩) hg ⟨rfl, .nil⟩
    (fun i v ys news I C D' oI oC m₂ h g tk hv hj hyl hg hC hm F N hoff hne => ?_) (fun D₂ ys news h g tk hj hg F N hoff => ?_)
  · obtain ⟨rfl, hys⟩ := hj
    rw [List.getElem?_map] at hv
    obtain ⟨⟨ra, rv, nr⟩, hq, rfl⟩ := Option.map_eq_some_iff.mp hv
    obtain ⟨hil, _⟩ := List.getElem?_eq_some_iff.mp hq
    have hI := hls _ _ hq
    have hmem := row_mem hq
    rw [hrest] at hmem
    refine wpAny_tests_nil ?_
    show wpAny _ _ _ _ _ _
    rw [List.append_nil] at N
    repeat' (walk_at "w10")
    dsimp only at hI
    have hil2 : i ≤ ps.length := by omega
    have hrl := HF.rowlen i hil2
    have hrm := HF.rowmem i hil2
    refine wpAny_call (codeAny_of_ar (d := 420) (u := 50) rfl (Nat.le_of_ble_eq_true rfl) (Nat.le_of_ble_eq_true rfl) (names_spec (X.keeps F.keep) (T.keeps F.keep) (by decide) hg (led_list N (.tail _ (.tail _ (.tail _ (.tail _ (.tail _ (.tail _ (.tail _ (.tail _ (hmem)))))))))) hI (by omega) (fun x hx => by have := hrm x hx; omega) fun h₃ g₃ tk₃ D1 d1 hk₃ hg₃ hD₃ hn₃ hI₃ => ?_))
    have F₂ := Fr.kp F hk₃
    have N₂ := newsIn F hn₃ hD₃ (News.kp N hk₃)
    have hdl := StrsAre.length hI₃
    rw [List.length_map] at hdl
    dsimp only
    refine star_seq (T := "list") (ws := d1) F₂ N₂ (.head _) rfl rfl (.inl rfl) rfl (by rw [List.size_toArray, PySem.sizeLine_eq]; omega) fun h₄ F₄ N₄ => ?_
    repeat' (walk_at "w10")
    rw [List.append_nil]
    have l0 : (Str.ofString "").length ≤ 1000 := by decide
    have l1 : (Str.ofString "x").length ≤ 1000 := by decide
    have l2 : (Str.ofString "/").length ≤ 1000 := by decide
    refine wpAny_call (codeAny_of_ar (d := 420) (u := 50) rfl (Nat.le_of_ble_eq_true rfl) (Nat.le_of_ble_eq_true rfl) ?_)
    have hle : ∀ y ∈ Str.ofString "x" :: Str.ofString "/" :: (around ps qs i).map nm, y.length ≤ 1000 := fun y hy => by
      rcases List.mem_cons.mp hy with rfl | hy
      · exact l1
      rcases List.mem_cons.mp hy with rfl | hy
      · exact l2
      obtain ⟨x, hx, rfl⟩ := List.mem_map.mp hy
      have := hrm x hx
      rw [nm_length]; omega
    have hsa : StrsAre (Value.str (Str.ofString "x") (tk + 1) :: Value.str (Str.ofString "/") (tk + 1 + 1) :: d1) (Str.ofString "x" :: Str.ofString "/" :: (around ps qs i).map nm) := .cons _ _ (.cons _ _ hI₃)
    have hnl : (Str.ofString "x" :: Str.ofString "/" :: (around ps qs i).map nm).length ≤ 100 := by rw [List.length_cons, List.length_cons, List.length_map]; omega
    refine join_spec (d := 420) (u := 50) (X.keeps F₄.keep) (T.keeps F₄.keep) (by decide) l0 hg₃ hsa hnl hle ?_
    intro h₅ g₅ tk₅ t₅ hk₅ hg₅
    show CompGo _ _ _ _ _ _ _ _ _ _
    have N₅ : News h₀ L h₅ _ := fun p hp => News.kp N₄ hk₅ p (.tail _ hp)
    have F₅ : Fr h₀ L h₅ _ := Fr.kp F₄ hk₅
    refine CompGo.mk (news' := []) hg₅ F₅ N₅ (fun p hp => ?_) (fun p hp => nomatch hp) ⟨rfl, ?_⟩
    · rw [List.append_nil] at hp
      exact hp
    rw [List.range_succ, List.map_append]
    exact hys.append' (.cons _ _ .nil)
  · obtain ⟨rfl, hys⟩ := hj
    rw [hll] at hys
    rw [List.append_nil] at N
    dsimp only
    change Fr h₀ L h _ at F
    change News h₀ L h _ at N
    repeat' (walk_at "w10")
    refine wpAny_For ?_
    repeat' (walk_at "w10")
    (with_reducible rename IsRange _ _ _ _ _ _ _ _ => hrg)
    rename StrsAre ys _ => hys
    have hpl : pv.length ≤ 11 := by omega
    rename_i F₁ N₁ _
    try dsimp only at F₁ N₁
    refine for_range (n := ps.length + 1) (keep := lawKeep L lp lq lr D₂ pv qv (ls.map fun q => .ref q.1) ys np nq op oq rest) (news₀ := []) (fun _ m news => news = [] ∧ m (Str.ofString "at") = some (.int a ta) ∧ m (Str.ofString "rows") = some (.ref lr) ∧ m (Str.ofString "paths") = some (.ref D₂)) rfl hrg ?_ ?_ F₁ (by rw [List.append_nil]; exact N₁) hg rfl rfl ?_ ?_ ?_ ?_
    · exact (range_up ps.length (by omega)).1
    · exact (range_up ps.length (by omega)).2
    · intro i m news hj p hp
      obtain ⟨rfl, _⟩ := hj
      cases hp
    · exact ⟨rfl, rfl, rfl, rfl⟩
    · intro i ti m₁ news₁ h g tk I oI' hi hj hg F N hoff
      obtain ⟨rfl, hj1, hj2, hj3⟩ := hj
      rw [List.append_nil] at N
      rw [show (0 : Int) + (i : Int) * 1 = (i : Int) by omega] at F
      rw [← hrest] at N
      change Fr h₀ L h _ at F
      refine law_turn (fa := fa) (cd := cd) (k := i) (a := a) (m := fun y => if y = Str.ofString "k" then some (.int (i : Int) ti) else m₁ y) X T HF hps hqs hcp hcq hlsl hls hys F N hg (by omega) ha rfl hj1 hj2 hj3 fun h' g' tk' m' hg' F' N' k1 k2 k3 => ?_
      rw [hrest] at N'
      refine GoOn.mk (news' := []) hg' F' N' (fun p hp => ?_) ⟨rfl, k1, k2, k3⟩
      rw [List.append_nil] at hp
      exact hp
    · intro m₁ news₁ h g tk hj hg F N
      obtain ⟨rfl, _⟩ := hj
      change Fr h₀ L h _ at F
      change News h₀ L h _ at N
      rw [List.append_nil] at N
      dsimp only [lawKeep] at N ⊢
      repeat' (walk_at "w10")
      exact H _ _ _ F.keep hg
end
section
local macro_rules | `(tactic| walk_at "call builtin:len") => `(tactic| (k_dflt (refine' len_led ?N ?m ?z ?_; (case N => k_asm); (case m => k_mem); (case z => omega)); intro _ _))
section /- LawA -/
open PyProof.Rows.LCg (NsObj NsObj.ns ns_obj lst lst_snoc)
/-- rows of places, one for each place so far -/
noncomputable def RJ (f : Nat → List Nat) (i : Nat) (ys : List Value) (news : List (Addr × Obj)) : Prop :=
  ∃ ls : List (Addr × List Value × Nat), ys = ls.map (fun q => .ref q.1) ∧ news = ls.reverse.map (fun q => (q.1, W.listOf q.2.1.toArray q.2.2)) ∧ ls.length = i ∧ ∀ (j : Nat) (q : Addr × List Value × Nat), ls[j]? = some q → IntsAre q.2.1 ((f j).map fun (n : Nat) => (n : Int))
theorem rj_next {f : Nat → List Nat} {i : Nat} {ls : List (Addr × List Value × Nat)} {a : Addr} {v : List Value} {n : Nat} (hls : ∀ (j : Nat) (q : Addr × List Value × Nat), ls[j]? = some q → IntsAre q.2.1 ((f j).map fun (n : Nat) => (n : Int)))
    (hli : ls.length = i) (hv : IntsAre v ((f i).map fun (n : Nat) => (n : Int))) : ∀ (j : Nat) (q : Addr × List Value × Nat), (ls ++ [(a, v, n)])[j]? = some q → IntsAre q.2.1 ((f j).map fun (n : Nat) => (n : Int)) := fun j q hq => by
  rcases Nat.lt_or_ge j ls.length with hj | hj
  · rw [List.getElem?_append_left hj] at hq
    exact hls j q hq
  · rw [List.getElem?_append_right hj] at hq
    have hj0 : j - ls.length = 0 := by
      rcases Nat.eq_zero_or_pos (j - ls.length) with h | h
      · exact h
      · rw [List.getElem?_eq_none (by simp; omega)] at hq; cases hq
    rw [hj0] at hq
    cases hq
    rw [show j = i by omega]; exact hv
theorem cut_len (ns : List Int) : ([0, 2, 1] ++ List.take (min 9 ns.length - 1) (List.drop 1 ns)).length ≤ 11 := by
  rw [List.length_append]
  exact Nat.add_le_add_left (Nat.le_trans (List.length_take_le ..) (Nat.sub_le_sub_right (Nat.min_le_left 9 _) 1)) 3
theorem law_walk (HP : ∀ xs : List Int, xs.length ≤ 11 → LawFacts (xs.foldl lawStep ([], [], 0)).1 (xs.foldl lawStep ([], [], 0)).2.1) : PySem.Challenge.rw_ik0197_01.Holds := by
  refine hd ?_
  k_fill
  intro w s₀ s₁ mg mb G Y fa o pm cd doc dV kV ho hd hcd hD hmg hg args vals as hpre hlay hrd hwl hlo
  have KX := kIn_of Y
  have X := (Ground.X G).1
  have V := (Ground.X G).2
  have GL := glob_more (Ground.glob G (by decide +kernel) (by decide +kernel)) V
  refine Ground.open G ?_
  intro T B D TE TW
  try (refine guard_noD D (by decide +kernel) ?_; clear D)
  obtain ⟨_, _, M⟩ := bmod_of_top T
  have TA := at_of_top T
  try (obtain ⟨_, _, he, B0⟩ := based_of_top T rfl hmg ho hd; have he' : cd = _ := he; subst he'; clear he)
  clear hmg
  wrow_args hpre hlay hrd hwl hlo
  first | refine callC_kw (enter_call ?_) | refine enter_call ?_ | refine callC_kw (enter_callW ?_) | refine enter_callW ?_ | w_how
  w_top on
  have K0 := below_caller (Top.heap T)
  w_call any ho hd hcd hD T F
  clear hd TA
  k_drop
  rename_i ns hs hlay0 hLy hr hl2 wx we l vs wf hl ra w1 r0 hi hr' hcond hc2 h₁ tk₁ oq op dq dp N YC
  have hn : ns.length ≤ 63 := by omega
  obtain ⟨R, hRe⟩ : ∃ R : Result → Shared → Prop, R = GoodWG PySem.Challenge.rw_ik0197_01.row.claim (classAt s₀.heap) (ExcName.means s₀.heap) [ofPy (PyData.list (List.map PyData.int ns))] s₁ := ⟨_, rfl⟩
  have hR : ∀ h' g' tk, Kp s₁.heap h' → AllBare g' → R (.ok (.ret (.bool true))) ⟨h', g', s₁.drawn, tk, s₁.os⟩ := fun h' g' tk hk hb => by
    rw [hRe]
    exact ⟨.inl ⟨_, _, [], rfl, fun _ => rfl, ReadsW.bool true, by wrow_post, fun _ => ⟨List.nodup_nil, fun _ hm => (nomatch hm)⟩⟩, .of_keep hk, rfl, hb⟩
  refine wpAny_mono (Q := fun f s' => R (.ok (.ret (match f with | .ret v => v | _ => .none))) s') (E := fun _ _ => False) ?_ (fun f s' h => by rw [hRe] at h; exact h) (fun _ _ h => h.elim)
  clear hRe
  obtain ⟨m0, F2, hm⟩ : ∃ m, Fr s₁.heap s₁.heap.objs.size h₁ m ∧ m (Str.ofString "script") = some (.ref l) := ⟨_, F, by rfl⟩
  replace dp : op.data = .cell none := dp.trans rfl
  replace dq : oq.data = .cell none := dq.trans rfl
  clear F YC
  have F := Fr.know F2 hm
  clear F2
  have hgb : AllBare s₁.gens := by rw [hg]; exact AllBare.empty
  clear hm G Y ho pm doc hg X V GL B TE TW M hcd hs hlay0 hLy hr hl2 ra w1 r0 hr' hcond hc2 K0 hD
  dsimp only
  generalize hLs : s₁.heap.objs.size = L at *
  repeat' (walk_at "wA")
  (with_reducible rename Fr _ _ _ _ => F₁)
  (with_reducible rename News _ _ _ _ => N₁)
  refine wpAny_call (codeAny_of_ar (d := 420) (u := 50) rfl (Nat.le_of_ble_eq_true rfl) (Nat.le_of_ble_eq_true rfl) (pieces_spec (KX.keeps F₁.keep) (T.keeps F₁.keep) (by decide) hgb ⟨_, (N₁ _ (.head _)).1, rfl, _, rfl⟩ (by assumption) ?_ fun h₂ g₂ tk₂ D lp lq pv qv np nq hk₂ hg₂ hD hlp hlq hDn hpn hqn q1 q2 q3 hps hqs => ?_))
  · exact Nat.le_trans (cut_len ns) (by decide)
  have HF := fun xs (h1 : StrsAre pv (List.foldl lawStep ([], [], 0) xs).1) (h2 : StrsAre qv (List.foldl lawStep ([], [], 0) xs).2.1) hx => (⟨_, _, HP xs hx, h1, h2⟩ : ∃ ps qs, LawFacts ps qs ∧ StrsAre pv ps ∧ StrsAre qv qs)
  replace HF := HF _ hps hqs (cut_len ns)
  clear hps hqs HP
  obtain ⟨ps, qs, HF, hps, hqs⟩ := HF
  have F := Fr.kp F₁ hk₂
  have N : News s₁.heap L h₂ ((lp, W.listOf pv.toArray np) :: (lq, W.listOf qv.toArray nq) :: (L + 1 + 1, oq) :: (L + 1, op) :: []) :=
    newsIn F₁ hpn hlp (newsIn F₁ hqn hlq fun p hp => News.kp N₁ hk₂ p (.tail _ (.tail _ (.tail _ hp))))
  clear F₁ N₁
  dsimp only
  refine wpAny_assign_Tuple (items := #[.ref lp, .ref lq]) rfl ⟨_, hD, rfl, _, rfl⟩ rfl rfl fun h₃ hx₃ => ?_
  have F₃ : Fr s₁.heap L h₃ _ := Fr.kp F fun b o e => hx₃ b o (Nat.ne_of_lt (Heap.lt_size e)) e
  have N₃ : News s₁.heap L h₃ _ := News.kp N fun b o e => hx₃ b o (Nat.ne_of_lt (Heap.lt_size e)) e
  clear F N hx₃
  dsimp only
  show wpAny _ _ (do holding [Value.ref lq] (assign (.Name (Str.ofString "pieces") _) _ (.ref lp)); do holding [] (assign (.Name (Str.ofString "steps") _) _ (.ref lq)); pure ()) _ _ _
  refine wpAny_bind (wpAny_holding ?_)
  repeat' (walk_at "wA")
  (with_reducible rename Fr _ _ _ _ => F₁)
  (with_reducible rename News _ _ _ _ => N₁)
  simp only [List.cons_append, List.nil_append] at N₁
  refine wpAny_bind (wpAny_holding ?_)
  repeat' (walk_at "wA")
  refine wpAny_pure ?_
  have hpn : pv.length = ps.length := by have := StrsAre.length hps; omega
  have hpl : pv.length ≤ 11 := by have := HF.len; omega
  (with_reducible rename Fr _ _ _ _ => F₁)
  (with_reducible rename News _ _ _ _ => N₁)
  simp only [List.cons_append, List.nil_append] at N₁
  dsimp only
  repeat' (walk_at "wA")
  (with_reducible rename Fr _ _ _ _ => F₁)
  (with_reducible rename News _ _ _ _ => N₁)
  have N₂ : News s₁.heap L _ ((lp, W.listOf pv.toArray np) :: (lq, W.listOf qv.toArray nq) :: (L + 1 + 1, _) :: (L + 1, _) :: []) := fun p hp => N₁ p (.tail _ (.tail _ hp))
  clear N₁
  refine comp_evalA (by with_unfolding_all rfl) (by with_unfolding_all rfl) rfl (by decide) ?_
  repeat' (walk_at "wA")
  rename_i hrg F₃ N₃ hk₃
  have F₃ := F₃
  dsimp only at F₃ N₃
  refine comp_rangeA (n := pv.length + 1) (keep := [(lp, _), (lq, _), (L + 1 + 1, _), (L + 1, _)]) (news₀ := []) (RJ (around ps qs)) rfl hrg (range_up _ (by omega)).1 (range_up _ (by omega)).2 (by omega) (by decide) rfl rfl rfl rfl F₃ N₃ hg₂ ⟨[], rfl, rfl, rfl, fun j q hq => by simp at hq⟩
    (fun i v ys news I C D' oI oC m₂ h g tk hi hv hj hyl hg hC hm F N hoff hne => ?_) (fun D₂ ys news h g tk hj hg F N hoff => ?_)
  · obtain ⟨ti, rfl⟩ := hv
    obtain ⟨ls, rfl, rfl, hli, hls⟩ := hj
    refine wpAny_tests_nil ?_
    show wpAny _ _ _ _ _ _
    clear F₃ N₃
    repeat' (walk_at "wA")
    have e0 : (0 : Int) + (i : Int) * 1 = (i : Int) := by omega
    have e1 := HF.len
    have e2 := HF.lenq
    rw [e0]
    refine wpAny_call (codeAny_of_ar (d := 420) (u := 50) rfl (Nat.le_of_ble_eq_true rfl) (Nat.le_of_ble_eq_true rfl) (around_spec (KX.keeps F.keep) (T.keeps F.keep) (by decide) hg (led_list N (by k_mem)) (led_list N (by k_mem)) hps hqs (by omega) e2 (by omega) HF.leps (fun y hy => by have := HF.leqs y hy; omega) fun h₄ g₄ tk₄ D₄ ws₄ hk₄ hg₄ hD₄ hn₄ hI₄ => ?_))
    show CompGo _ _ _ _ _ _ _ _ _ _
    dsimp only at hn₄ hk₄
    change Fr s₁.heap L h _ at F
    change News s₁.heap L h _ at N
    refine CompGo.mk (news' := (D₄, W.listOf ws₄.toArray 0) :: ls.reverse.map (fun q => (q.1, W.listOf q.2.1.toArray q.2.2))) hg₄ (Fr.kp F hk₄) (newsIn F hn₄ hD₄ (News.kp N hk₄)) (fun p hp => ?_) (fun p hp => ?_) ⟨ls ++ [(D₄, ws₄, 0)], by simp, by simp, by simp [hli], rj_next hls hli hI₄⟩
    · generalize ls.reverse.map (fun q : Addr × List Value × Nat => (q.1, W.listOf q.2.1.toArray q.2.2)) = rest at hp ⊢
      exact mem_pick [1, 2, 3, 4, 5, 6, 7, 0] 8 rfl p hp
    · rcases List.mem_cons.mp hp with rfl | hp
      · refine ⟨fun e => ?_, fun e => ?_, fun e => ?_⟩
        · rw [show D₄ = I from e, (N _ (.head _)).1] at hn₄; cases hn₄
        · rw [show D₄ = C from e, (N _ (.tail _ (.head _))).1] at hn₄; cases hn₄
        · rw [show D₄ = D' from e, (N _ (.tail _ (.tail _ (.head _)))).1] at hn₄; cases hn₄
      · exact hoff p (List.mem_append_right _ hp)
  · obtain ⟨ls, rfl, rfl, hli, hls⟩ := hj
    dsimp only
    change Fr s₁.heap L h _ at F
    change News s₁.heap L h _ at N
    obtain ⟨a, ha1, ha2⟩ : ∃ a : Nat, ((ns ++ [2]).getD (Int.toNat 0) 0).fmod ((pv.length : Int) + 1) = (a : Int) ∧ a ≤ ps.length := by
      have h1 := Int.fmod_nonneg_of_pos ((ns ++ [2]).getD (Int.toNat 0) 0) (show (0 : Int) < (pv.length : Int) + 1 by omega)
      have h2 := Int.fmod_lt_of_pos ((ns ++ [2]).getD (Int.toNat 0) 0) (show (0 : Int) < (pv.length : Int) + 1 by omega)
      exact ⟨_, (Int.toNat_of_nonneg h1).symm, by omega⟩
    rw [ha1] at F
    refine law_rest (fa := fa) (dr := s₁.drawn) (os := s₁.os) (a := a) KX T HF hps hqs (by assumption) (by assumption) (by omega) hls F N hg ha2 rfl rfl fun h' g' tk' hk hg => ?_
    exact hR _ _ _ hk hg
end
end
section /- PL3 -/
/-! texts as lists of numbers -/
noncomputable def tl (x : Str) : List Nat := x.cps.toList
theorem tl_inj {x y : Str} (h : tl x = tl y) : x = y := Str.ext' (Array.toList_inj.mp h)
theorem tl_append (x y : Str) : tl (x ++ y) = tl x ++ tl y := by simp [tl, Str.cps_append]
theorem tl_length (x : Str) : x.length = (tl x).length := by simp [tl, Str.length]
theorem tl_mk (l : List Nat) : tl ⟨l.toArray⟩ = l := by simp [tl]
noncomputable def jl (c : Nat) : List (List Nat) → List Nat
  | [] => []
  | [a] => a
  | a :: b :: r => a ++ c :: jl c (b :: r)
theorem tl_join (c : Nat) : ∀ ys : List Str, tl (Str.join ⟨#[c]⟩ ys) = jl c (ys.map tl)
  | [] => rfl
  | [a] => rfl
  | a :: b :: r => by
    show tl (a ++ ⟨#[c]⟩ ++ Str.join ⟨#[c]⟩ (b :: r)) = _
    rw [tl_append, tl_append, tl_join c (b :: r)]
    simp [jl, tl]
theorem free_head {c : Nat} : ∀ {a b : List Nat} {r s : List Nat}, c ∉ a → c ∉ b → a ++ c :: r = b ++ c :: s → a = b ∧ r = s
  | [], [], _, _, _, _, h => by simpa using h
  | [], y :: b, _, _, _, hb, h => by simp at h; simp [h.1] at hb
  | x :: a, [], _, _, ha, _, h => by simp at h; simp [h.1] at ha
  | x :: a, y :: b, r, s, ha, hb, h => by
    simp only [List.cons_append, List.cons.injEq] at h
    obtain ⟨rfl, h2⟩ := h
    have := free_head (fun q => ha (.tail _ q)) (fun q => hb (.tail _ q)) h2
    exact ⟨by rw [this.1], this.2⟩
theorem jl_inj {c : Nat} : ∀ {ys zs : List (List Nat)}, ys ≠ [] → zs ≠ [] → (∀ y ∈ ys, c ∉ y) → (∀ z ∈ zs, c ∉ z) → jl c ys = jl c zs → ys = zs
  | [], _, h, _, _, _, _ => absurd rfl h
  | _, [], _, h, _, _, _ => absurd rfl h
  | [a], [b], _, _, _, _, h => by simp only [jl] at h; rw [h]
  | [a], b :: b' :: r, _, _, ha, _, h => by
    simp only [jl] at h
    exact absurd (by rw [h]; simp) (ha a (.head _))
  | a :: a' :: r, [b], _, _, _, hb, h => by
    simp only [jl] at h
    exact absurd (by rw [← h]; simp) (hb b (.head _))
  | a :: a' :: r, b :: b' :: s, _, _, ha, hb, h => by
    simp only [jl] at h
    obtain ⟨h1, h2⟩ := free_head (ha a (.head _)) (hb b (.head _)) h
    have := jl_inj (c := c) (ys := a' :: r) (zs := b' :: s) (by simp) (by simp) (fun y hy => ha y (.tail _ hy)) (fun y hy => hb y (.tail _ hy)) h2
    rw [h1, this]
theorem split_ne (x y : Str) : Txt.split x y ≠ [] := fun h => by
  have := split_pos x y
  rw [h] at this; cases this
theorem map_tl_inj : ∀ {ys zs : List Str}, ys.map tl = zs.map tl → ys = zs
  | [], [], _ => rfl
  | [], _ :: _, h => by simp at h
  | _ :: _, [], h => by simp at h
  | y :: ys, z :: zs, h => by
    simp only [List.map_cons, List.cons.injEq] at h
    rw [tl_inj h.1, map_tl_inj h.2]
theorem split_join {c : Nat} {ys : List Str} (hne : ys ≠ []) (hf : ∀ y ∈ ys, c ∉ tl y) : Txt.split (Str.join ⟨#[c]⟩ ys) ⟨#[c]⟩ = ys := by
  have h := congrArg tl (StrLaws.join_split (Str.join ⟨#[c]⟩ ys) ⟨#[c]⟩)
  rw [tl_join, tl_join] at h
  refine map_tl_inj (jl_inj (c := c) (by simpa using split_ne _ _) (by simpa using hne) (fun y hy => ?_) (fun y hy => ?_) h)
  · obtain ⟨z, hz, rfl⟩ := List.mem_map.mp hy
    exact StrLaws.split_free _ c z hz
  · obtain ⟨z, hz, rfl⟩ := List.mem_map.mp hy
    exact hf z hz
theorem slash_eq : Str.ofString "/" = ⟨#[47]⟩ := by decide
theorem sub1 (x : Str) (i : Nat) : (decide (i + (⟨#[47]⟩ : Str).length ≤ x.length) && Builtin.Str.subAt x ⟨#[47]⟩ i) = true ↔ (tl x)[i]? = some 47 := by
  rw [Bool.and_eq_true, decide_eq_true_eq]
  exact StrLaws.subAt_one x 47 i
theorem starts_iff (x : Str) : Txt.startswith x (Str.ofString "/") = true ↔ (tl x)[0]? = some 47 := by
  rw [slash_eq]; exact sub1 x 0
theorem ends_iff (x : Str) : Txt.endswith x (Str.ofString "/") = true ↔ (tl x) ≠ [] ∧ (tl x)[(tl x).length - 1]? = some 47 := by
  rw [slash_eq]
  unfold Txt.endswith
  show (decide (0 + 1 ≤ x.length) && Builtin.Str.subAt x ⟨#[47]⟩ (x.length - 1)) = true ↔ _
  rw [Bool.and_eq_true, decide_eq_true_eq]
  have h := StrLaws.subAt_one x 47 (x.length - 1)
  have hl := tl_length x
  rw [← hl]
  constructor
  · rintro ⟨h1, h2⟩
    refine ⟨fun e => by rw [e] at hl; simp at hl; omega, h.mp ⟨?_, h2⟩⟩
    show x.length - 1 + 1 ≤ _; omega
  · rintro ⟨h1, h2⟩
    have h3 := h.mpr h2
    refine ⟨?_, h3.2⟩
    have : (tl x).length ≠ 0 := fun e => h1 (List.length_eq_zero_iff.mp e)
    omega
/-- slices -/
theorem slice_eq (x : Str) (l u : Option Int) : Txt.slice x l u = StrLaws.sliceText x l u := rfl
theorem slice_ij (x : Str) {a b : Nat} (hab : a ≤ b) (hb : b ≤ (tl x).length) : tl (Txt.slice x (some (a : Int)) (some (b : Int))) = ((tl x).drop a).take (b - a) := by
  rw [slice_eq, StrLaws.sliceText_nat x hab (by rw [tl_length]; exact hb), tl_mk]; rfl
theorem slice_from (x : Str) {a : Nat} (ha : a ≤ (tl x).length) : tl (Txt.slice x (some (a : Int)) none) = (tl x).drop a := by
  have h := StrLaws.sliceText_from (x := x) (i := (a : Int)) ⟨by omega, by show (a : Int) ≤ ((tl x).length : Int); omega⟩
  rw [slice_eq, h, tl_mk]
  show ((tl x).drop (a : Int).toNat).take (((tl x).length : Int) - a).toNat = _
  rw [Int.toNat_natCast, List.take_of_length_le]
  rw [List.length_drop]; omega
theorem slice_to' (x : Str) {b : Nat} (hb : b ≤ (tl x).length) : tl (Txt.slice x none (some (b : Int))) = (tl x).take b := by
  have h := StrLaws.sliceText_to (x := x) (j := (b : Int)) ⟨by omega, by show (b : Int) ≤ ((tl x).length : Int); omega⟩
  rw [slice_eq, h, tl_mk]
  show ((tl x).drop 0).take ((b : Int) - 0).toNat = _
  simp
end
section /- PL4 -/
/-! the count of `_check_parenthesis` over a row of pieces -/
theorem pcl : tl (pc 0) = [40] ∧ tl (pc 1) = [41] ∧ tl (pc 2) = [92, 92, 40] ∧ tl (pc 3) = [92, 92, 41] ∧ tl (pc 4) = [92, 41] ∧ tl (pc 5) = [34, 40, 34] ∧ tl (pc 6) = [34, 92, 34, 41, 34] ∧ tl (pc 7) = [92, 34] := by decide
noncomputable def txt (l : List Nat) : List Nat := (l.map fun k => tl (pc k)).flatten
theorem txt_cons (k : Nat) (l : List Nat) : txt (k :: l) = tl (pc k) ++ txt l := by simp [txt]
theorem txt_append (a b : List Nat) : txt (a ++ b) = txt a ++ txt b := by simp [txt]
theorem bs_eq : Str.ofString "\\" = ⟨#[92]⟩ := by decide
theorem lp_eq : Str.ofString "(" = ⟨#[40]⟩ := by decide
theorem rp_eq : Str.ofString ")" = ⟨#[41]⟩ := by decide
theorem quote_eq : quote = ⟨#[34]⟩ := by decide
theorem mk1_inj {a b : Nat} : ((⟨#[a]⟩ : Str) = ⟨#[b]⟩) ↔ a = b := ⟨fun h => by injection h with h; simpa using h, fun h => by rw [h]⟩
theorem mk2_ne {a b : Nat} : (Str.ofString "\\" ++ (⟨#[a]⟩ : Str)) ≠ ⟨#[b]⟩ := fun h => by
  have h2 : (tl (Str.ofString "\\" ++ (⟨#[a]⟩ : Str))).length = (tl (⟨#[b]⟩ : Str)).length := by rw [h]
  rw [tl_append, bs_eq, List.length_append] at h2
  exact absurd (show 1 + 1 = 1 from h2) (by decide)
theorem esc_nil (i : Nat) : escGo i false [] = [] := rfl
theorem esc_bs (i c : Nat) (cs : List Nat) : escGo i false (92 :: c :: cs) = (i + 1, Str.ofString "\\" ++ ⟨#[c]⟩) :: escGo (i + 1 + 1) false cs := by
  rw [escGo, if_pos bs_eq.symm, escGo]
theorem esc_ch (i c : Nat) (cs : List Nat) (h : c ≠ 92) : escGo i false (c :: cs) = (i, ⟨#[c]⟩) :: escGo (i + 1) false cs := by
  rw [escGo, if_neg]
  rw [bs_eq, mk1_inj]; exact h
theorem cg_open (i : Nat) (r : List (Nat × Str)) (o : Int) : checkGo ((i, ⟨#[40]⟩) :: r) o = checkGo r (o + 1) := by
  rw [checkGo_cons, if_pos lp_eq.symm]
theorem cg_close (i : Nat) (r : List (Nat × Str)) (o : Int) : checkGo ((i, ⟨#[41]⟩) :: r) o = if o - 1 < 0 then false else checkGo r (o - 1) := by
  rw [checkGo_cons, if_neg (by rw [lp_eq, mk1_inj]; decide), if_pos rp_eq.symm]
theorem cg_pair (i c : Nat) (r : List (Nat × Str)) (o : Int) : checkGo ((i, Str.ofString "\\" ++ ⟨#[c]⟩) :: r) o = checkGo r o := by
  rw [checkGo_cons, if_neg (by rw [lp_eq]; exact mk2_ne), if_neg (by rw [rp_eq]; exact mk2_ne)]
theorem bstep_none : ∀ l : List Nat, l.foldl bstep none = none
  | [] => rfl
  | _ :: l => bstep_none l
theorem no56 : ∀ k < 8, k ≠ 5 → k ≠ 6 → k = 0 ∨ k = 1 ∨ k = 2 ∨ k = 3 ∨ k = 4 ∨ k = 7 := by decide
theorem check_txt : ∀ (l : List Nat) (i o : Nat), (∀ k ∈ l, k < 8 ∧ k ≠ 5 ∧ k ≠ 6) → checkGo (escGo i false (txt l)) (o : Int) = (l.foldl bstep (some o) == some 0)
  | [], i, o, _ => by
    show ((o : Int) == 0) = (some o == some 0)
    rw [Bool.eq_iff_iff, beq_iff_eq, beq_iff_eq]; simp
  | k :: l, i, o, h => by
    have ih := fun i o => check_txt l i o fun k hk => h k (.tail _ hk)
    have hk := h k (.head _)
    have hc : (if ((o : Nat) : Int) - 1 < 0 then false else checkGo (escGo i false (txt l)) ((o : Int) - 1)) = (l.foldl bstep (if o = 0 then none else some (o - 1)) == some 0) := by
      by_cases h0 : o = 0
      · rw [if_pos (by omega), if_pos h0, bstep_none]; rfl
      · rw [if_neg (by omega), if_neg h0, show ((o : Nat) : Int) - 1 = ((o - 1 : Nat) : Int) by omega, ih]
    obtain ⟨p0, p1, p2, p3, p4, p5, p6, p7⟩ := pcl
    rw [txt_cons, List.foldl_cons]
    have hk8 : k = 0 ∨ k = 1 ∨ k = 2 ∨ k = 3 ∨ k = 4 ∨ k = 7 := no56 k hk.1 hk.2.1 hk.2.2
    rcases hk8 with rfl | rfl | rfl | rfl | rfl | rfl
    · rw [p0, List.cons_append, esc_ch _ _ _ (by decide), cg_open, List.nil_append]
      exact ih (i + 1) (o + 1)
    · rw [p1, List.cons_append, esc_ch _ _ _ (by decide), cg_close, List.nil_append]
      show _ = (l.foldl bstep (if o = 0 then none else some (o - 1)) == some 0)
      by_cases h0 : o = 0
      · rw [if_pos (by omega), if_pos h0, bstep_none]; rfl
      · rw [if_neg (by omega), if_neg h0, show ((o : Nat) : Int) - 1 = ((o - 1 : Nat) : Int) by omega, ih]
    · rw [p2, List.cons_append, List.cons_append, esc_bs, cg_pair, List.cons_append, esc_ch _ _ _ (by decide), cg_open, List.nil_append]
      exact ih _ (o + 1)
    · rw [p3, List.cons_append, List.cons_append, esc_bs, cg_pair, List.cons_append, esc_ch _ _ _ (by decide), cg_close, List.nil_append]
      show _ = (l.foldl bstep (if o = 0 then none else some (o - 1)) == some 0)
      by_cases h0 : o = 0
      · rw [if_pos (by omega), if_pos h0, bstep_none]; rfl
      · rw [if_neg (by omega), if_neg h0, show ((o : Nat) : Int) - 1 = ((o - 1 : Nat) : Int) by omega, ih]
    · rw [p4, List.cons_append, List.cons_append, esc_bs, cg_pair, List.nil_append]
      exact ih _ o
    · rw [p7, List.cons_append, List.cons_append, esc_bs, cg_pair, List.nil_append]
      exact ih _ o
/-! without the quoted pieces -/
noncomputable def kept (l : List Nat) : List Nat := l.filter fun k => k != 5 && k != 6
theorem kept_snoc (l : List Nat) (k : Nat) : kept (l ++ [k]) = kept l ++ kept [k] := List.filter_append ..
theorem bstep_kept : ∀ (l : List Nat) (o : Option Nat), (kept l).foldl bstep o = l.foldl bstep o
  | [], _ => rfl
  | k :: l, o => by
    by_cases hk : k = 5 ∨ k = 6
    · have e : kept (k :: l) = kept l := by unfold kept; rw [List.filter_cons_of_neg]; rcases hk with rfl | rfl <;> decide
      have e2 : bstep o k = o := by cases o <;> rcases hk with rfl | rfl <;> rfl
      rw [e, bstep_kept l o, List.foldl_cons, e2]
    · have e : kept (k :: l) = k :: kept l := by
        unfold kept; rw [List.filter_cons_of_pos]; simp; omega
      rw [e, List.foldl_cons, List.foldl_cons, bstep_kept l]
noncomputable def cat (l : List Str) : List Nat := (l.map tl).flatten
theorem cat_snoc (l : List Str) (y : Str) : cat (l ++ [y]) = cat l ++ tl y := by simp [cat]
theorem sg_pair (x : Str) (i c : Nat) (r : List (Nat × Str)) (s : Nat) (op : Option Nat) (res : List Str) : stripGo x ((i, Str.ofString "\\" ++ ⟨#[c]⟩) :: r) s op res = stripGo x r s op res := by
  rw [stripGo_cons, if_neg (by rw [quote_eq]; exact mk2_ne)]
theorem sg_ch (x : Str) (i c : Nat) (r : List (Nat × Str)) (s : Nat) (op : Option Nat) (res : List Str) (h : c ≠ 34) : stripGo x ((i, ⟨#[c]⟩) :: r) s op res = stripGo x r s op res := by
  rw [stripGo_cons, if_neg (by rw [quote_eq, mk1_inj]; exact h)]
theorem sg_on (x : Str) (i : Nat) (r : List (Nat × Str)) (s : Nat) (res : List Str) : stripGo x ((i, ⟨#[34]⟩) :: r) s none res = stripGo x r s (some i) res := by
  rw [stripGo_cons, if_pos quote_eq.symm]
theorem sg_off (x : Str) (i o : Nat) (r : List (Nat × Str)) (s : Nat) (res : List Str) : stripGo x ((i, ⟨#[34]⟩) :: r) s (some o) res = stripGo x r (i + 1) none (if s ≠ o then res ++ [cut x s o] else res) := by
  rw [stripGo_cons, if_pos quote_eq.symm]
theorem sg_skip (x : Str) {k : Nat} (hk : k < 8) (hn : k ≠ 5 ∧ k ≠ 6) (i s : Nat) (res : List Str) (r : List Nat) : stripGo x (escGo i false (tl (pc k) ++ r)) s none res = stripGo x (escGo (i + (tl (pc k)).length) false r) s none res := by
  obtain ⟨p0, p1, p2, p3, p4, _, _, p7⟩ := pcl
  rcases no56 k hk hn.1 hn.2 with rfl | rfl | rfl | rfl | rfl | rfl
  · rw [p0, List.cons_append, esc_ch _ _ _ (by decide), sg_ch _ _ _ _ _ _ _ (by decide)]; rfl
  · rw [p1, List.cons_append, esc_ch _ _ _ (by decide), sg_ch _ _ _ _ _ _ _ (by decide)]; rfl
  · rw [p2, List.cons_append, List.cons_append, esc_bs, sg_pair, List.cons_append, esc_ch _ _ _ (by decide), sg_ch _ _ _ _ _ _ _ (by decide)]; rfl
  · rw [p3, List.cons_append, List.cons_append, esc_bs, sg_pair, List.cons_append, esc_ch _ _ _ (by decide), sg_ch _ _ _ _ _ _ _ (by decide)]; rfl
  · rw [p4, List.cons_append, List.cons_append, esc_bs, sg_pair]; rfl
  · rw [p7, List.cons_append, List.cons_append, esc_bs, sg_pair]; rfl
theorem sg_drop (x : Str) {k : Nat} (hn : k = 5 ∨ k = 6) (i s : Nat) (res : List Str) (r : List Nat) : stripGo x (escGo i false (tl (pc k) ++ r)) s none res = stripGo x (escGo (i + (tl (pc k)).length) false r) (i + (tl (pc k)).length) none (if s ≠ i then res ++ [cut x s i] else res) := by
  obtain ⟨_, _, _, _, _, p5, p6, _⟩ := pcl
  rcases hn with rfl | rfl
  · rw [p5, List.cons_append, List.cons_append, List.cons_append, esc_ch _ _ _ (by decide), sg_on, esc_ch _ _ _ (by decide), sg_ch _ _ _ _ _ _ _ (by decide), esc_ch _ _ _ (by decide), sg_off]; rfl
  · rw [p6, List.cons_append, List.cons_append, List.cons_append, List.cons_append, List.cons_append, esc_ch _ _ _ (by decide), sg_on, esc_bs, sg_pair, esc_ch _ _ _ (by decide), sg_ch _ _ _ _ _ _ _ (by decide), esc_ch _ _ _ (by decide), sg_off]; rfl
theorem strip_txt (x : Str) : ∀ (l l₁ : List Nat) (start : Nat) (res : List Str), (∀ k ∈ l, k < 8) → tl x = txt (l₁ ++ l) → start ≤ (txt l₁).length → cat res ++ (txt l₁).drop start = txt (kept l₁) →
    (stripGo x (escGo (txt l₁).length false (txt l)) start none res).1 ≤ (tl x).length ∧
    cat (stripGo x (escGo (txt l₁).length false (txt l)) start none res).2 ++ (tl x).drop (stripGo x (escGo (txt l₁).length false (txt l)) start none res).1 = txt (kept (l₁ ++ l))
  | [], l₁, start, res, _, hx, hs, hi => by
    rw [List.append_nil] at hx ⊢
    show start ≤ _ ∧ cat res ++ (tl x).drop start = _
    rw [hx]; exact ⟨hs, hi⟩
  | k :: l, l₁, start, res, h, hx, hs, hi => by
    have hk := h k (.head _)
    have hx' : tl x = txt ((l₁ ++ [k]) ++ l) := by rw [hx]; simp
    have ih := fun start res => strip_txt x l (l₁ ++ [k]) start res (fun k hk => h k (.tail _ hk)) hx'
    have ek : txt (l₁ ++ [k]) = txt l₁ ++ tl (pc k) := by rw [txt_append, txt_cons]; simp [txt]
    have ea : l₁ ++ k :: l = (l₁ ++ [k]) ++ l := by simp
    rw [ek, List.length_append] at ih
    rw [ea, txt_cons]
    generalize hi0 : (txt l₁).length = i at *
    have skip : (k ≠ 5 ∧ k ≠ 6) → start ≤ i + (tl (pc k)).length ∧ cat res ++ (txt l₁ ++ tl (pc k)).drop start = txt (kept (l₁ ++ [k])) := fun hn => by
      have e : kept [k] = [k] := by unfold kept; rw [List.filter_cons_of_pos]; · rfl
                                    simp; omega
      refine ⟨by omega, ?_⟩
      rw [kept_snoc, e, txt_append, txt_cons, ← hi, List.drop_append_of_le_length (by omega)]
      simp [txt]
    have hcut : tl (cut x start i) = (txt l₁).drop start := by
      unfold cut
      rw [slice_ij x hs (by rw [hx', txt_append, ek, List.length_append, List.length_append]; omega), hx', txt_append, ek, List.append_assoc, List.drop_append_of_le_length (by omega), List.take_append_of_le_length (by rw [List.length_drop]; omega), List.take_of_length_le (by rw [List.length_drop]; omega)]
    have drp : (k = 5 ∨ k = 6) → cat (if start ≠ i then res ++ [cut x start i] else res) ++ (txt l₁ ++ tl (pc k)).drop (i + (tl (pc k)).length) = txt (kept (l₁ ++ [k])) := fun hn => by
      have e : kept [k] = [] := by rcases hn with rfl | rfl <;> decide
      rw [kept_snoc, e, List.append_nil, List.drop_of_length_le (by rw [List.length_append]; omega), List.append_nil, ← hi]
      split
      · rw [cat_snoc, hcut]
      · rename_i he
        have : start = i := Classical.byContradiction he
        rw [List.drop_of_length_le (by omega), List.append_nil]
    by_cases hn : k = 5 ∨ k = 6
    · rw [sg_drop x hn]
      exact ih _ _ (Nat.le_refl _) (drp hn)
    · have hn' : k ≠ 5 ∧ k ≠ 6 := ⟨fun e => hn (.inl e), fun e => hn (.inr e)⟩
      rw [sg_skip x hk hn']
      exact ih start res (skip hn').1 (skip hn').2
theorem tl_empty : tl (Str.ofString "") = [] := by decide
theorem tl_join0 : ∀ ys : List Str, tl (Str.join (Str.ofString "") ys) = cat ys
  | [] => by decide
  | [a] => by simp [Str.join, cat]
  | a :: b :: r => by
    show tl (a ++ Str.ofString "" ++ Str.join (Str.ofString "") (b :: r)) = _
    rw [tl_append, tl_append, tl_join0 (b :: r), tl_empty]
    simp [cat]
theorem tl_pieces (l : List Nat) : tl (Txt.join (Str.ofString "") (l.map pc)) = txt l := by
  rw [join_eq, tl_join0]; simp [cat, txt]; rfl
theorem no34 : ∀ l : List Nat, (∀ k ∈ l, k < 8) → 34 ∉ txt l → kept l = l
  | [], _, _ => rfl
  | k :: l, h, h34 => by
    have ih := no34 l (fun k hk => h k (.tail _ hk)) fun hm => h34 (by rw [txt_cons]; exact List.mem_append_right _ hm)
    have hk : k ≠ 5 ∧ k ≠ 6 := by
      constructor <;> rintro rfl
      · exact h34 (by rw [txt_cons]; exact List.mem_append_left _ (by decide))
      · exact h34 (by rw [txt_cons]; exact List.mem_append_left _ (by decide))
    unfold kept at ih ⊢
    rw [List.filter_cons_of_pos, ih]
    simp; omega
theorem stripped_txt (l : List Nat) (h : ∀ k ∈ l, k < 8) : tl (stripped (Txt.join (Str.ofString "") (l.map pc))) = txt (kept l) := by
  have hx := tl_pieces l
  generalize Txt.join (Str.ofString "") (l.map pc) = x at hx
  unfold stripped
  by_cases hq : (Builtin.Str.occurrences x quote 0 x.length 1).isEmpty = true
  · rw [if_pos hq]
    have h1 := StrLaws.found_one x 34
    rw [quote_eq] at hq
    rw [hq] at h1
    have h2 : 34 ∉ txt l := by
      rw [← hx]
      exact of_decide_eq_false h1.symm
    rw [no34 l h h2, hx]
  · rw [if_neg hq]
    have hs := strip_txt x l [] 0 [] h hx (Nat.zero_le _) rfl
    have e0 : (txt []).length = 0 := rfl
    rw [e0, ← hx] at hs
    have e1 : escGo 0 false (tl x) = escItems x := rfl
    rw [e1] at hs
    generalize stripGo x (escItems x) 0 none [] = r at hs
    obtain ⟨s, res⟩ := r
    dsimp only at hs ⊢
    rw [join_eq, tl_join0]
    split
    · rw [cat_snoc, slice_from x hs.1]; exact hs.2
    · rename_i hn
      rw [tl_length] at hn
      have := hs.2
      rw [List.drop_of_length_le (by omega), List.append_nil] at this
      exact this
theorem checked_txt (l : List Nat) (h : ∀ k ∈ l, k < 8) : checked (Txt.join (Str.ofString "") (l.map pc)) = bal l := by
  show checkGo (escGo 0 false (tl (stripped _))) 0 = _
  rw [stripped_txt l h]
  have := check_txt (kept l) 0 0 fun k hk => by
    have := List.mem_filter.mp hk
    refine ⟨h k this.1, ?_⟩
    simpa using this.2
  rw [bstep_kept] at this
  exact this
end
section /- PL5 -/
/-! the kinds that are kept -/
noncomputable def kf (ks : List Nat) (i : Nat) : Nat := ks.getD i 7
noncomputable def stepOf (f : Nat → Nat) (i : Nat) : Str := if opn (f i) = true then nm i else if cls (f i) = true then Str.ofString ".." else Str.ofString "."
noncomputable def steps (f : Nat → Nat) (n : Nat) : List Str := (List.range n).map (stepOf f)
theorem stk_congr {f g : Nat → Nat} : ∀ n, (∀ i, i < n → f i = g i) → stk f n = stk g n
  | 0, _ => rfl
  | n + 1, h => by
    rw [stk, stk, stk_congr n fun i hi => h i (by omega), h n (by omega)]
theorem kf_old {ks : List Nat} {k i : Nat} (h : i < ks.length) : kf (ks ++ [k]) i = kf ks i := by
  unfold kf; rw [List.getD_eq_getElem?_getD, List.getD_eq_getElem?_getD, List.getElem?_append_left h]
theorem kf_new {ks : List Nat} {k : Nat} : kf (ks ++ [k]) ks.length = k := by
  unfold kf; rw [List.getD_eq_getElem?_getD, List.getElem?_append_right (Nat.le_refl _)]; simp
theorem steps_snoc {ks : List Nat} {k : Nat} : steps (kf (ks ++ [k])) (ks.length + 1) = steps (kf ks) ks.length ++ [stepOf (kf (ks ++ [k])) ks.length] := by
  unfold steps
  rw [List.range_succ, List.map_append]
  congr 1
  refine List.map_congr_left fun i hi => ?_
  have := List.mem_range.mp hi
  unfold stepOf
  rw [kf_old this]
noncomputable def Kinds (st : LawSt) (ks : List Nat) : Prop :=
  (∀ k ∈ ks, k < 8) ∧ ValidTo (kf ks) ks.length ∧ st = (ks.map pc, steps (kf ks) ks.length, ((stk (kf ks) ks.length).length : Int))
theorem kinds_snoc {st : LawSt} {ks : List Nat} {k : Nat} (h : Kinds st ks) (hk : k < 8) (hc : cls k = true → stk (kf ks) ks.length ≠ []) :
    Kinds (st.1 ++ [pc k], st.2.1 ++ [if opn k = true then nm ks.length else if cls k = true then Str.ofString ".." else Str.ofString "."], if opn k = true then st.2.2 + 1 else if cls k = true then st.2.2 - 1 else st.2.2) (ks ++ [k]) := by
  obtain ⟨h1, h2, rfl⟩ := h
  have hst : stk (kf (ks ++ [k])) ks.length = stk (kf ks) ks.length := stk_congr _ fun i hi => kf_old hi
  refine ⟨fun x hx => ?_, fun p hp hcp => ?_, ?_⟩
  · rcases List.mem_append.mp hx with hx | hx
    · exact h1 x hx
    · rw [List.mem_singleton.mp hx]; exact hk
  · rw [List.length_append] at hp
    simp only [List.length_cons, List.length_nil] at hp
    rcases Nat.lt_or_ge p ks.length with hp' | hp'
    · rw [kf_old hp'] at hcp
      rw [stk_congr (g := kf ks) p fun i hi => kf_old (by omega)]
      exact h2 p hp' hcp
    · have : p = ks.length := by omega
      subst this
      rw [kf_new] at hcp
      rw [hst]; exact hc hcp
  · rw [List.length_append]
    show _ = (_, steps _ (ks.length + 1), (((stk _ (ks.length + 1)).length : Nat) : Int))
    rw [steps_snoc, stk, hst, kf_new, List.map_append]
    unfold stepOf
    rw [kf_new]
    refine Prod.ext rfl (Prod.ext rfl ?_)
    show (if opn k = true then _ else _) = _
    split
    · rw [List.length_append]; simp
    · split
      · rename_i hc'
        have := hc hc'
        have hl : (stk (kf ks) ks.length).length ≠ 0 := fun e => this (List.length_eq_zero_iff.mp e)
        rw [List.length_dropLast]; dsimp only; omega
      · rfl
theorem kinds_step {st : LawSt} {ks : List Nat} (h : Kinds st ks) (x : Int) : ∃ ks', Kinds (lawStep st x) ks' := by
  obtain ⟨k, hk⟩ : ∃ k : Nat, k = (x % 8).toNat := ⟨_, rfl⟩
  have hk8 : k < 8 := by omega
  have hkx : x % 8 = (k : Int) := by omega
  have hd : st.2.2 = ((stk (kf ks) ks.length).length : Int) := by rw [h.2.2]
  have hl : st.1.length = ks.length := by rw [h.2.2]; simp
  have h8 := lt8 k hk8
  have hne : st.2.2 ≠ 0 → stk (kf ks) ks.length ≠ [] := fun q e => q (by rw [hd, e]; rfl)
  rcases h8 with rfl | rfl | rfl | rfl | h4
  · have := kinds_snoc h (k := 0) (by decide) (fun q => absurd q (by decide))
    exact ⟨_, by rw [ls_open 0 hkx (by decide), hl]; exact this⟩
  · by_cases h0 : st.2.2 = 0
    · exact ⟨ks, by rw [ls_skip 1 hkx (by decide) h0]; exact h⟩
    · have := kinds_snoc h (k := 1) (by decide) (fun _ => hne h0)
      exact ⟨_, by rw [ls_close 1 hkx (by decide) h0]; exact this⟩
  · have := kinds_snoc h (k := 2) (by decide) (fun q => absurd q (by decide))
    exact ⟨_, by rw [ls_open 2 hkx (by decide), hl]; exact this⟩
  · by_cases h0 : st.2.2 = 0
    · exact ⟨ks, by rw [ls_skip 3 hkx (by decide) h0]; exact h⟩
    · have := kinds_snoc h (k := 3) (by decide) (fun _ => hne h0)
      exact ⟨_, by rw [ls_close 3 hkx (by decide) h0]; exact this⟩
  · have e1 : opn k = false := by rcases h4 with rfl | rfl | rfl | rfl <;> rfl
    have e2 : cls k = false := by rcases h4 with rfl | rfl | rfl | rfl <;> rfl
    have := kinds_snoc h hk8 (fun q => by rw [e2] at q; cases q)
    rw [e1, e2] at this
    exact ⟨_, by rw [ls_dot k hkx h4]; exact this⟩
theorem law_kinds : ∀ (xs : List Int) {st : LawSt}, (∃ ks, Kinds st ks) → ∃ ks, Kinds (xs.foldl lawStep st) ks
  | [], _, h => h
  | x :: xs, _, ⟨_, h⟩ => law_kinds xs (kinds_step h x)
theorem kinds_nil : Kinds ([], [], 0) [] := ⟨nofun, fun p hp => absurd hp (Nat.not_lt_zero p), rfl⟩
/-! the openings around a place -/
theorem take_drop {ks : List Nat} {a b : Nat} (h : a + b ≤ ks.length) : (ks.drop a).take b = (List.range b).map fun t => kf ks (a + t) := by
  refine List.ext_getElem (by simp; omega) fun i h1 h2 => ?_
  simp only [List.getElem_take, List.getElem_drop, List.getElem_map, List.getElem_range]
  unfold kf
  rw [List.getD_eq_getElem?_getD, List.getElem?_eq_getElem (by simp at h2; omega)]; rfl
theorem fold_rep (c : Nat) : ∀ (m : Nat) (acc : Array Nat), ((List.replicate m #[c]).foldl (· ++ ·) acc).toList = acc.toList ++ List.replicate m c
  | 0, acc => by simp
  | m + 1, acc => by
    rw [List.replicate_succ, List.foldl_cons, fold_rep c m]
    simp [List.replicate_succ]
theorem a_eq : Str.ofString "a" = ⟨#[97]⟩ := by decide
theorem tl_nm (n : Nat) : tl (nm n) = List.replicate (n + 1) 97 := by
  unfold nm Txt.mul
  rw [if_neg (by omega), a_eq]
  split
  · rename_i h
    have h0 : ((n : Int) + 1 == 1 || (1 : Nat) == 0) = true := h
    have : n = 0 := by simp at h0; omega
    subst this; rfl
  · show ((List.replicate ((n : Int) + 1).toNat #[97]).foldl (· ++ ·) #[]).toList = _
    rw [fold_rep, show ((n : Int) + 1).toNat = n + 1 by omega]; rfl
theorem nm_inj {a b : Nat} (h : nm a = nm b) : a = b := by
  have := congrArg (fun x => (tl x).length) h
  simp only [tl_nm, List.length_replicate] at this
  omega
theorem dot_eq : Str.ofString "." = ⟨#[46]⟩ := by decide
theorem dots_eq : Str.ofString ".." = ⟨#[46, 46]⟩ := by decide
theorem nm_head (n : Nat) : (tl (nm n))[0]? = some 97 := by rw [tl_nm, List.replicate_succ]; rfl
theorem nm_dot (n : Nat) : nm n ≠ Str.ofString "." := fun h => by
  have := nm_head n
  rw [h, dot_eq] at this; cases this
theorem nm_dots (n : Nat) : nm n ≠ Str.ofString ".." := fun h => by
  have := nm_head n
  rw [h, dots_eq] at this; cases this
theorem nm_empty (n : Nat) : nm n ≠ Str.ofString "" := fun h => by
  have := nm_head n
  rw [h, tl_empty] at this; cases this
theorem steps_get {f : Nat → Nat} {n i : Nat} (h : i < n) : (steps f n)[i]? = some (stepOf f i) := by
  unfold steps; rw [List.getElem?_map, List.getElem?_range h]; rfl
theorem stepOf_open {f : Nat → Nat} {i : Nat} (h : opn (f i) = true) : stepOf f i = nm i := by unfold stepOf; rw [if_pos h]
theorem aStep_eq {ks : List Nat} (h8 : ∀ k ∈ ks, k < 8) {fd : List Nat} {q i : Nat} (hi : i < q) (hq : q ≤ ks.length) : aStep (ks.map pc) (steps (kf ks) ks.length) (fd, q) i = rStep (kf ks) (fd, q) i := by
  unfold aStep rStep
  rw [steps_get (show i < ks.length by omega)]
  by_cases ho : opn (kf ks i) = true
  · rw [stepOf_open ho, if_neg (by rintro (h | h); exact nm_dot _ (Option.some.inj h); exact nm_dots _ (Option.some.inj h))]
    dsimp only
    have e : ((ks.map pc).drop (i + 1)).take (q - (i + 1)) = ((List.range (q - (i + 1))).map fun t => kf ks (i + 1 + t)).map pc := by
      rw [← List.map_drop, ← List.map_take, take_drop (by omega)]
    have hb : ∀ k ∈ (List.range (q - (i + 1))).map fun t => kf ks (i + 1 + t), k < 8 := fun k hk => by
      rw [← take_drop (show i + 1 + (q - (i + 1)) ≤ ks.length by omega)] at hk
      exact h8 k (List.drop_subset _ _ (List.take_subset _ _ hk))
    rw [e, checked_txt _ hb]
    simp only [ho, true_and]
  · rw [if_pos, if_neg (fun h => ho h.1)]
    unfold stepOf
    rw [if_neg ho]
    split
    · exact .inr rfl
    · exact .inl rfl
theorem around_eq {ks : List Nat} (h8 : ∀ k ∈ ks, k < 8) (hv : ValidTo (kf ks) ks.length) {k : Nat} (hk : k ≤ ks.length) : around (ks.map pc) (steps (kf ks) ks.length) k = stk (kf ks) k := by
  rw [← around_stk (kf ks) hv hk]
  unfold around
  have : ∀ j, j ≤ k → (List.range j).foldl (fun st j => aStep (ks.map pc) (steps (kf ks) ks.length) st (k - 1 - j)) ([], k) = (List.range j).foldl (fun st j => rStep (kf ks) st (k - 1 - j)) ([], k) := fun j => by
    induction j with
    | zero => intro _; rfl
    | succ j ih =>
      intro hj
      rw [List.range_succ, List.foldl_append, List.foldl_append, ih (by omega)]
      obtain ⟨_, h2, h3, _⟩ := around_inv (kf ks) hv hk j (by omega)
      generalize (List.range j).foldl (fun st j => rStep (kf ks) st (k - 1 - j)) ([], k) = st at h2 h3
      obtain ⟨fd, q⟩ := st
      exact aStep_eq h8 (by dsimp only at h2; omega) (by dsimp only at h3; omega)
  rw [this k (Nat.le_refl k)]
end
section /- PL6 -/
/-! paths -/
noncomputable abbrev J (ys : List Str) : Str := Txt.join (Str.ofString "/") ys
theorem tl_slash : tl (Str.ofString "/") = [47] := by decide
theorem tl_J (ys : List Str) : tl (J ys) = jl 47 (ys.map tl) := by
  show tl (Txt.join (Str.ofString "/") ys) = _
  rw [join_eq, slash_eq, tl_join]
theorem jl_cons {c : Nat} {a : List Nat} : ∀ {r : List (List Nat)}, r ≠ [] → jl c (a :: r) = a ++ c :: jl c r
  | [], h => absurd rfl h
  | _ :: _, _ => rfl
theorem jl_snoc {c : Nat} {a : List Nat} : ∀ {l : List (List Nat)}, l ≠ [] → jl c (l ++ [a]) = jl c l ++ c :: a
  | [], h => absurd rfl h
  | [_], _ => rfl
  | x :: y :: r, _ => by
    rw [List.cons_append, jl_cons (by simp), jl_snoc (l := y :: r) (by simp), jl_cons (a := x) (r := y :: r) (by simp)]
    simp
noncomputable def Clean (ys : List Str) : Prop := ∀ y ∈ ys, 47 ∉ tl y
theorem nm_clean (n : Nat) : 47 ∉ tl (nm n) := by rw [tl_nm]; intro h; have := (List.mem_replicate.mp h).2; cases this
theorem dots_clean : 47 ∉ tl (Str.ofString "..") := by decide
theorem dot_clean : 47 ∉ tl (Str.ofString ".") := by decide
theorem empty_clean : 47 ∉ tl (Str.ofString "") := by decide
theorem nms_clean (l : List Nat) : Clean (l.map nm) := fun y hy => by
  obtain ⟨n, _, rfl⟩ := List.mem_map.mp hy
  exact nm_clean n
theorem stepOf_clean (f : Nat → Nat) (i : Nat) : 47 ∉ tl (stepOf f i) := by
  unfold stepOf
  split
  · exact nm_clean _
  · split
    · exact dots_clean
    · exact dot_clean
theorem split_J {ys : List Str} (hne : ys ≠ []) (h : Clean ys) : Txt.split (J ys) (Str.ofString "/") = ys := by
  show Txt.split (Txt.join (Str.ofString "/") ys) _ = _
  rw [join_eq, slash_eq]
  exact split_join hne h
theorem J_root {ys : List Str} (hne : ys ≠ []) : Str.ofString "/" ++ J ys = J (Str.ofString "" :: ys) := tl_inj (by
  rw [tl_append, tl_J, tl_J, List.map_cons, jl_cons (by simpa using hne), tl_slash, tl_empty]; rfl)
theorem J_nil : J [] = Str.ofString "" := tl_inj (by rw [tl_J, tl_empty]; rfl)
theorem J_one (y : Str) : J [y] = y := tl_inj (by rw [tl_J]; rfl)
theorem J_root0 : Str.ofString "/" ++ J [] = J [Str.ofString "", Str.ofString ""] := tl_inj (by rw [tl_append, tl_J, tl_J, tl_slash]; simp [jl, tl_empty])
theorem comps_root {ys : List Str} (h : Clean ys) (h0 : ∀ y ∈ ys, y ≠ Str.ofString "" ∧ y ≠ Str.ofString ".") : comps (Str.ofString "/" ++ J ys) = ys := by
  have hf : ys.filter okC = ys := List.filter_eq_self.mpr fun y hy => by
    have := h0 y hy
    unfold okC; simp [this.1, this.2]
  have e0 : okC (Str.ofString "") = false := by decide
  unfold comps
  by_cases hne : ys = []
  · subst hne
    rw [J_root0, split_J (by simp) (by intro y hy; simp at hy; rw [hy]; exact empty_clean)]
    simp [e0]
  · rw [J_root hne, split_J (by simp) (fun y hy => by
      rcases List.mem_cons.mp hy with rfl | hy
      · exact empty_clean
      · exact h y hy), List.filter_cons_of_neg (by rw [e0]; decide), hf]
theorem comps_names (l : List Nat) : comps (Str.ofString "/" ++ J (l.map nm)) = l.map nm :=
  comps_root (nms_clean l) fun y hy => by
    obtain ⟨n, _, rfl⟩ := List.mem_map.mp hy
    exact ⟨nm_empty n, nm_dot n⟩
theorem starts_no {x : Str} {c : Nat} (h : (tl x)[0]? = some c) (hc : c ≠ 47) : ¬ Txt.startswith x (Str.ofString "/") = true := fun q => by
  have := (starts_iff x).mp q
  rw [h] at this; exact hc (Option.some.inj this)
theorem js_step {cs : List Nat} (d : Nat) : joinStep (Str.ofString "/" ++ J (cs.map nm)) (nm d) = Str.ofString "/" ++ J ((cs ++ [d]).map nm) := by
  have hl : (Str.ofString "/" ++ J (cs.map nm)).length ≠ 0 := by rw [tl_length, tl_append, tl_slash]; simp
  unfold joinStep
  rw [if_neg (by rintro (h | h); exact starts_no (nm_head d) (by decide) h; exact hl h)]
  rcases List.eq_nil_or_concat cs with rfl | ⟨cs', c, rfl⟩
  · rw [if_pos ((ends_iff _).mpr (by rw [tl_append, tl_slash, tl_J]; exact ⟨by simp, by rfl⟩))]
    refine tl_inj ?_
    rw [tl_append, tl_append, tl_append, tl_J, tl_J, tl_slash]; rfl
  · have hlast : tl (Str.ofString "/" ++ J ((cs'.concat c).map nm)) = (if cs' = [] then [47] else 47 :: jl 47 ((cs'.map nm).map tl) ++ [47]) ++ (List.replicate c 97 ++ [97]) := by
      rw [tl_append, tl_slash, tl_J, List.concat_eq_append, List.map_append, List.map_append, ← List.replicate_succ', ← tl_nm]
      split
      · rename_i h; subst h; rfl
      · rename_i h
        rw [List.map_cons, List.map_cons, List.map_nil, List.map_nil, jl_snoc (by simpa using h)]; simp
    rw [if_neg (by
      rw [ends_iff, ← List.getLast?_eq_getElem?, hlast, ← List.append_assoc, List.getLast?_concat]
      rintro ⟨_, h⟩; cases h)]
    refine tl_inj ?_
    rw [tl_append, tl_append, tl_append, tl_append, tl_J, tl_J, tl_slash, List.map_append, List.map_append, List.map_cons, List.map_cons, List.map_nil, List.map_nil, jl_snoc (by simp)]
    simp
theorem js_fold : ∀ (ds cs : List Nat), (ds.map nm).foldl joinStep (Str.ofString "/" ++ J (cs.map nm)) = Str.ofString "/" ++ J ((cs ++ ds).map nm)
  | [], cs => by simp
  | d :: ds, cs => by rw [List.map_cons, List.foldl_cons, js_step, js_fold ds (cs ++ [d])]; simp
theorem path_eq (rs : List Nat) : pathOf rs = Str.ofString "/" ++ J (rs.map nm) := by
  have h1 : joinStep (Str.ofString "") (Str.ofString "x") = Str.ofString "x" := js2 _ _ (by decide)
  have h2 : joinStep (Str.ofString "x") (Str.ofString "/") = Str.ofString "/" ++ J (([] : List Nat).map nm) := by
    rw [js1 _ _ (by decide)]
    refine tl_inj ?_
    rw [tl_append, tl_J]; simp [jl]
  unfold pathOf
  rw [List.foldl_cons, List.foldl_cons, h1, h2, js_fold]; rfl
/-! normpath -/
theorem ns_open (root : Str) (acc : List Str) (i : Nat) : normStep root acc (nm i) = acc ++ [nm i] := by
  unfold normStep
  rw [if_neg (by rintro (h | h); exact nm_empty i h; exact nm_dot i h), if_pos (.inl (nm_dots i))]
theorem ns_dotp (root : Str) (acc : List Str) : normStep root acc (Str.ofString ".") = acc := by
  unfold normStep; rw [if_pos (.inr rfl)]
theorem up_ne : ¬ (Str.ofString ".." = Str.ofString "" ∨ Str.ofString ".." = Str.ofString ".") := by decide
theorem ns_popn (root : Str) (acc : List Str) (j : Nat) : normStep root (acc ++ [nm j]) (Str.ofString "..") = acc := by
  unfold normStep
  rw [if_neg up_ne, if_neg, if_pos (by simp), List.dropLast_concat]
  rintro (h | ⟨_, h⟩ | ⟨_, h⟩)
  · exact h rfl
  · simp at h
  · rw [List.getLast?_concat] at h
    exact nm_dots j (Option.some.inj h)
theorem ns_root0 : normStep (Str.ofString "/") [] (Str.ofString "..") = [] := by
  unfold normStep
  rw [if_neg up_ne, if_neg, if_neg (by simp)]
  rintro (h | ⟨h, _⟩ | ⟨h, _⟩)
  · exact h rfl
  · revert h; decide
  · exact h rfl
theorem ns_rel (c : Nat) : normStep (Str.ofString "") (List.replicate c (Str.ofString "..")) (Str.ofString "..") = List.replicate (c + 1) (Str.ofString "..") := by
  unfold normStep
  rw [if_neg up_ne, if_pos, List.replicate_succ']
  cases c with
  | zero => exact .inr (.inl ⟨rfl, rfl⟩)
  | succ c => exact .inr (.inr ⟨by simp, by rw [List.replicate_succ', List.getLast?_concat]⟩)
theorem steps_take {f : Nat → Nat} {n k : Nat} (h : k < n) : (steps f n).take (k + 1) = (steps f n).take k ++ [stepOf f k] := by
  rw [List.take_add_one, steps_get h]; rfl
theorem norm_abs {f : Nat → Nat} {n : Nat} (hv : ValidTo f n) : ∀ k, k ≤ n → ((steps f n).take k).foldl (normStep (Str.ofString "/")) [] = (stk f k).map nm
  | 0, _ => rfl
  | k + 1, hk => by
    rw [steps_take (by omega), List.foldl_append, norm_abs hv k (by omega), List.foldl_cons, List.foldl_nil, stk]
    unfold stepOf
    split
    · rw [ns_open, List.map_append]; rfl
    · split
      · rename_i hc
        have hne := hv k (by omega) hc
        rcases List.eq_nil_or_concat (stk f k) with h | ⟨l, a, h⟩
        · exact absurd h hne
        · rw [h, List.concat_eq_append, List.map_append, List.map_cons, List.map_nil, ns_popn, List.dropLast_concat]
      · rw [ns_dotp]
theorem steps_mid {f : Nat → Nat} {n i j : Nat} (h : i + j < n) : ((steps f n).drop i).take (j + 1) = ((steps f n).drop i).take j ++ [stepOf f (i + j)] := by
  rw [List.take_add_one, List.getElem?_drop, steps_get h]; rfl
theorem norm_rel {f : Nat → Nat} {n i : Nat} : ∀ j, i + j ≤ n → (((steps f n).drop i).take j).foldl (normStep (Str.ofString "")) [] = List.replicate (run f i j).1 (Str.ofString "..") ++ (run f i j).2.map nm
  | 0, _ => rfl
  | j + 1, hj => by
    rw [steps_mid (by omega), List.foldl_append, norm_rel j (by omega), List.foldl_cons, List.foldl_nil, run]
    unfold stepOf
    split
    · rw [ns_open, List.map_append, List.append_assoc]; rfl
    · split
      · rcases List.eq_nil_or_concat (run f i j).2 with h | ⟨l, a, h⟩
        · rw [if_pos h, h, List.map_nil, List.append_nil, ns_rel, List.append_nil]
        · rw [if_neg (by rw [h]; simp), h, List.concat_eq_append, List.map_append, List.map_cons, List.map_nil, ← List.append_assoc, ns_popn, List.dropLast_concat]
      · rw [ns_dotp]
end
section /- PL7 -/
theorem root_abs {x : Str} {r : List Nat} (h : tl x = 47 :: 46 :: r) : (rootOf x).1 = Str.ofString "/" ∧ tl (rootOf x).2 = 46 :: r := by
  have h1 : Txt.slice x none (some 1) = Str.ofString "/" := tl_inj (by
    have := slice_to' x (b := 1) (by rw [h]; simp)
    rw [h] at this
    rw [tl_slash]; exact this)
  have h2 : Txt.slice x (some 1) (some 2) ≠ Str.ofString "/" := fun e => by
    have := slice_ij x (a := 1) (b := 2) (by decide) (by rw [h]; simp)
    rw [h] at this
    have e2 : tl (Txt.slice x (some 1) (some 2)) = [46] := this
    rw [e, tl_slash] at e2; cases e2
  have h3 : tl (Txt.slice x (some 1) none) = 46 :: r := by
    have := slice_from x (a := 1) (by rw [h]; simp)
    rw [h] at this; exact this
  have e : rootOf x = (Str.ofString "/", Txt.slice x (some 1) none) := by
    unfold rootOf
    rw [if_neg (by rw [h1]; simp), if_pos (by simpa using h2)]
  rw [e]; exact ⟨rfl, h3⟩
theorem root_rel {x : Str} {c : Nat} {r : List Nat} (h : tl x = c :: r) (hc : c ≠ 47) : rootOf x = (Str.ofString "", x) := by
  have h1 : Txt.slice x none (some 1) ≠ Str.ofString "/" := fun e => by
    have := slice_to' x (b := 1) (by rw [h]; simp)
    rw [h] at this
    have e2 : tl (Txt.slice x none (some 1)) = [c] := this
    rw [e, tl_slash] at e2
    injection e2 with e2
    exact hc e2.symm
  unfold rootOf
  rw [if_pos (by simpa using h1)]
theorem steps_clean (f : Nat → Nat) (n : Nat) : Clean (steps f n) := fun y hy => by
  obtain ⟨i, _, rfl⟩ := List.mem_map.mp hy
  exact stepOf_clean f i
theorem updir_eq : tl (Str.ofString "/../") = [47, 46, 46, 47] := by decide
theorem normed_abs {f : Nat → Nat} {n : Nat} (hv : ValidTo f n) {k : Nat} (hk : k ≤ n) : normed (Str.ofString "/../" ++ J ((steps f n).take k)) = Str.ofString "/" ++ J ((stk f k).map nm) := by
  have hx : tl (Str.ofString "/../" ++ J ((steps f n).take k)) = 47 :: 46 :: (46 :: 47 :: jl 47 (((steps f n).take k).map tl)) := by rw [tl_append, updir_eq, tl_J]; rfl
  obtain ⟨h1, h2⟩ := root_abs hx
  have hfold : (Txt.split (rootOf (Str.ofString "/../" ++ J ((steps f n).take k))).2 (Str.ofString "/")).foldl (normStep (Str.ofString "/")) [] = (stk f k).map nm := by
    rw [← norm_abs hv k hk]
    have hcl : Clean ((steps f n).take k) := fun y hy => steps_clean f n y (List.take_subset _ _ hy)
    by_cases hne : (steps f n).take k = []
    · have e : (rootOf (Str.ofString "/../" ++ J ((steps f n).take k))).2 = J [Str.ofString "..", Str.ofString ""] := tl_inj (by
        rw [h2, tl_J, hne]; simp [jl, tl_empty]; decide)
      rw [e, split_J (by simp) (by
        intro y hy
        simp at hy
        rcases hy with rfl | rfl
        · exact dots_clean
        · exact empty_clean), hne]
      rw [List.foldl_cons, ns_root0, List.foldl_cons]
      show normStep _ [] (Str.ofString "") = []
      unfold normStep
      rw [if_pos (.inl rfl)]
    · have e : (rootOf (Str.ofString "/../" ++ J ((steps f n).take k))).2 = J (Str.ofString ".." :: (steps f n).take k) := tl_inj (by
        rw [h2, tl_J, List.map_cons, jl_cons (by simpa using hne), show tl (Str.ofString "..") = [46, 46] by decide]; rfl)
      rw [e, split_J (by simp) (by
        intro y hy
        rcases List.mem_cons.mp hy with rfl | hy
        · exact dots_clean
        · exact hcl y hy), List.foldl_cons, ns_root0]
  unfold normed
  rw [if_neg (by rw [tl_length, hx]; simp)]
  simp only [h1, hfold]
  rw [if_neg]
  rw [tl_length, tl_append, tl_slash]; simp
theorem jl_ne {c : Nat} {a : List Nat} {r : List (List Nat)} (ha : a ≠ []) : ∃ s, jl c (a :: r) = a ++ s := by
  cases r with
  | nil => exact ⟨[], by simp [jl]⟩
  | cons b r => exact ⟨c :: jl c (b :: r), rfl⟩
theorem stepOf_head (f : Nat → Nat) (i : Nat) : ∃ c r, tl (stepOf f i) = c :: r ∧ c ≠ 47 := by
  unfold stepOf
  split
  · exact ⟨97, List.replicate i 97, by rw [tl_nm, List.replicate_succ], by decide⟩
  · split
    · exact ⟨46, [46], by decide, by decide⟩
    · exact ⟨46, [], by decide, by decide⟩
theorem empty_app (x : Str) : Str.ofString "" ++ x = x := tl_inj (by rw [tl_append, tl_empty]; rfl)
theorem normed_rel {f : Nat → Nat} {n i j : Nat} (h : i + j ≤ n) : normed (J (((steps f n).drop i).take j)) =
    if (J (List.replicate (run f i j).1 (Str.ofString "..") ++ (run f i j).2.map nm)).length = 0 then Str.ofString "." else J (List.replicate (run f i j).1 (Str.ofString "..") ++ (run f i j).2.map nm) := by
  cases j with
  | zero =>
    rw [List.take_zero]
    show normed (J []) = if (J ([] : List Str)).length = 0 then _ else _
    rw [J_nil, if_pos (by decide)]
    unfold normed
    rw [if_pos (by decide)]
  | succ j =>
    have hg : ((steps f n).drop i).take (j + 1) = stepOf f i :: (((steps f n).drop i).take (j + 1)).tail := by
      have h0 : (((steps f n).drop i).take (j + 1))[0]? = some (stepOf f i) := by
        rw [List.getElem?_take, if_pos (by omega), List.getElem?_drop, steps_get (by omega)]; rfl
      generalize ((steps f n).drop i).take (j + 1) = l at h0
      cases l with
      | nil => cases h0
      | cons a l => rw [Option.some.inj h0]; rfl
    obtain ⟨c, r, hc, hc2⟩ := stepOf_head f i
    obtain ⟨s, hs⟩ := jl_ne (c := 47) (a := tl (stepOf f i)) (r := (((steps f n).drop i).take (j + 1)).tail.map tl) (by rw [hc]; simp)
    have hx : tl (J (((steps f n).drop i).take (j + 1))) = c :: (r ++ s) := by
      rw [tl_J, hg, List.map_cons, hs, hc]; rfl
    have hcl : Clean (((steps f n).drop i).take (j + 1)) := fun y hy => steps_clean f n y (List.drop_subset _ _ (List.take_subset _ _ hy))
    unfold normed
    rw [if_neg (by rw [tl_length, hx]; simp), root_rel hx hc2]
    simp only [split_J (ys := ((steps f n).drop i).take (j + 1)) (by rw [hg]; simp) hcl, norm_rel (f := f) (n := n) (i := i) (j + 1) h]
    rw [empty_app]
/-- which spans are plain -/
theorem plain_dot {cl op : List Nat} : (plainOf cl op == Str.ofString ".") = true ↔ cl = [] ∧ op = [] := by
  rw [beq_iff_eq]
  unfold plainOf
  constructor
  · intro h
    split at h
    · rename_i h0
      rw [tl_length] at h0
      have h0 := List.length_eq_zero_iff.mp h0
      change tl (J _) = [] at h0
      rw [tl_J] at h0
      cases cl with
      | cons a cl =>
        rw [List.length_cons, List.replicate_succ, List.cons_append, List.map_cons] at h0
        obtain ⟨s, hs⟩ := jl_ne (c := 47) (a := tl (Str.ofString "..")) (r := (List.replicate cl.length (Str.ofString "..") ++ op.map nm).map tl) (by decide)
        rw [hs, dots_eq] at h0; cases h0
      | nil =>
        cases op with
        | nil => exact ⟨rfl, rfl⟩
        | cons b op =>
          obtain ⟨s, hs⟩ := jl_ne (c := 47) (a := tl (nm b)) (r := (op.map nm).map tl) (by rw [tl_nm]; simp)
          change jl 47 (tl (nm b) :: (op.map nm).map tl) = [] at h0
          rw [hs, tl_nm, List.replicate_succ] at h0; cases h0
    · have h := congrArg tl h
      change tl (J _) = _ at h
      rw [tl_J] at h
      cases cl with
      | cons a cl =>
        rw [List.length_cons, List.replicate_succ, List.cons_append, List.map_cons] at h
        obtain ⟨s, hs⟩ := jl_ne (c := 47) (a := tl (Str.ofString "..")) (r := (List.replicate cl.length (Str.ofString "..") ++ op.map nm).map tl) (by decide)
        rw [hs, dots_eq, dot_eq] at h; cases h
      | nil =>
        cases op with
        | nil => exact ⟨rfl, rfl⟩
        | cons b op =>
          obtain ⟨s, hs⟩ := jl_ne (c := 47) (a := tl (nm b)) (r := (op.map nm).map tl) (by rw [tl_nm]; simp)
          change jl 47 (tl (nm b) :: (op.map nm).map tl) = _ at h
          rw [hs, tl_nm, List.replicate_succ, dot_eq] at h; cases h
  · rintro ⟨rfl, rfl⟩
    rw [if_pos]
    decide
end
section /- PL8 -/
theorem stk_len (f : Nat → Nat) : ∀ k, (stk f k).length ≤ k
  | 0 => Nat.le_refl _
  | k + 1 => by
    have := stk_len f k
    rw [stk]
    split
    · rw [List.length_append]; simp; omega
    · split
      · rw [List.length_dropLast]; omega
      · omega
theorem run_len (f : Nat → Nat) (i : Nat) : ∀ j, (run f i j).2.length ≤ j
  | 0 => Nat.le_refl _
  | j + 1 => by
    have := run_len f i j
    rw [run]
    split
    · rw [List.length_append]; simp; omega
    · split
      · split
        · exact Nat.zero_le _
        · rw [List.length_dropLast]; omega
      · omega
theorem rep_congr {c d : Nat → Nat} : ∀ {rs : List Nat}, (∀ i ∈ rs, c i = d i) → rep c rs = rep d rs
  | [], _ => rfl
  | i :: rs, h => by rw [rep_cons, rep_cons, h i (.head _), rep_congr fun j hj => h j (.tail _ hj)]
theorem pc_pos : ∀ k < 8, 1 ≤ (pc k).length := by decide
theorem law_facts {xs : List Int} (hxs : xs.length ≤ 11) : LawFacts (xs.foldl lawStep ([], [], 0)).1 (xs.foldl lawStep ([], [], 0)).2.1 := by
  obtain ⟨ks, h8, hv, e⟩ := law_kinds xs ⟨[], kinds_nil⟩
  obtain ⟨s1, s2, s3, s4⟩ := law_shape hxs
  rw [e] at s1 s2 s3 s4 ⊢
  dsimp only at s1 s2 s3 s4 ⊢
  have hn : ks.length ≤ 11 := by simpa using s1
  have hpl : (ks.map pc).length = ks.length := List.length_map ..
  have har : ∀ k, k ≤ ks.length → around (ks.map pc) (steps (kf ks) ks.length) k = stk (kf ks) k := fun k hk => around_eq h8 hv hk
  generalize hf : kf ks = f at *
  refine ⟨s1, s2, s3, s4, ?_, ?_, ?_, ?_, ?_, ?_⟩ <;> rw [hpl]
  · intro k hk
    rw [har k hk]; have := stk_len f k; omega
  · intro k hk x hx
    rw [har k hk] at hx
    have := stk_lt f k x hx; omega
  · intro k hk
    rw [har k hk, path_eq]
    exact normed_abs hv hk
  · intro k hk
    rw [har k hk, path_eq, Str.length_append]
    have hj := join_lenC (x := Str.ofString "/") (ys := (stk f k).map nm) (c := 12) fun y hy => by
      obtain ⟨i, hi, rfl⟩ := List.mem_map.mp hy
      have := stk_lt f k i hi
      rw [nm_length]; omega
    have h2 := stk_len f k
    have es : (Str.ofString "/").length = 1 := by decide
    rw [List.length_map, es] at hj
    rw [es]; show 1 + (Txt.join _ _).length ≤ 500
    omega
  · intro k hk
    rw [har k hk, path_eq, starts_iff, tl_append, tl_slash]; rfl
  · intro i j hij hj
    have hi : i ≤ ks.length := by omega
    have ej : i + (j - i) = j := by omega
    obtain ⟨r1, r2⟩ := run_stk f i ks.length hv (j - i) (by omega)
    have hnew := run_new f i (j - i)
    have hrl := run_len f i (j - i)
    have hbal := bal_iff f i (j - i)
    have hrel := normed_rel (f := f) (n := ks.length) (i := i) (j := j - i) (by omega)
    rw [ej] at r2 hnew
    generalize hrr : run f i (j - i) = r at *
    obtain ⟨c, op⟩ := r
    dsimp only at r1 r2 hnew hrl hbal hrel
    have hR1 : (stk f i).take ((stk f i).length - c) ++ (stk f i).drop ((stk f i).length - c) = stk f i := List.take_append_drop ..
    have hcl : ((stk f i).drop ((stk f i).length - c)).length = c := by rw [List.length_drop]; omega
    have hsi := stk_sorted f i
    have hsj := stk_sorted f j
    have hli := stk_lt f i
    have hlj := stk_lt f j
    have hleni := stk_len f i
    rw [← hR1] at hsi hli
    rw [r2] at hsj hlj
    have hCl : ((stk f i).take ((stk f i).length - c)).length ≤ 11 := by rw [List.length_take]; omega
    have hc11 : c ≤ 11 := by omega
    generalize (stk f i).take ((stk f i).length - c) = C at *
    generalize (stk f i).drop ((stk f i).length - c) = cl at *
    have hmcl : ∀ x ∈ cl, x < i := fun x hx => hli x (List.mem_append_right _ hx)
    have hclop : ∀ a ∈ cl, ∀ b ∈ op, a < b := fun a ha b hb => by
      have h1 := hmcl a ha; have h2 := hnew b hb; omega
    have hall : ∀ x ∈ C ++ cl ++ op, x < ks.length := fun x hx => by
      rcases List.mem_append.mp hx with hx | hx
      · have := hli x hx; omega
      · have := hnew x hx; omega
    have hsg : ∀ (rs : List Nat) (t : Nat), 1 ≤ t → (∀ x ∈ rs, x < ks.length) → nz (signs (ks.map pc) rs t) = rep (fun m => max 1 (((ks.map pc).getD m Str.empty).length * t)) rs := fun rs t ht hrs => by
      unfold nz
      rw [signs_eq]
      refine rep_congr fun m hm => ?_
      have hml := hrs m hm
      have : 1 ≤ ((ks.map pc).getD m Str.empty).length := by
        rw [List.getD_eq_getElem?_getD, List.getElem?_map, List.getElem?_eq_getElem hml]
        exact pc_pos _ (h8 _ (List.getElem_mem hml))
      have := Nat.mul_le_mul this ht
      omega
    have hC1 : ∀ x ∈ C ++ cl, x < ks.length := fun x hx => hall x (List.mem_append_left _ hx)
    have hC2 : ∀ x ∈ C ++ op, x < ks.length := fun x hx => hall x (by
      rcases List.mem_append.mp hx with hx | hx
      · simp [hx]
      · simp [hx])
    have h1s : ∀ (t m : Nat), 1 ≤ (fun m => max 1 (((ks.map pc).getD m Str.empty).length * t)) m := fun t m => Nat.le_max_left _ _
    refine ⟨cl, op, C.map nm, cl.map nm, op.map nm, ?_⟩
    exact {
      lcl := by omega
      lop := by omega
      mcl := fun x hx => by rw [hpl]; exact hC1 x (List.mem_append_right _ hx)
      mop := fun x hx => by rw [hpl]; exact hC2 x (List.mem_append_right _ hx)
      first := by
        rw [har i hi, har j hj, r2, ← hR1, hpl, hsg _ 1 (by decide) hC1, hsg _ 2 (by decide) hC2]
        exact sld_first (h1s 1) (h1s 2) hsi hsj hclop hall (Nat.lt_succ_self _)
      told := by
        rw [har i hi, har j hj, r2, ← hR1, hsg _ 1 (by decide) hC1, hsg _ 1 (by decide) hC2, hsg op 1 (by decide) (fun x hx => hC2 x (List.mem_append_right _ hx)), hsg cl 1 (by decide) (fun x hx => hC1 x (List.mem_append_right _ hx))]
        exact sld_told (h1s 1) hsi hsj hclop (Nat.lt_succ_self _)
      plain := by
        rw [hrel, ← hcl]; rfl
      cx := by rw [har i hi, path_eq, ← hR1, comps_names, List.map_append]
      cy := by rw [har j hj, path_eq, r2, comps_names, List.map_append]
      cPQ := fun p q hp hq e => by
        rw [List.getElem?_map] at hp hq
        obtain ⟨a, ha, rfl⟩ := Option.map_eq_some_iff.mp hp
        obtain ⟨b, hb, rfl⟩ := Option.map_eq_some_iff.mp hq
        have := hclop a (List.mem_of_getElem? ha) b (List.mem_of_getElem? hb)
        have := nm_inj e
        omega
      cl3 := by simp only [List.length_append, List.length_map]; omega
      shl := by
        rw [Str.length_append]
        have hjn := join_lenC (x := Str.ofString "/") (ys := C.map nm) (c := 12) fun y hy => by
          obtain ⟨m, hm, rfl⟩ := List.mem_map.mp hy
          have := hC1 m (List.mem_append_left _ hm)
          rw [nm_length]; omega
        have es : (Str.ofString "/").length = 1 := by decide
        rw [List.length_map, es] at hjn
        rw [es]; omega
      back := by rw [har i hi, path_eq, ← hR1]; exact js_fold cl C
      taken := by
        have e1 : (((ks.map pc).drop i).take (j - i)) = ((List.range (j - i)).map fun t => f (i + t)).map pc := by
          rw [← List.map_drop, ← List.map_take, take_drop (by omega), hf]
        have hb : ∀ k ∈ (List.range (j - i)).map fun t => f (i + t), k < 8 := fun k hk => by
          rw [← hf, ← take_drop (show i + (j - i) ≤ ks.length by omega)] at hk
          exact h8 k (List.drop_subset _ _ (List.take_subset _ _ hk))
        rw [e1, checked_txt _ hb, Bool.eq_iff_iff, hbal, plain_dot]
        constructor
        · intro h
          injection h with h1 h2
          exact ⟨List.length_eq_zero_iff.mp (by omega), h2⟩
        · rintro ⟨h1, h2⟩
          rw [h2, ← hcl, h1]; rfl }
end
end Mine
theorem PySem.Challenge.cw_ik0197_01_holds : PySem.Challenge.rw_ik0197_01.Holds :=
  Mine.law_walk fun _ h => Mine.law_facts h
