import PyProof.Rows.All
import Wide.All
import OpenK.AllK
import Wide.FinOn
import PySem.Challenge.RW_ij0086_01
open PySem PySem.W PyProof.Rows
set_option Elab.async false
set_option linter.unusedVariables false
set_option linter.unusedSimpArgs false
namespace Mine
set_option maxRecDepth 100000
set_option maxHeartbeats 8000000
/-- the law's text without the statements that it does not reach -/
noncomputable def view : Program := { PySem.Challenge.pw_ij0086_01 with main := { PySem.Challenge.pw_ij0086_01.main with
  body := [0, 2, 3, 4, 5, 7, 9, 10, 11, 12, 14, 15, 17, 18, 19, 20, 21, 22, 23, 24, 25, 26, 27, 28, 29, 30, 31, 32, 33, 34, 35, 36, 37, 38, 40, 41, 42, 43, 44, 45].filterMap fun i => PySem.Challenge.pw_ij0086_01.main.body[i]? } }
noncomputable abbrev looseN : List Str := [Str.ofString "islice", Str.ofString "filterfalse", Str.ofString "_filemode_table"]
noncomputable def pw (i c : Nat) : WData := .tuple [.int i, .str ⟨#[c]⟩]
noncomputable def readN : List (Str × WData) := [(Str.ofString "_filemode_table", .tuple [.tuple [pw 40960 108, pw 49152 115, pw 32768 45, pw 24576 98, pw 16384 100, pw 8192 99, pw 4096 112], .tuple [pw 256 114], .tuple [pw 128 119], .tuple [pw 2112 115, pw 2048 83, pw 64 120], .tuple [pw 32 114], .tuple [pw 16 119], .tuple [pw 1032 115, pw 1024 83, pw 8 120], .tuple [pw 4 114], .tuple [pw 2 119], .tuple [pw 513 116, pw 512 84, pw 1 120]])]
/-- what is asked of the state besides the defs -/
noncomputable def seenX (s : Shared) : Bool := xlAt view readN s && recOk (RowW.records PySem.Challenge.rw_ij0086_01.row.toRowW) s
noncomputable abbrev PW := PySem.Challenge.pw_ij0086_01
/-- the start, as the library keeps it -/
noncomputable abbrev s0 (w : World) (os : OsState) : Shared := ⟨boot_heap w.params, Array.mk [], boot_drawn, boot_toks, os⟩
theorem booted (w : World) : ∃ os, fencedOpening treeTable PW w 3290 = some (s0 w os) := by
  have e : opening PW = plainProg PW.main.scope.names := by kernel_rfl
  have f : ∀ s, fenceModules? PW s = some s := by intro s; kernel_rfl
  obtain ⟨s, hs, hv⟩ := Option.map_eq_some_iff.mp (boot_open (p := PW) (N := 3290) e (by decide) f w)
  obtain ⟨h, g, d, t, os⟩ := s
  simp only [Prod.mk.injEq] at hv
  obtain ⟨rfl, rfl, rfl, rfl⟩ := hv
  exact ⟨os, hs⟩
theorem left_of {α : Type} {Yf : Shared → α} {Ya : World → α}
    (h1 : ∀ (w : World) (os : OsState), (topFrom treeTable PW w 3290 (s0 w os)).map (fun s => openSeen view looseN (importedModules PW.main.body) seenX true s) = some (openGood view looseN))
    (h2 : ∀ (w : World) (os : OsState), (topFrom treeTable PW w 3290 (s0 w os)).map Yf = some (Ya w)) : LeftO PW view looseN seenX Yf Ya 3290 := by
  intro w
  obtain ⟨os, ho⟩ := booted w
  obtain ⟨s, hs, e1⟩ := Option.map_eq_some_iff.mp (h1 w os)
  obtain ⟨s', hs', e2⟩ := Option.map_eq_some_iff.mp (h2 w os)
  rw [hs] at hs'
  cases hs'
  unfold openEnds
  rw [ho, Option.bind_some, hs, Option.map_some, e1, e2]
theorem seen_ok : ∀ (w : World) (os : OsState), (topFrom treeTable PW w 3290 (s0 w os)).map (fun s => openSeen view looseN (importedModules PW.main.body) seenX true s) = some (openGood view looseN) := by
  intro w os; kernel_rfl
local macro_rules | `(tactic| o_head $H:term) => `(tactic| (
  refine W.holds_open (q := view) (loose := looseN) (Xt := seenX) (XP := XL view readN) (Yf := Hook.obs $H) (Ya := Hook.val $H) (YP := Hook.says $H) (N := 3290) ?hl (Hook.of $H) (Hook.keeps $H)
    (fun s e => xl_of s (Bool.and_eq_true_iff.mp e).1) XL.keeps (by rfl) (by rfl) (by rfl) (fun s e => recFacts_of (Bool.and_eq_true_iff.mp e).2) (by rfl) (by first | assumption | decide +kernel) (by decide +kernel) ⟨rfl, rfl, rfl, rfl, rfl, by decide +kernel⟩ ?hw ?hc
  case hl => (refine left_of seen_ok ?hy; intro w os; kernel_rfl)))
open_top hd for PySem.Challenge.rw_ij0086_01

end Mine
namespace Mine
noncomputable abbrev PG := PySem.Challenge.rw_ij0086_01.row.prog
/-- all that stood stands -/
noncomputable abbrev Ext (h h' : Heap) : Prop := ∀ b o, h.get? b = some o → h'.get? b = some o
theorem Ext.refl (h : Heap) : Ext h h := fun _ _ e => e
theorem Ext.trans {h₁ h₂ h₃ : Heap} (a : Ext h₁ h₂) (b : Ext h₂ h₃) : Ext h₁ h₃ := fun x o e => b x o (a x o e)
/-- what stands at every heap of the call -/
structure Wd (w : World) (mg mb : Str → Option Value) (h : Heap) : Prop where
  X : (hd.heap_39 w.params).In h
  T : TopRead view (looseW view [Str.ofString "islice", Str.ofString "filterfalse", Str.ofString "_filemode_table"]) mg mb h
theorem Wd.keeps {w mg mb h h'} (W : Wd w mg mb h) (k : Ext h h') : Wd w mg mb h' :=
  ⟨W.X.keeps k, W.T.keeps k⟩

section
variable {prog : Program} {w : World} {A : Around} {E : Value → Shared → Prop} {h : Heap} {g : Array GenState} {d : Drawn} {t : Nat} {os : OsState} {Q : Value → Shared → Prop}
theorem enter {mg mb : Str → Option Value} {name qual : Str} {params : Arguments} {body : List Stmt} {scope : Scope} {dV kV doc pm cdv ct oc : Value} {an od : Option Addr} {osl : Array (Option Value)} {f : Addr} {args : List Value} {binds : List (Str × Value)}
    (W : Wd w mg mb h)
    (ho : (hd.heap_39 w.params).lookup f = some ⟨oc, od, .func (fnOf name qual params body scope dV kV doc pm an cdv ct), osl⟩) (hcd : codeIn (hd.heap_39 w.params) cdv qual = true) (hroom : A.depth < 900)
    (hbind : bindArgs (fnOf name qual params body scope dV kV doc pm an cdv ct) ⟨args, []⟩ = pure binds) (hloc : ∀ y ∈ binds, scope.names.lookup y.1 = some .local)
    (x : ∀ h₁ t₁, Fr h h.objs.size h₁ (fun y => binds.reverse.lookup y) →
      wpAny (model PG w) (A.deeper (envOf qual scope h.objs.size f cdv)) (execs body (envOf qual scope h.objs.size f cdv))
        (fun fl s' => Q (match fl with | .ret v => v | _ => .none) s') (fun _ _ => False)
        ⟨h₁, g, d, t₁, os⟩)
    (hco : scope.isCoroutine = false) (hgen : scope.isGenerator = false) (hk : scope.kind = .function)
    (hcell : ∀ x ∈ scope.names, x.2 ≠ .cell) : wpAny (model PG w) A (call (.ref f) args) Q E ⟨h, g, d, t, os⟩ := by
  refine wpAny_call (codeAny_call_def (fd := fnOf name qual params body scope dV kV doc pm an cdv ct) (body := body) (binds := binds) (show _ < 1000 by omega) (W.X _ _ ho) rfl W.T.nolimit (codeRec_of W.X hcd) rfl (.of_eq hbind) hcell hloc (fun h₁ hns hk₁ => ?_) hco hgen hk)
  exact wpAny_mono (x h₁ _ ⟨hns, hk₁, Nat.le_refl _⟩) (fun _ _ x => x) (fun _ _ x => x.elim)

variable {a b : Int} {u v : Tok}
theorem e_int {env : Env} {i : Int} {k : Nat} {pos : Pos} (x : Q (.int i t) ⟨h, g, d, t + 1, os⟩) : wpAny (model prog w) A (eval (.Constant (.int i) k pos) env) Q E ⟨h, g, d, t, os⟩ := wpAny_Constant_int x
theorem e_add (x : Q (.int (a + b) t) ⟨h, g, d, t + 1, os⟩) : wpAny (model prog w) A (binaryOp .Add (.int a u) (.int b v)) Q E ⟨h, g, d, t, os⟩ := add_int x
theorem e_sub (x : Q (.int (a - b) t) ⟨h, g, d, t + 1, os⟩) : wpAny (model prog w) A (binaryOp .Sub (.int a u) (.int b v)) Q E ⟨h, g, d, t, os⟩ := sub_int x
theorem e_mod (hb : 0 < b) (x : Q (.int (a % b) t) ⟨h, g, d, t + 1, os⟩) : wpAny (model prog w) A (binaryOp .Mod (.int a u) (.int b v)) Q E ⟨h, g, d, t, os⟩ :=
  mod_int' (Int.ne_of_gt hb) (by rw [Int.fmod_eq_emod_of_nonneg _ (Int.le_of_lt hb)]; exact x)
theorem e_div (hb : 0 < b) (hb2 : b < 1000000) (x : Q (.int (a / b) t) ⟨h, g, d, t + 1, os⟩) : wpAny (model prog w) A (binaryOp .FloorDiv (.int a u) (.int b v)) Q E ⟨h, g, d, t, os⟩ :=
  floordiv_int (Int.ne_of_gt hb) (by rw [Int.fdiv_eq_ediv_of_nonneg _ (Int.le_of_lt hb)]; exact x) (Or.inl (PyProof.noPylong_small (by omega)))
theorem e_pow (hb : 0 ≤ b) (hb2 : b < 100) (ha : a.natAbs < 100) (x : Q (.int (a ^ b.toNat) t) ⟨h, g, d, t + 1, os⟩) : wpAny (model prog w) A (binaryOp .Pow (.int a u) (.int b v)) Q E ⟨h, g, d, t, os⟩ :=
  pow_int_small hb (by omega) (by omega) x
theorem e_xor (x : Q (.int (Builtin.bitXor a b) t) ⟨h, g, d, t + 1, os⟩) : wpAny (model prog w) A (binaryOp .BitXor (.int a u) (.int b v)) Q E ⟨h, g, d, t, os⟩ := xor_int x
theorem e_and (x : Q (.int (Builtin.bitAnd a b) t) ⟨h, g, d, t + 1, os⟩) : wpAny (model prog w) A (binaryOp .BitAnd (.int a u) (.int b v)) Q E ⟨h, g, d, t, os⟩ := and_int x

theorem sub_list {s : Shared} {value slice : PySem.Expr} {l : Addr} {items : Array Value} {k : Int} {u : Tok} {v : Value}
    (hl : s.heap.IsList l items) (h0 : 0 ≤ k) (hhi : k < 1000) (hx : items[k.toNat]? = some v) (h : Q v s)
    (hs : subscripted slice false (.ref l) (.int k u) = operate [.ref l, .int k u] (getItem (.ref l) (.int k u)) := by with_unfolding_all rfl) :
    wpAny (model prog w) A (subscriptTail value slice (.ref l) (.int k u)) Q E s :=
  tail_any hl.typeIs slot_list_getitem.lookup (wpAny_getItem_list hl h0 (by omega) hx h) hs
theorem sub_tup {s : Shared} {value slice : PySem.Expr} {l : Addr} {items : Array Value} {k : Int} {u : Tok} {v : Value}
    (hl : IsTup s.heap l items) (h0 : 0 ≤ k) (hhi : k < 1000) (hx : items[k.toNat]? = some v) (h : Q v s)
    (hs : subscripted slice false (.ref l) (.int k u) = operate [.ref l, .int k u] (getItem (.ref l) (.int k u)) := by with_unfolding_all rfl) :
    wpAny (model prog w) A (subscriptTail value slice (.ref l) (.int k u)) Q E s := by
  refine tail_any hl.typeIs slot_tuple_getitem.lookup (getItem_tuple (j := k.toNat) hl (by omega) (by omega) (seqIndex_of h0 ?_) hx h) hs
  obtain ⟨hlt, _⟩ := Array.getElem?_eq_some_iff.mp hx
  omega
end
/-- a member as the heap bears it -/
noncomputable def MemIs (h : Heap) (v : Value) (m : Int × Str × Int) : Prop :=
  ∃ T t1 t2 t3, v = .ref T ∧ IsTup h T #[.int m.1 t1, .str m.2.1 t2, .int m.2.2 t3]
theorem MemIs.keeps {h h' v m} (x : MemIs h v m) (k : Ext h h') : MemIs h' v m := by
  obtain ⟨T, t1, t2, t3, e, y⟩ := x
  exact ⟨T, t1, t2, t3, e, y.keeps k⟩
/-- the members' list -/
noncomputable def MemL (h : Heap) (v : Value) (ms : List (Int × Str × Int)) : Prop :=
  ∃ l items, v = .ref l ∧ h.IsList l items ∧ items.size = ms.length ∧ ∀ (i : Nat) (m : Int × Str × Int), ms[i]? = some m → ∃ v, items[i]? = some v ∧ MemIs h v m
theorem isL_ext {h h' : Heap} {l : Addr} {items : Array Value} (y : h.IsList l items) (k : Ext h h') : h'.IsList l items := let ⟨o, ho, r⟩ := y; ⟨o, k _ _ ho, r⟩
theorem MemL.keeps {h h' v ms} (x : MemL h v ms) (k : Ext h h') : MemL h' v ms := by
  obtain ⟨l, items, e, y, hs, z⟩ := x
  exact ⟨l, items, e, isL_ext y k, hs, fun i m hm => let ⟨v, a, b⟩ := z i m hm; ⟨v, a, b.keeps k⟩⟩
/-- data, as the heap may bear it -/
inductive D where
  | int (i : Int)
  | str (s : Str)
  | bool (b : Bool)
  | list (l : List D)
  | tup (l : List D)
  | rng (n : Nat)
mutual
/-- the heap bears the datum at the value; every object met lies where P says -/
noncomputable def Is (P : Addr → Prop) (h : Heap) : D → Value → Prop
  | .int i, v => ∃ t, v = .int i t
  | .str s, v => ∃ t, v = .str s t
  | .bool b, v => v = .bool b
  | .list l, v => ∃ a vs n, v = .ref a ∧ P a ∧ h.get? a = some { cls := .type "list", data := .seq vs.toArray n } ∧ IsAll P h l vs
  | .tup l, v => ∃ a vs n, v = .ref a ∧ P a ∧ h.get? a = some { cls := .type "tuple", data := .seq vs.toArray n } ∧ IsAll P h l vs
  | .rng n, v => ∃ a t u k, v = .ref a ∧ P a ∧ IsRange h a 0 n 1 t u k
noncomputable def IsAll (P : Addr → Prop) (h : Heap) : List D → List Value → Prop
  | [], vs => vs = []
  | d :: ds, vs => ∃ v r, vs = v :: r ∧ Is P h d v ∧ IsAll P h ds r
end
/-- the object stands; only a dict's slots may have turned (a frame's) -/
noncomputable def UpR (h' : Heap) (b : Addr) (o : Obj) : Prop := (∃ sl, h'.get? b = some { o with slots := sl }) ∧ ((∀ es ep, o.data ≠ .dict es ep) → h'.get? b = some o)
theorem upr {h' : Heap} {b : Addr} {o : Obj} (e : h'.get? b = some o) : UpR h' b o := ⟨⟨o.slots, e⟩, fun _ => e⟩
noncomputable abbrev UpAt (h h' : Heap) (b : Addr) : Prop := ∀ o, h.get? b = some o → UpR h' b o
noncomputable abbrev Up (h h' : Heap) : Prop := ∀ b, UpAt h h' b
theorem Ext.up {h h' : Heap} (k : Ext h h') : Up h h' := fun b o e => upr (k b o e)
theorem UpAt.trans {h₁ h₂ h₃ : Heap} {b : Addr} (x : UpAt h₁ h₂ b) (y : UpAt h₂ h₃ b) : UpAt h₁ h₃ b := fun o e => by
  obtain ⟨⟨sl, e1⟩, x2⟩ := x o e
  obtain ⟨⟨sl2, e2⟩, _⟩ := y _ e1
  exact ⟨⟨sl2, e2⟩, fun hd => (y o (x2 hd)).2 hd⟩
theorem Up.trans {h₁ h₂ h₃ : Heap} (a : Up h₁ h₂) (b : Up h₂ h₃) : Up h₁ h₃ := fun x => (a x).trans (b x)
theorem isL_up {h h' : Heap} {a : Addr} {items : Array Value} (x : h.IsList a items) (k : UpAt h h' a) : h'.IsList a items := by
  obtain ⟨o, ho, hc, n, hd⟩ := x
  obtain ⟨⟨sl, e⟩, _⟩ := k o ho
  exact ⟨_, e, hc, n, hd⟩
theorem isT_up {h h' : Heap} {a : Addr} {items : Array Value} (x : IsTup h a items) (k : UpAt h h' a) : IsTup h' a items := by
  obtain ⟨o, ho, hc, n, hd⟩ := x
  obtain ⟨⟨sl, e⟩, _⟩ := k o ho
  exact ⟨_, e, hc, n, hd⟩
theorem ns_up {h h' : Heap} {a : Addr} {m : Str → Option Value} (x : h.Ns a m) (k : UpAt h h' a) : h'.Ns a m := by
  obtain ⟨o, es, ep, ho, hd, r⟩ := x
  obtain ⟨⟨sl, e⟩, _⟩ := k o ho
  exact ⟨_, es, ep, e, hd, r⟩
theorem cell_up {h h' : Heap} {a : Addr} {v : Option Value} (x : h.IsCell a v) (k : UpAt h h' a) : h'.IsCell a v := by
  obtain ⟨o, ho, hd⟩ := x
  obtain ⟨⟨sl, e⟩, _⟩ := k o ho
  exact ⟨_, e, hd⟩
mutual
theorem Is.up {P P' : Addr → Prop} {h h' : Heap} (hP : ∀ a, P a → P' a) (k : ∀ a, P a → UpAt h h' a) : ∀ {d : D} {v : Value}, Is P h d v → Is P' h' d v
  | .int _, _, x => x
  | .str _, _, x => x
  | .bool _, _, x => x
  | .list l, v, x => by
    simp only [Is] at x ⊢
    obtain ⟨a, vs, n, e, p, hl, y⟩ := x
    exact ⟨a, vs, n, e, hP _ p, (k a p _ hl).2 (fun _ _ q => by cases q), IsAll.up hP k y⟩
  | .tup l, v, x => by
    simp only [Is] at x ⊢
    obtain ⟨a, vs, n, e, p, hl, y⟩ := x
    exact ⟨a, vs, n, e, hP _ p, (k a p _ hl).2 (fun _ _ q => by cases q), IsAll.up hP k y⟩
  | .rng _, v, x => by
    simp only [Is] at x ⊢
    obtain ⟨a, t, u, n, e, p, hl⟩ := x
    exact ⟨a, t, u, n, e, hP _ p, (k a p _ hl).2 (fun _ _ q => by cases q)⟩
theorem IsAll.up {P P' : Addr → Prop} {h h' : Heap} (hP : ∀ a, P a → P' a) (k : ∀ a, P a → UpAt h h' a) : ∀ {ds : List D} {vs : List Value}, IsAll P h ds vs → IsAll P' h' ds vs
  | [], _, x => x
  | d :: ds, vs, x => by
    simp only [IsAll] at x ⊢
    obtain ⟨v, r, e, y, z⟩ := x
    exact ⟨v, r, e, Is.up hP k y, IsAll.up hP k z⟩
end
/-- no bound on where the objects lie -/
noncomputable abbrev Any : Addr → Prop := fun _ => True
/-- the objects are new beside h -/
noncomputable abbrev New (h : Heap) : Addr → Prop := fun a => h.get? a = none
theorem Is.ups {h h' : Heap} (k : Up h h') {d : D} {v : Value} (x : Is Any h d v) : Is Any h' d v := x.up (fun _ p => p) fun a _ => k a
theorem Is.any {P : Addr → Prop} {h : Heap} {d : D} {v : Value} (x : Is P h d v) : Is Any h d v := x.up (fun _ _ => trivial) fun _ _ o e => upr e
theorem Is.weaken {P P' : Addr → Prop} {h : Heap} {d : D} {v : Value} (x : Is P h d v) (hP : ∀ a, P a → P' a) : Is P' h d v := x.up hP fun _ _ o e => upr e
theorem IsAll.weaken {P P' : Addr → Prop} {h : Heap} {d : List D} {v : List Value} (x : IsAll P h d v) (hP : ∀ a, P a → P' a) : IsAll P' h d v := x.up hP fun _ _ o e => upr e
theorem IsAll.length {P : Addr → Prop} {h : Heap} : ∀ {ds : List D} {vs : List Value}, IsAll P h ds vs → vs.length = ds.length
  | [], _, x => by simp only [IsAll] at x; subst x; rfl
  | d :: ds, vs, x => by
    simp only [IsAll] at x
    obtain ⟨v, r, rfl, _, z⟩ := x
    rw [List.length_cons, List.length_cons, z.length]
theorem IsAll.get {P : Addr → Prop} {h : Heap} : ∀ {ds : List D} {vs : List Value}, IsAll P h ds vs → ∀ (i : Nat) (d : D), ds[i]? = some d → ∃ v, vs[i]? = some v ∧ Is P h d v
  | [], _, _, i, d, e => by simp at e
  | d' :: ds, vs, x, i, d, e => by
    simp only [IsAll] at x
    obtain ⟨v, r, rfl, y, z⟩ := x
    cases i with
    | zero => simp at e; subst e; exact ⟨v, by simp, y⟩
    | succ i => simp at e; obtain ⟨v', a, b⟩ := z.get i d e; exact ⟨v', by simpa using a, b⟩
theorem IsAll.get' {P : Addr → Prop} {h : Heap} : ∀ {ds : List D} {vs : List Value}, IsAll P h ds vs → ∀ (i : Nat) (v : Value), vs[i]? = some v → ∃ d, ds[i]? = some d ∧ Is P h d v
  | [], _, x, i, d, e => by simp only [IsAll] at x; subst x; simp at e
  | d' :: ds, vs, x, i, v, e => by
    simp only [IsAll] at x
    obtain ⟨v', r, rfl, y, z⟩ := x
    cases i with
    | zero => simp at e; subst e; exact ⟨d', by simp, y⟩
    | succ i => simp at e; obtain ⟨v', a, b⟩ := z.get' i v e; exact ⟨v', by simpa using a, b⟩
theorem IsAll.append {P : Addr → Prop} {h : Heap} : ∀ {ds ds' : List D} {vs vs' : List Value}, IsAll P h ds vs → IsAll P h ds' vs' → IsAll P h (ds ++ ds') (vs ++ vs')
  | [], _, _, _, x, y => by simp only [IsAll] at x; subst x; exact y
  | d :: ds, _, vs, _, x, y => by
    simp only [IsAll] at x
    obtain ⟨v, r, rfl, x1, x2⟩ := x
    simp only [List.cons_append, IsAll]
    exact ⟨v, _, rfl, x1, x2.append y⟩
theorem IsAll.one {P : Addr → Prop} {h : Heap} {d : D} {v : Value} (x : Is P h d v) : IsAll P h [d] [v] := by
  simp only [IsAll]; exact ⟨v, [], rfl, x, rfl⟩
theorem IsAll.nil {P : Addr → Prop} {h : Heap} : IsAll P h [] [] := by simp only [IsAll]

/-- what a call may turn: only the slots of the frames fs -/
structure Stays (fs : List Addr) (h h' : Heap) : Prop where
  ex : ∀ b o, b ∉ fs → h.get? b = some o → h'.get? b = some o
  up : Up h h'
theorem Stays.refl (fs : List Addr) (h : Heap) : Stays fs h h := ⟨fun _ _ _ e => e, fun _ o e => upr e⟩
theorem Stays.trans {fs : List Addr} {h₁ h₂ h₃ : Heap} (a : Stays fs h₁ h₂) (b : Stays fs h₂ h₃) : Stays fs h₁ h₃ :=
  ⟨fun x o hx e => b.ex x o hx (a.ex x o hx e), a.up.trans b.up⟩
theorem Ext.stays {fs : List Addr} {h h' : Heap} (k : Ext h h') : Stays fs h h' := ⟨fun b o _ e => k b o e, k.up⟩
theorem Stays.mono {fs fs' : List Addr} {h h' : Heap} (k : Stays fs h h') (hs : ∀ b, b ∈ fs → b ∈ fs') : Stays fs' h h' := ⟨fun b o hb e => k.ex b o (fun x => hb (hs b x)) e, k.up⟩
/-- a heap g stands below, none of the frames in it -/
theorem Stays.ext {fs : List Addr} {g h h' : Heap} (k : Stays fs h h') (hg : Ext g h) (hf : ∀ b ∈ fs, g.get? b = none) : Ext g h' := fun b o e =>
  k.ex b o (fun hb => by rw [hf b hb] at e; cases e) (hg b o e)
/-- the generators' states stay bare -/
noncomputable abbrev GK (g g' : Array GenState) : Prop := AllBare g → AllBare g'
/-- but for ex (and the frames' slots) all stands -/
structure SX (ex fs : List Addr) (h h' : Heap) : Prop where
  keep : ∀ b o, b ∉ ex → b ∉ fs → h.get? b = some o → h'.get? b = some o
  up : ∀ b, b ∉ ex → UpAt h h' b
theorem SX.refl (ex fs : List Addr) (h : Heap) : SX ex fs h h := ⟨fun _ _ _ _ e => e, fun _ _ o e => upr e⟩
theorem SX.trans {ex fs : List Addr} {h₁ h₂ h₃ : Heap} (a : SX ex fs h₁ h₂) (b : SX ex fs h₂ h₃) : SX ex fs h₁ h₃ :=
  ⟨fun x o h1 h2 e => b.keep x o h1 h2 (a.keep x o h1 h2 e), fun x hx => (a.up x hx).trans (b.up x hx)⟩
theorem Stays.sx {ex fs : List Addr} {h h' : Heap} (k : Stays fs h h') : SX ex fs h h' := ⟨fun b o _ h2 e => k.ex b o h2 e, fun b _ => k.up b⟩
theorem SX.of_sameBut {ex fs : List Addr} {h h' : Heap} {a : Addr} (k : Heap.SameBut a h h') (ha : a ∈ ex) : SX ex fs h h' :=
  ⟨fun b o h1 _ e => k.extBut b o (fun q => h1 (q ▸ ha)) e, fun b h1 o e => upr (k.extBut b o (fun q => h1 (q ▸ ha)) e)⟩
theorem SX.of_but {ex fs : List Addr} {h h' : Heap} (k : ∀ b o, b ∉ ex → h.get? b = some o → h'.get? b = some o) : SX ex fs h h' :=
  ⟨fun b o h1 _ e => k b o h1 e, fun b h1 o e => upr (k b o h1 e)⟩
theorem SX.mono {ex ex' fs : List Addr} {h h' : Heap} (k : SX ex fs h h') (hs : ∀ b, b ∈ ex → b ∈ ex') : SX ex' fs h h' :=
  ⟨fun b o h1 h2 e => k.keep b o (fun q => h1 (hs b q)) h2 e, fun b h1 => k.up b fun q => h1 (hs b q)⟩
theorem get_none_or (h : Heap) (a : Addr) : h.get? a = none ∨ ∃ o, h.get? a = some o := by
  cases h.get? a with
  | none => exact .inl rfl
  | some o => exact .inr ⟨o, rfl⟩

noncomputable abbrev ifsTree (ifs : List Expr) (cenv : Env) : Sem Bool :=
  forIn ifs true fun c r => if r = true then do let ok ← isTrue c cenv (eval c cenv); pure (ForInStep.yield ok) else pure (ForInStep.yield r)

section
variable {prog : Program} {w : World} {A : Around} {R : Result → Shared → Prop} {h : Heap} {g : Array GenState} {d : Drawn} {t : Nat} {os : OsState}

theorem comp_loop {elt iter : Expr} {x : Str} {px : Pos} {ifs : List Expr} {scope : Scope} {pos : Pos} {I Dd C : Addr} {fp wr fs : List Addr} {n : Nat} {P : Nat → Value → Prop}
    {St : Nat → Heap → Prop} {cenv : Env} {m : Str → Option Value} (W : Walks prog w A I fp wr n P St) (p : Nat → Bool) (f : Nat → D) (hC : cenv.locals = C)
    (hlive : ∀ i h, St i h → ∀ b ∈ wr, ∃ o, h.get? b = some o)
    (hx : cenv.kindOf x = some .local) (hp : (cenv.scope.kind == .class || (cenv.scope.kind == .module && cenv.locals != cenv.globals)) = false)
    (hDC : Dd ≠ C) (hDf : Dd ∉ fp) (hCf : C ∉ fp) (hDs : Dd ∉ fs) (hCs : C ∉ fs) (hfs : ∀ b ∈ fp, b ∉ fs)
    (hst : St 0 h) (hacc : h.PlainList Dd #[]) (hn : h.Ns C m) (hsz : n ≤ sizeLine)
    (htests : ∀ i v h₂ g₂ t₂ m₂, i < n → P i v → SX (C :: Dd :: wr) fs h h₂ → GK g g₂ → h₂.Ns C m₂ → m₂ x = some v →
      wpAny (model prog w) A (ifsTree ifs cenv) (fun ok s₃ => ok = p i ∧ ∃ h₃ g₃ t₃, s₃ = ⟨h₃, g₃, d, t₃, os⟩ ∧ Stays fs h₂ h₃ ∧ GK g₂ g₃) (fun _ _ => False) ⟨h₂, g₂, d, t₂, os⟩)
    (helt : ∀ i v h₂ g₂ t₂ m₂, i < n → P i v → p i = true → SX (C :: Dd :: wr) fs h h₂ → GK g g₂ → h₂.Ns C m₂ → m₂ x = some v →
      wpAny (model prog w) A (eval elt cenv) (fun y s₃ => ∃ h₃ g₃ t₃, s₃ = ⟨h₃, g₃, d, t₃, os⟩ ∧ Stays fs h₂ h₃ ∧ GK g₂ g₃ ∧ Is (New h₂) h₃ (f i) y) (fun _ _ => False) ⟨h₂, g₂, d, t₂, os⟩)
    (hR : ∀ h' g' t' m' ys, SX (C :: Dd :: wr) fs h h' → GK g g' → h'.Ns C m' → h'.PlainList Dd ys →
      IsAll (fun a => h.get? a = none ∧ a ∉ C :: Dd :: wr) h' (((List.range n).filter p).map f) ys.toList → R (.ok .next) ⟨h', g', d, t', os⟩) :
    codeAny (model prog w) A (.compLoop (.ListComp elt [⟨.Name x px, iter, ifs, 0⟩] scope pos) 0 (.ref I) (.ref Dd) cenv) R ⟨h, g, d, t, os⟩ := by
  subst hC
  refine codeAny_compLoop_tests
    (fun k s' => ∃ i h' g' tk m' ys, s' = ⟨h', g', d, tk, os⟩ ∧ St i h' ∧ h'.PlainList Dd ys ∧ h'.Ns cenv.locals m' ∧ SX (cenv.locals :: Dd :: wr) fs h h' ∧ GK g g' ∧
      IsAll (fun a => h.get? a = none ∧ a ∉ cenv.locals :: Dd :: wr) h' (((List.range i).filter p).map f) ys.toList ∧ i ≤ n ∧ k = n + 1 - i) ?_ (n + 1)
    ⟨0, h, g, t, m, #[], rfl, hst, hacc, hn, .refl .., id, .nil, Nat.zero_le _, rfl⟩
  rintro k s' ⟨i, h', g', tk, m', ys, rfl, hst', hacc', hn', hS, hG, hI, hi, rfl⟩
  have hCw : cenv.locals ∉ wr := fun q => hCf (W.sub _ q)
  have hDw : Dd ∉ wr := fun q => hDf (W.sub _ q)
  have hEs : cenv.locals ∉ fs ∧ Dd ∉ fs := ⟨hCs, hDs⟩
  have hyl : ys.size ≤ n := by
    have e1 := hI.length
    have e2 : ((List.range i).filter p).length ≤ (List.range i).length := List.length_filter_le _ _
    rw [List.length_range] at e2
    rw [List.length_map] at e1
    have : ys.toList.length = ys.size := by simp
    omega
  by_cases hlt : i < n
  · refine W.item i _ _ _ hlt hst' fun v h₁ tk₁ hPv hst₁ hk₁ => ?_
    have s₁ : SX (cenv.locals :: Dd :: wr) fs h' h₁ := .of_but fun b o hb e => hk₁ b o (fun q => hb (.tail _ (.tail _ q))) e
    refine wpAny_assign_Name (wpAny_storeName_local hx (hn'.at' fun o e => hk₁ _ o hCw e) (fun h₂ hn₂ hs₂ => ?_) hp)
    have s₂ : SX (cenv.locals :: Dd :: wr) fs h' h₂ := s₁.trans (.of_sameBut hs₂ (.head _))
    have hst₂ : St (i + 1) h₂ := W.frame _ _ _ hst₁ fun b hb o e => hs₂.extBut b o (fun q => hCf (q ▸ hb)) e
    have hacc₂ : h₂.PlainList Dd ys := hacc'.at fun o e => hs₂.extBut _ o hDC (hk₁ _ o hDw e)
    refine wpAny_mono (htests i v h₂ g' _ _ hlt hPv (hS.trans s₂) hG hn₂ (if_pos rfl)) (fun ok s₃ h₃ => ?_) fun _ _ q => q.elim
    obtain ⟨rfl, h₃, g₃, t₃, rfl, k₃, G₃⟩ := h₃
    have s₃ := s₂.trans (k₃.sx (ex := cenv.locals :: Dd :: wr))
    have hst₃ : St (i + 1) h₃ := W.frame _ _ _ hst₂ fun b hb o e => k₃.ex b o (hfs b hb) e
    have hacc₃ : h₃.PlainList Dd ys := hacc₂.at fun o e => k₃.ex _ o hDs e
    have hn₃ : h₃.Ns cenv.locals _ := hn₂.at' fun o e => k₃.ex _ o hCs e
    have hI₃ : IsAll (fun a => h.get? a = none ∧ a ∉ cenv.locals :: Dd :: wr) h₃ (((List.range i).filter p).map f) ys.toList := hI.up (fun _ q => q) fun a q => s₃.up a q.2
    cases hpi : p i with
    | false =>
      simp only [Bool.false_eq_true, if_false]
      refine ⟨n + 1 - (i + 1), by omega, i + 1, h₃, g₃, t₃, _, ys, rfl, hst₃, hacc₃, hn₃, hS.trans s₃, fun q => G₃ (hG q), ?_, hlt, rfl⟩
      rw [List.range_succ, List.filter_append]
      simpa [hpi] using hI₃
    | true =>
      simp only [if_true]
      refine wpAny_mono (helt i v h₃ g₃ t₃ _ hlt hPv hpi (hS.trans s₃) (fun q => G₃ (hG q)) hn₃ (if_pos rfl)) (fun y s₄ h₄ => ?_) fun _ _ q => q.elim
      obtain ⟨h₄, g₄, t₄, rfl, k₄, G₄, y₄⟩ := h₄
      have s₄ := s₃.trans (k₄.sx (ex := cenv.locals :: Dd :: wr))
      refine wpAny_list_append_plain (hsz := by omega) (hacc₃.at fun o e => k₄.ex _ o hDs e) fun h₅ hl₅ hs₅ => ?_
      have s₅ := s₄.trans (.of_sameBut hs₅ (.tail _ (.head _)))
      refine ⟨n + 1 - (i + 1), by omega, i + 1, h₅, g₄, t₄, _, ys.push y, rfl, ?_, hl₅, (hn₃.at' fun o e => hs₅.extBut _ o (Ne.symm hDC) (k₄.ex _ o hCs e)), hS.trans s₅, fun q => G₄ (G₃ (hG q)), ?_, hlt, rfl⟩
      · exact W.frame _ _ _ hst₃ fun b hb o e => hs₅.extBut b o (fun q => hDf (q ▸ hb)) (k₄.ex b o (hfs b hb) e)
      · rw [List.range_succ, List.filter_append]
        have e1 : List.filter p [i] = [i] := by simp [hpi]
        rw [e1, List.map_append, Array.toList_push]
        have s₃₅ := (k₄.sx (ex := cenv.locals :: Dd :: wr)).trans (.of_sameBut hs₅ (.tail _ (.head _)))
        refine (hI₃.up (fun _ q => q) fun a q => s₃₅.up a q.2).append (.one ?_)
        have hfree : ∀ a, New h₃ a → h.get? a = none ∧ a ∉ cenv.locals :: Dd :: wr := by
          intro a ha
          have hm : a ∉ cenv.locals :: Dd :: wr := by
            intro hm
            rcases List.mem_cons.mp hm with rfl | hm
            · obtain ⟨o, _, _, e, _⟩ := hn₃; rw [ha] at e; cases e
            · rcases List.mem_cons.mp hm with rfl | hm
              · obtain ⟨_, e⟩ := hacc₃; rw [ha] at e; cases e
              · obtain ⟨o, e⟩ := hlive _ _ hst₃ a hm; rw [ha] at e; cases e
          refine ⟨?_, hm⟩
          rcases get_none_or h a with q | ⟨o, q⟩
          · exact q
          · obtain ⟨⟨sl, e⟩, _⟩ := (hS.trans s₃).up a hm o q
            rw [ha] at e; cases e
        exact y₄.up hfree fun a ha o e => upr (hs₅.extBut a o (fun q => (hfree a ha).2 (q ▸ .tail _ (.head _))) e)
  · have hin : i = n := by omega
    subst hin
    refine W.done _ _ _ hst' fun h₁ tk₁ hk₁ => ?_
    have s₁ : SX (cenv.locals :: Dd :: wr) fs h' h₁ := .of_but fun b o hb e => hk₁ b o (fun q => hb (.tail _ (.tail _ q))) e
    exact hR h₁ g' tk₁ m' ys (hS.trans s₁) hG (hn'.at' fun o e => hk₁ _ o hCw e) (hacc'.at fun o e => hk₁ _ o hDw e) (hI.up (fun _ q => q) fun a q => s₁.up a q.2)
end
/-- the frames on the stack, as the heap bears them -/
noncomputable def FrOk (fs : List Addr) (h : Heap) : Prop := ∀ b ∈ fs, ∃ o, h.get? b = some o ∧ ∃ es ep, o.data = .dict es ep
theorem FrOk.up {fs : List Addr} {h h' : Heap} (x : FrOk fs h) (k : Up h h') : FrOk fs h' := fun b hb => by
  obtain ⟨o, e, r⟩ := x b hb
  obtain ⟨⟨sl, e'⟩, _⟩ := k b o e
  exact ⟨_, e', r⟩
theorem FrOk.not {fs : List Addr} {h : Heap} {a : Addr} {o : Obj} (x : FrOk fs h) (e : h.get? a = some o) (hc : ∀ es ep, o.data ≠ .dict es ep) : a ∉ fs := fun hm => by
  obtain ⟨o', e', es, ep, c⟩ := x a hm
  rw [e] at e'; cases e'; exact hc _ _ c
theorem FrOk.new {fs : List Addr} {h : Heap} {a : Addr} (x : FrOk fs h) (e : h.get? a = none) : a ∉ fs := fun hm => by
  obtain ⟨o', e', _⟩ := x a hm
  rw [e] at e'; cases e'
theorem none_ge {h : Heap} {a : Addr} (q : h.objs.size ≤ a) : h.get? a = none := by
  rcases get_none_or h a with e | ⟨o, e⟩
  · exact e
  · exact absurd (Heap.lt_size e) (Nat.not_lt.mpr q)

/-- what a comprehension or a loop may run over -/
inductive Src (h : Heap) : Value → Nat → (Nat → Value → Prop) → Prop where
  | rng {r : Addr} {t u v : Tok} {n : Nat} (x : IsRange h r 0 n 1 t u v) : Src h (.ref r) n (fun i y => ∃ k, y = .int i k)
  | lst {l : Addr} {items : Array Value} (x : h.IsList l items) : Src h (.ref l) items.size (fun i y => items[i]? = some y)

section
variable {prog : Program} {w : World} {A : Around} {E : Value → Shared → Prop} {h : Heap} {g : Array GenState} {d : Drawn} {t : Nat} {os : OsState}

theorem Walks.rangeUp (hh : A.handled = none) (I : Addr) (n : Nat) : Walks prog w A I [I] [I] n (fun i y => ∃ k, y = .int i k) (fun i h => IsRangeIter h I i ((n : Int) - i) 1) where
  sub := fun b hb => hb
  frame := fun i h h' st hk => hk I (.head _) _ st
  item := fun i s Q E hi st hQ => by
    refine wpAny_pyNext_range_item st (by omega) fun h' hit' hs' => ?_
    refine hQ _ h' _ ⟨_, rfl⟩ ?_ fun b o hb e => hs'.extBut b o (fun q => hb (q ▸ .head _)) e
    have e1 : ((i + 1 : Nat) : Int) = (i : Int) + 1 := by omega
    have e2 : (n : Int) - ((i + 1 : Nat) : Int) = (n : Int) - i - 1 := by omega
    rw [e1, show (n : Int) - ((i : Int) + 1) = (n : Int) - i - 1 by omega]; exact hit'
  done := fun s Q E st hQ => wpAny_pyNext_range_end hh st (by omega) fun h' he' => hQ h' s.toks fun b o hb e => he' b o (fun q => hb (q ▸ .head _)) e
  self := fun i s Q E st hQ => by
    have hT : s.TypeIs (.ref I) "range_iterator" := ⟨_, st, rfl⟩
    refine wpAny_pyIter_slot hT F.slot_range_iterator_iter (wpAny_call_entry F.slot_range_iterator_iter hT F.entry_range_iterator_iter ?_ (F.args_range_iterator_iter_1 _))
    exact wpAny_pure ⟨_, rfl, "range_iterator", _, hT, F.slot_range_iterator_next.lookup, hQ⟩
end
section
variable {prog : Program} {w : World} {A : Around} {E : Value → Shared → Prop} {h : Heap} {g : Array GenState} {d : Drawn} {t : Nat} {os : OsState}
theorem rangeSize_up (n : Nat) : Builtin.Range.rangeSize 0 n 1 = n := by
  unfold Builtin.Range.rangeSize
  rw [if_pos (by decide)]
  by_cases hn : (0 : Int) < n
  · rw [if_pos hn]; omega
  · rw [if_neg hn]; omega
theorem src_iter {fs : List Addr} {xv : Value} {n : Nat} {P : Nat → Value → Prop} {Q : Value → Shared → Prop} (hh : A.handled = none) (S : Src h xv n P) (hf : FrOk fs h) (hn : n ≤ 1000)
    (hQ : ∀ h₂ I fp St, Ext h h₂ → h.get? I = none → Walks prog w A I fp [I] n P St → St 0 h₂ → (∀ i h', St i h' → ∃ o, h'.get? I = some o) → (∀ b ∈ fp, b < h₂.objs.size ∧ b ∉ fs) → Q (.ref I) ⟨h₂, g, d, t, os⟩) :
    wpAny (model prog w) A (pyIter xv) Q E ⟨h, g, d, t, os⟩ := by
  have hI : h.objs.size ∉ fs := hf.new (none_ge (Nat.le_refl _))
  cases S with
  | @rng r t' u' v' _ x =>
    have hs : Builtin.Range.small 0 n 1 = true := small_one (by decide) (by decide) (by omega) (by omega)
    refine wpAny_pyIter_range x hs (hQ _ h.objs.size [h.objs.size] _ (fun b o e => Heap.get?_push_of_some _ e) (none_ge (Nat.le_refl _)) (Walks.rangeUp hh _ n) ?_ ?_ ?_)
    · have := Heap.get?_push_size h (o := { cls := .type "range_iterator", data := .fields #[rawInt 0, rawInt (Builtin.Range.rangeSize 0 n 1), rawInt 1] }) rfl
      rw [rangeSize_up] at this
      show IsRangeIter _ _ ((0 : Nat) : Int) ((n : Int) - ((0 : Nat) : Int)) 1
      rw [rangeSize_up, show (n : Int) - ((0 : Nat) : Int) = n by omega]
      exact this
    · exact fun i h' st => ⟨_, st⟩
    · intro b hb
      rw [List.mem_singleton.mp hb]
      exact ⟨by show _ < (h.push _).objs.size; rw [Heap.size_push]; exact Nat.lt_succ_self _, hI⟩
  | @lst l items x =>
    obtain ⟨o, ho, hc, n', hd⟩ := id x
    have hl : l < h.objs.size := Heap.lt_size ho
    refine wpAny_pyIter_list x (hQ _ h.objs.size [h.objs.size, l] _ (fun b o e => Heap.get?_push_of_some _ e) (none_ge (Nat.le_refl _)) (Walks.list hh _ l (Nat.ne_of_lt hl) items) ⟨⟨_, Heap.get?_push_size _ rfl, rfl, rfl⟩, x.push _⟩ ?_ ?_)
    · exact fun i h' st => let ⟨o, e, _⟩ := st.1; ⟨o, e⟩
    · intro b hb
      rcases List.mem_cons.mp hb with rfl | hb
      · exact ⟨by show _ < (h.push _).objs.size; rw [Heap.size_push]; exact Nat.lt_succ_self _, hI⟩
      · rw [List.mem_singleton.mp hb]
        exact ⟨by show _ < (h.push _).objs.size; rw [Heap.size_push]; exact Nat.lt_succ_of_lt hl, hf.not ho (fun es ep q => by rw [hd] at q; cases q)⟩

/-- what a comprehension's tests and element do, item by item -/
structure CompOk (prog : Program) (w : World) (A : Around) (env : Env) (scope : Scope) (cl : List (Str × Addr)) (x : Str) (ifs : List Expr) (elt : Expr) (fs : List Addr) (n : Nat) (P : Nat → Value → Prop)
    (p : Nat → Bool) (f : Nat → D) (h : Heap) (g : Array GenState) (d : Drawn) (os : OsState) : Prop where
  tests : ∀ C i v h₂ g₂ t₂ m₂, i < n → P i v → Stays fs h h₂ → GK g g₂ → h.get? C = none → h₂.Ns C m₂ → m₂ x = some v →
    wpAny (model prog w) A (ifsTree ifs (compEnvC scope cl C env)) (fun ok s₃ => ok = p i ∧ ∃ h₃ g₃ t₃, s₃ = ⟨h₃, g₃, d, t₃, os⟩ ∧ Stays fs h₂ h₃ ∧ GK g₂ g₃) (fun _ _ => False) ⟨h₂, g₂, d, t₂, os⟩
  elt : ∀ C i v h₂ g₂ t₂ m₂, i < n → P i v → p i = true → Stays fs h h₂ → GK g g₂ → h.get? C = none → h₂.Ns C m₂ → m₂ x = some v →
    wpAny (model prog w) A (eval elt (compEnvC scope cl C env)) (fun y s₃ => ∃ h₃ g₃ t₃, s₃ = ⟨h₃, g₃, d, t₃, os⟩ ∧ Stays fs h₂ h₃ ∧ GK g₂ g₃ ∧ Is (New h₂) h₃ (f i) y) (fun _ _ => False) ⟨h₂, g₂, d, t₂, os⟩

theorem comp_block {elt iter : Expr} {x : Str} {px : Pos} {ifs : List Expr} {scope : Scope} {cl : List (Str × Addr)} {pos : Pos} {env : Env} {fs fp : List Addr} {n : Nat} {P : Nat → Value → Prop} {St : Nat → Heap → Prop} {I : Addr}
    {h₂ : Heap} {p : Nat → Bool} {f : Nat → D} {RR : Value → Addr → Result → Shared → Prop}
    (k₀ : Ext h h₂) (hI : h.get? I = none) (W : Walks prog w A I fp [I] n P St) (hst : St 0 h₂) (hlive : ∀ i h', St i h' → ∃ o, h'.get? I = some o) (hfp : ∀ b ∈ fp, b < h₂.objs.size ∧ b ∉ fs) (hf : FrOk fs h) (hn : n ≤ 1000)
    (hcell : ∀ y ∈ scope.names, y.2 ≠ .cell) (hkind : scope.kind = .function) (hx : scope.names.lookup x = some .local)
    (hq : CompOk prog w A env scope cl x ifs elt fs n P p f h g d os)
    (hRR : ∀ Dd C h' g' t' m', Stays fs h h' → GK g g' → h.get? Dd = none → h.get? C = none → Dd ≠ C → h'.Ns C m' →
      (∀ h'', (∀ b o, b ≠ C → h.get? b = none → h'.get? b = some o → h''.get? b = some o) → Is (New h) h'' (.list (((List.range n).filter p).map f)) (.ref Dd)) → RR (.ref Dd) C (.ok .next) ⟨h', g', d, t', os⟩) :
    wpAny (model prog w) A (newList []) (fun acc s₃ => wpAny (model prog w) A (newFunctionEnv scope env.globals cl [] env.qual none .none (some env)) (fun cenv s₄ =>
      codeAny (model prog w) A (.compStart (.ListComp elt [⟨.Name x px, iter, ifs, 0⟩] scope pos) 0 (.ref I) acc { cenv with scope := relabel scope env }) (RR acc cenv.locals) s₄) E s₃) E ⟨h₂, g, d, t, os⟩ := by
  refine wpAny_newObj_type (wpAny_newFunctionEnv hcell (by intro y hy; simp at hy) (fun h₄ hns₄ hsb₄ => ?_) hkind)
  dsimp only at hns₄ hsb₄ ⊢
  generalize hH3 : h₂.push { cls := .type "list", dict := none, data := .seq ([] : List Value).toArray } = h₃ at hns₄ hsb₄ ⊢
  have hsz : h₃.objs.size = h₂.objs.size + 1 := by rw [← hH3, Heap.size_push]
  have hDC : h₂.objs.size ≠ h₃.objs.size := by rw [hsz]; exact Nat.ne_of_lt (Nat.lt_succ_self _)
  have k₃ : Ext h₂ h₃ := fun b o e => hH3 ▸ Heap.get?_push_of_some _ e
  have k₄ : Ext h₃ h₄ := fun b o e => hsb₄.extBut b o (Nat.ne_of_lt (Heap.lt_size e)) (Heap.get?_push_of_some _ e)
  have kk : Ext h h₄ := fun b o e => k₄ b o (k₃ b o (k₀ b o e))
  have hDn : h.get? h₂.objs.size = none := by
    rcases get_none_or h h₂.objs.size with q | ⟨o, q⟩
    · exact q
    · exact absurd (Heap.lt_size (k₀ _ o q)) (Nat.lt_irrefl _)
  have hCn : h.get? h₃.objs.size = none := by
    rcases get_none_or h h₃.objs.size with q | ⟨o, q⟩
    · exact q
    · exact absurd (Heap.lt_size (k₃ _ o (k₀ _ o q))) (Nat.lt_irrefl _)
  have hacc : h₄.PlainList h₂.objs.size #[] := ⟨_, k₄ _ _ (hH3 ▸ Heap.get?_push_size h₂ rfl)⟩
  have hst₄ : St 0 h₄ := W.frame _ _ _ hst fun b _ o e => k₄ b o (k₃ b o e)
  have hDf : h₂.objs.size ∉ fp := fun hm => Nat.lt_irrefl _ (hfp _ hm).1
  have hCf : h₃.objs.size ∉ fp := fun hm => by have := (hfp _ hm).1; rw [hsz] at this; exact Nat.lt_irrefl _ (Nat.lt_of_succ_lt this)
  have tostay : ∀ {h' : Heap}, SX (h₃.objs.size :: h₂.objs.size :: [I]) fs h₄ h' → Stays fs h h' := fun {h'} k => by
    have hnot : ∀ b o, h.get? b = some o → b ∉ (h₃.objs.size :: h₂.objs.size :: [I] : List Addr) := fun b o e hm => by
      rcases List.mem_cons.mp hm with rfl | hm
      · rw [hCn] at e; cases e
      · rcases List.mem_cons.mp hm with rfl | hm
        · rw [hDn] at e; cases e
        · rw [List.mem_singleton.mp hm, hI] at e; cases e
    exact ⟨fun b o hb e => k.keep b o (hnot b o e) hb (kk b o e), fun b o e => k.up b (hnot b o e) o (kk b o e)⟩
  have loop : codeAny (model prog w) A (.compLoop (.ListComp elt [⟨.Name x px, iter, ifs, 0⟩] scope pos) 0 (.ref I) (.ref h₂.objs.size) (compEnvC scope cl h₃.objs.size env))
        (RR (.ref h₂.objs.size) h₃.objs.size) ⟨h₄, g, d, t + ([] : List (Str × Value)).length, os⟩ := by
    refine comp_loop (fs := fs) (cenv := compEnvC scope cl h₃.objs.size env) W p f rfl (fun i h' st b hb => by rw [List.mem_singleton.mp hb]; exact hlive i h' st) (lookup_relabel_local hx) (by simp [compEnvC, relabel, hkind]) hDC hDf hCf
      (hf.new hDn) (hf.new hCn) (fun b hb => (hfp b hb).2) hst₄ hacc hns₄ (Nat.le_trans hn (by decide))
      (fun i v h₅ g₅ t₅ m₅ hi hP k G hns hm => hq.tests _ i v h₅ g₅ t₅ m₅ hi hP (tostay k) G hCn hns hm)
      (fun i v h₅ g₅ t₅ m₅ hi hP hpi k G hns hm => hq.elt _ i v h₅ g₅ t₅ m₅ hi hP hpi (tostay k) G hCn hns hm) fun h' g' t' m' ys k G hns hpl hI' => ?_
    refine hRR _ _ h' g' t' m' (tostay k) G hDn hCn hDC hns fun h'' kx => ?_
    simp only [Is]
    obtain ⟨nn, hpl'⟩ := hpl.at fun o e => kx _ o hDC hDn e
    refine ⟨_, ys.toList, nn, rfl, hDn, hpl', ?_⟩
    have hnone : ∀ a, h₄.get? a = none → h.get? a = none := fun a q => by
      rcases get_none_or h a with z | ⟨o, z⟩
      · exact z
      · rw [kk a o z] at q; cases q
    exact hI'.up (fun a q => hnone a q.1) fun a q o e => upr (kx a o (fun z => q.2 (z ▸ .head _)) (hnone a q.1) e)
  exact codeAny_compStart_list loop (W.self 0 _ _ _ hst₄ loop)

inductive EvalHit (prog : Program) (w : World) (A : Around) (env : Env) (scope : Scope) (cl : List (Str × Addr)) (x : Str) (ifs : List Expr) (elt : Expr) (fs : List Addr) (p : Nat → Bool) (f : Nat → D) (d : Drawn) (os : OsState) (Q : Value → Shared → Prop) : Value → Shared → Prop where
  | mk {xv : Value} (h : Heap) (g : Array GenState) (t n : Nat) (P : Nat → Value → Prop) (S : Src h xv n P) (hf : FrOk fs h) (hn : n ≤ 1000) (hq : CompOk prog w A env scope cl x ifs elt fs n P p f h g d os)
      (hQ : ∀ h' g' t' v, Stays fs h h' → GK g g' → Is (New h) h' (.list (((List.range n).filter p).map f)) v → Q v ⟨h', g', d, t', os⟩) : EvalHit prog w A env scope cl x ifs elt fs p f d os Q xv ⟨h, g, d, t, os⟩
inductive AssignHit (prog : Program) (w : World) (A : Around) (env : Env) (scope : Scope) (cl : List (Str × Addr)) (x y : Str) (ifs : List Expr) (elt : Expr) (fs : List Addr) (p : Nat → Bool) (f : Nat → D) (d : Drawn) (os : OsState) (Q : Flow → Shared → Prop) : Value → Shared → Prop where
  | mk {xv : Value} (h : Heap) (g : Array GenState) (t n : Nat) (P : Nat → Value → Prop) (m : Str → Option Value) (S : Src h xv n P) (hf : FrOk fs h) (hn : n ≤ 1000) (hns : h.Ns env.locals m) (hq : CompOk prog w A env scope cl x ifs elt fs n P p f h g d os)
      (hQ : ∀ h' g' t' v, SX [env.locals] fs h h' → h'.Ns env.locals (fun z => if z = y then some v else m z) → GK g g' → Is (New h) h' (.list (((List.range n).filter p).map f)) v → Q .next ⟨h', g', d, t', os⟩) : AssignHit prog w A env scope cl x y ifs elt fs p f d os Q xv ⟨h, g, d, t, os⟩
theorem eval_comp {elt iter : Expr} {x : Str} {px : Pos} {ifs : List Expr} {scope : Scope} {cl : List (Str × Addr)} {pos : Pos} {env : Env} {fs : List Addr} {p : Nat → Bool} {f : Nat → D} {s : Shared} {Q : Value → Shared → Prop}
    (hh : A.handled = none) (hclos : closureFor scope env = pure cl) (hcell : ∀ y ∈ scope.names, y.2 ≠ .cell) (hkind : scope.kind = .function)
    (hnames : ∀ y ∈ scope.names, y.2 = .local → scope.names.lookup y.1 = some .local) (hx : scope.names.lookup x = some .local)
    (hit : wpAny (model prog w) A (eval iter env) (EvalHit prog w A env scope cl x ifs elt fs p f d os Q) E s)
    (hs : ∀ x, foldedSetIterable iter env x = pure x := by intro _; rfl) :
    wpAny (model prog w) A (eval (.ListComp elt [⟨.Name x px, iter, ifs, 0⟩] scope pos) env) Q E s := by
  rw [eval_ListComp]
  refine wpAny_comprehension_free (use := none) rfl hs hclos hkind hnames (wpAny_mono hit (fun xv s₁ h₁ => ?_) fun _ _ e => e)
  obtain ⟨h, g, t, n, P, S, hf, hn, hq, hQ⟩ := h₁
  refine src_iter hh S hf hn fun h₂ I fp St k₀ hI W hst hlive hfp => ?_
  refine comp_block (RR := fun acc C => compPost (model prog w) A E none Q acc C) k₀ hI W hst hlive hfp hf hn hcell hkind hx hq ?_
  intro Dd C h' g' t' m' k G hD hC hDC hns hIs
  refine ⟨m', hns, fun h'' hs'' => hQ h'' g' t' _ ⟨fun b o hb e => ?_, fun b o e => ?_⟩ G (hIs h'' fun b o h1 _ e => hs''.extBut b o h1 e)⟩
  · exact hs''.extBut b o (by rintro rfl; rw [hC] at e; cases e) (k.ex b o hb e)
  · exact (k.up b).trans (fun o' e' => upr (hs''.extBut b o' (by rintro rfl; rw [hC] at e; cases e) e')) o e

theorem assign_comp {elt iter : Expr} {x y : Str} {px py : Pos} {ifs : List Expr} {scope : Scope} {cl : List (Str × Addr)} {pos spos : Pos} {env : Env} {fs : List Addr} {p : Nat → Bool} {f : Nat → D} {s : Shared} {Q : Flow → Shared → Prop}
    (hsw : swapsWith (.ListComp elt [⟨.Name x px, iter, ifs, 0⟩] scope pos) (some (.Name y py)) spos.line env = pure true)
    (hh : A.handled = none) (hclos : closureFor scope env = pure cl) (hcell : ∀ y ∈ scope.names, y.2 ≠ .cell) (hkind : scope.kind = .function)
    (hnames : ∀ y ∈ scope.names, y.2 = .local → scope.names.lookup y.1 = some .local) (hx : scope.names.lookup x = some .local)
    (hy : env.kindOf y = some .local) (hp : (env.scope.kind == .class || (env.scope.kind == .module && env.locals != env.globals)) = false)
    (hit : wpAny (model prog w) A (eval iter env) (AssignHit prog w A env scope cl x y ifs elt fs p f d os Q) E s)
    (hs : ∀ x, foldedSetIterable iter env x = pure x := by intro _; rfl) :
    wpAny (model prog w) A (exec (.Assign [.Name y py] (.ListComp elt [⟨.Name x px, iter, ifs, 0⟩] scope pos) spos) env) Q E s := by
  rw [exec_Assign_Name_used _ _ _ _ hsw]
  refine wpAny_bind (wpAny_standAt (wpAny_bind ?_))
  show wpAny _ A (do let _ ← comprehension (.ListComp elt [⟨.Name x px, iter, ifs, 0⟩] scope pos) scope env _ (newList []) false (eval iter env) (some (assign (.Name y py) env))) _ _ s
  refine wpAny_bind (wpAny_mono (wpAny_comprehension_free (use := some (assign (.Name y py) env)) (Q := fun _ s' => Q .next s') rfl hs hclos hkind hnames
    (wpAny_mono hit (fun xv s₁ h₁ => ?_) fun _ _ e => e)) (fun _ s' hq => wpAny_pure (wpAny_pure hq)) fun _ _ e => e)
  obtain ⟨h, g, t, n, P, m, S, hf, hn, hns₀, hq, hQ⟩ := h₁
  refine src_iter hh S hf hn fun h₂ I fp St k₀ hI W hst hlive hfp => ?_
  refine comp_block (RR := fun acc C => compPost (model prog w) A E (some (assign (.Name y py) env)) (fun _ s' => Q .next s') acc C) k₀ hI W hst hlive hfp hf hn hcell hkind hx hq ?_
  intro Dd C h' g' t' m' k G hD hC hDC hns hIs
  have hLC : env.locals ≠ C := by rintro e; obtain ⟨o, _, _, ho, _⟩ := hns₀; rw [e, hC] at ho; cases ho
  have hLn : ∀ a, h.get? a = none → a ≠ env.locals := by rintro a ha rfl; obtain ⟨o, _, _, ho, _⟩ := hns₀; rw [ha] at ho; cases ho
  show wpAny _ A (assign (.Name y py) env (.ref Dd)) _ _ _
  refine wpAny_assign_Name (wpAny_storeName_local hy (ns_up hns₀ (k.up _)) (fun h₃ hn₃ hs₃ => ?_) hp)
  refine ⟨m', hns.sameBut hs₃ (Ne.symm hLC), fun h₄ hs₄ => ?_⟩
  refine hQ h₄ g' _ _ ⟨fun b o h1 h2 e => ?_, fun b h1 o e => ?_⟩ (hn₃.sameBut hs₄ hLC) G ?_
  · exact hs₄.extBut b o (by rintro rfl; rw [hC] at e; cases e) (hs₃.extBut b o (fun q => h1 (q ▸ .head _)) (k.ex b o h2 e))
  · exact (k.up b).trans (fun o' e' => upr (hs₄.extBut b o' (by rintro rfl; rw [hC] at e; cases e) (hs₃.extBut b o' (fun q => h1 (q ▸ .head _)) e'))) o e
  · exact hIs h₄ fun b o h1 h2 e => hs₄.extBut b o h1 (hs₃.extBut b o (hLn b h2) e)
end
noncomputable abbrev upd (m : Str → Option Value) (x : Str) (v : Value) : Str → Option Value := fun y => if y = x then some v else m y
noncomputable abbrev CellsOk (h : Heap) (cs : List (Str × Addr)) (cm : Str → Option Value) : Prop := ∀ n c, cs.lookup n = some c → h.IsCell c (cm n)
theorem CellsOk.up {h h' : Heap} {cs : List (Str × Addr)} {cm : Str → Option Value} (x : CellsOk h cs cm) (k : Up h h') : CellsOk h' cs cm := fun n c e => cell_up (x n c e) (k c)
/-- a frame: its locals at L, its cells -/
structure FS (h : Heap) (L : Addr) (m : Str → Option Value) (cs : List (Str × Addr)) (cm : Str → Option Value) : Prop where
  ns : h.Ns L m
  cells : CellsOk h cs cm
  apart : cs.Pairwise fun x y => x.2 ≠ y.2
theorem FS.up {h h' : Heap} {L : Addr} {m : Str → Option Value} {cs : List (Str × Addr)} {cm : Str → Option Value} (x : FS h L m cs cm) (k : Up h h') : FS h' L m cs cm := ⟨ns_up x.ns (k L), x.cells.up k, x.apart⟩
section
variable {prog : Program} {w : World} {A : Around} {E : Value → Shared → Prop} {h : Heap} {g : Array GenState} {d : Drawn} {t : Nat} {os : OsState} {s : Shared} {env : Env}
theorem n_loc {M : Model} {L : Addr} {m : Str → Option Value} {x : Str} {pos : Pos} {v : Value} {Q : Value → Shared → Prop} (hn : s.heap.Ns L m) (hL : env.locals = L := by rfl) (hv : m x = some v := by rfl) (q : Q v s)
    (hk : env.scope.kind = .function := by rfl) (hl : env.kindOf x = some .local := by rfl) (hd : (x == ("__debug__" : Str)) = false := by decide) : wpAny M A (eval (.Name x pos) env) Q E s := by
  subst hL; exact wpAny_Name (wpAny_loadName_local hk hl hn hv q) hd
theorem n_cell {M : Model} {cs : List (Str × Addr)} {cm : Str → Option Value} {c : Addr} {x : Str} {pos : Pos} {v : Value} {Q : Value → Shared → Prop} (hn : CellsOk s.heap cs cm) (h1 : env.cells.lookup x = some c := by rfl) (h2 : cs.lookup x = some c := by rfl) (hv : cm x = some v := by rfl) (q : Q v s)
    (hk : env.scope.kind = .function := by rfl) (hl : env.kindOf x = some .cell := by rfl) (hd : (x == ("__debug__" : Str)) = false := by decide) : wpAny M A (eval (.Name x pos) env) Q E s :=
  wpAny_Name (wpAny_loadName_cell hk hl h1 (hv ▸ hn x c h2) q) hd
theorem n_glob {M : Model} {mg mb : Str → Option Value} {x : Str} {pos : Pos} {v : Value} {Q : Value → Shared → Prop} (W : Wd w mg mb s.heap) (e : nsIn (hd.heap_39 w.params) mainGlobals x = some (some v)) (q : Q v s)
    (hg : env.globals = mainGlobals := by rfl) (hk : env.scope.kind = .function := by rfl) (hx : env.kindOf x = some .globalImplicit := by rfl) (hd : (x == ("__debug__" : Str)) = false := by decide) :
    wpAny M A (eval (.Name x pos) env) Q E s := Calls.Name_function_global hk hx (Calls.loadGlobal_global (hg ▸ W.T.g) (mg_of W.X W.T.g e) q) hd
theorem n_blt {M : Model} {mg mb : Str → Option Value} {x : Str} {pos : Pos} {v : Value} {Q : Value → Shared → Prop} (W : Wd w mg mb s.heap) (e : nsIn (hd.heap_39 w.params) mainGlobals x = some none) (hv : bootBuiltins x = some v) (q : Q v s)
    (hn : x ≠ "__name__" := by decide) (hg : env.globals = mainGlobals := by rfl) (hb : env.builtins = builtinsNs := by rfl) (hk : env.scope.kind = .function := by rfl) (hx : env.kindOf x = some .globalImplicit := by rfl) (hd : (x == ("__debug__" : Str)) = false := by decide) :
    wpAny M A (eval (.Name x pos) env) Q E s := Calls.Name_function_global hk hx (Calls.loadGlobal_builtin (hg ▸ W.T.g) (mg_none_of W.X W.T.g e) (hb ▸ W.T.b) ((W.T.builtins x hn).trans hv) q) hd

theorem c_fn {M : Model} {mg mb : Str → Option Value} {x : Str} {p pos : Pos} {a : Addr} {e₁ : Expr} {rest : List Expr} {Q : Value → Shared → Prop} (W : Wd w mg mb s.heap)
    (e : nsIn (hd.heap_39 w.params) mainGlobals x = some (some (.ref a))) (hkp : keepIn (hd.heap_39 w.params) (.ref a) = true)
    (q : wpAny M A (spliced (backTo pos (starEach (e₁ :: rest) env))) (fun vs s₁ => (hd.heap_39 w.params).In s₁.heap ∧ wpAny M A (call (.ref a) vs) Q E s₁) E s)
    (hg : env.globals = mainGlobals := by rfl) (hk : env.scope.kind = .function := by rfl) (hx : env.kindOf x = some .globalImplicit := by rfl) (hd : (x == ("__debug__" : Str)) = false := by decide)
    (he : starEach (e₁ :: rest) env = (false, eval e₁ env) :: starEach rest env := by rfl) (hplain : (backTo pos (starEach rest env)).any (·.1) = false := by rfl) :
    wpAny M A (eval (.Call (.Name x p) (e₁ :: rest) [] pos) env) Q E s := by
  refine wpAny_Call_Name_kw (n_glob W e ?_ hg hk hx hd)
  exact callWith_K (first := []) W.X hkp q he hplain
theorem c_type1 {M : Model} {mg mb : Str → Option Value} {x : Str} {p pos : Pos} {T : String} {e₁ : Expr} {Q : Value → Shared → Prop} (W : Wd w mg mb s.heap)
    (e : nsIn (hd.heap_39 w.params) mainGlobals x = some none) (hv : bootBuiltins x = some (.type T)) 
    (q : wpAny M A (eval e₁ env) (fun v s₁ => wpAny M A (call (.type T) [v]) Q E s₁) E s)
    (hn : x ≠ "__name__" := by decide) (hg : env.globals = mainGlobals := by rfl) (hb : env.builtins = builtinsNs := by rfl) (hk : env.scope.kind = .function := by rfl) (hx : env.kindOf x = some .globalImplicit := by rfl) (hd : (x == ("__debug__" : Str)) = false := by decide)
    (he : starEach [e₁] env = (false, eval e₁ env) :: starEach [] env := by rfl) :
    wpAny M A (eval (.Call (.Name x p) [e₁] [] pos) env) Q E s := by
  refine wpAny_Call_Name_kw (n_blt W e hv ?_ hn hg hb hk hx hd)
  exact Pv.callWith_type1 (he := he) (spliced_more (wpAny_mono q (fun v s₁ h₁ => spliced_none h₁) fun _ _ z => z) he)
theorem c_blt1 {M : Model} {mg mb : Str → Option Value} {x : Str} {p pos : Pos} {id : String} {e₁ : Expr} {Q : Value → Shared → Prop} (W : Wd w mg mb s.heap)
    (e : nsIn (hd.heap_39 w.params) mainGlobals x = some none) (hv : bootBuiltins x = some (.builtin id)) 
    (q : wpAny M A (eval e₁ env) (fun v s₁ => wpAny M A (call (.builtin id) [v]) Q E s₁) E s)
    (hn : x ≠ "__name__" := by decide) (hg : env.globals = mainGlobals := by rfl) (hb : env.builtins = builtinsNs := by rfl) (hk : env.scope.kind = .function := by rfl) (hx : env.kindOf x = some .globalImplicit := by rfl) (hd : (x == ("__debug__" : Str)) = false := by decide)
    (he : starEach [e₁] env = (false, eval e₁ env) :: starEach [] env := by rfl) :
    wpAny M A (eval (.Call (.Name x p) [e₁] [] pos) env) Q E s := by
  refine wpAny_Call_Name_kw (n_blt W e hv ?_ hn hg hb hk hx hd)
  exact callWith_builtin1 (he := he) (spliced_more (wpAny_mono q (fun v s₁ h₁ => spliced_none h₁) fun _ _ z => z) he)

theorem st_loc {M : Model} {L : Addr} {m cm : Str → Option Value} {cs : List (Str × Addr)} {x : Str} {v : Value} {Q : Unit → Shared → Prop} (F : FS h L m cs cm)
    (q : ∀ h', FS h' L (upd m x v) cs cm → Heap.SameBut L h h' → Q () ⟨h', g, d, t + 1, os⟩)
    (hL : env.locals = L := by rfl) (hl : env.kindOf x = some .local := by rfl) (hp : (env.scope.kind == .class || (env.scope.kind == .module && env.locals != env.globals)) = false := by rfl) :
    wpAny M A (storeName env x v) Q E ⟨h, g, d, t, os⟩ := by
  subst hL
  refine wpAny_storeName_local hl F.ns (fun h' hn hs => q h' ⟨hn, fun n c e => ?_, F.apart⟩ hs) hp
  have hc := F.cells n c e
  refine hc.sameBut hs fun z => ?_
  subst z
  obtain ⟨o, _, _, ho, hd, _⟩ := F.ns
  obtain ⟨o', ho', hd'⟩ := hc
  rw [ho] at ho'; cases ho'; rw [hd] at hd'; cases hd'
theorem st_cell {M : Model} {L c : Addr} {m cm : Str → Option Value} {cs : List (Str × Addr)} {x : Str} {v : Value} {Q : Unit → Shared → Prop} (F : FS h L m cs cm)
    (q : ∀ h', FS h' L m cs (upd cm x v) → Heap.SameBut c h h' → Q () ⟨h', g, d, t, os⟩)
    (h1 : env.cells = cs := by rfl) (h2 : cs.lookup x = some c := by rfl) (hl : env.kindOf x = some .cell := by rfl) (hk : env.scope.kind = .function := by rfl) :
    wpAny M A (storeName env x v) Q E ⟨h, g, d, t, os⟩ := by
  refine wpAny_storeName_cell hk hl (h1 ▸ h2) (F.cells x c h2) fun h' hc hs => q h' ⟨?_, fun n c' e => ?_, F.apart⟩ hs
  · refine F.ns.sameBut hs fun z => ?_
    subst z
    obtain ⟨o, _, _, ho, hd, _⟩ := F.ns
    obtain ⟨o', ho', hd'⟩ := F.cells x _ h2
    rw [ho] at ho'; cases ho'; rw [hd] at hd'; cases hd'
  · by_cases hn : n = x
    · subst hn
      rw [h2] at e; cases e
      show h'.IsCell c (if n = n then some v else cm n)
      rw [if_pos rfl]; exact hc
    · show h'.IsCell c' (if n = x then some v else cm n)
      rw [if_neg hn]
      refine (F.cells n c' e).sameBut hs fun z => ?_
      subst z
      exact hn (name_of_addr F.apart (mem_of_lookup e) (mem_of_lookup h2))

theorem enterC {mg mb : Str → Option Value} {name qual : Str} {params : Arguments} {body : List Stmt} {scope : Scope} {dV kV doc pm cdv ct oc : Value} {an od : Option Addr} {osl : Array (Option Value)} {f : Addr} {args : List Value} {binds : List (Str × Value)} {Q : Value → Shared → Prop}
    (W : Wd w mg mb h)
    (ho : (hd.heap_39 w.params).lookup f = some ⟨oc, od, .func (fnOf name qual params body scope dV kV doc pm an cdv ct), osl⟩) (hcd : codeIn (hd.heap_39 w.params) cdv qual = true) (hroom : A.depth < 900)
    (hbind : bindArgs (fnOf name qual params body scope dV kV doc pm an cdv ct) ⟨args, []⟩ = pure binds)
    (hkind : (binds.all fun y => scope.names.lookup y.1 == some .local || scope.names.lookup y.1 == some .cell) = true)
    (x : ∀ h₁ t₁, Ext h h₁ → FS h₁ h.objs.size (bindL (envOfC qual scope h.objs.size f cdv).kindOf binds fun _ => none) (cellsFrom (h.objs.size + 1) scope.names []) (bindC (envOfC qual scope h.objs.size f cdv).kindOf binds fun _ => none) →
      (∀ n c, (n, c) ∈ cellsFrom (h.objs.size + 1) scope.names [] → h.objs.size < c) →
      wpAny (model PG w) (A.deeper (envOfC qual scope h.objs.size f cdv)) (execs body (envOfC qual scope h.objs.size f cdv))
        (fun fl s' => Q (match fl with | .ret v => v | _ => .none) s') (fun _ _ => False)
        ⟨h₁, g, d, t₁, os⟩)
    (hco : scope.isCoroutine = false) (hgen : scope.isGenerator = false) (hk : scope.kind = .function) : wpAny (model PG w) A (call (.ref f) args) Q E ⟨h, g, d, t, os⟩ := by
  refine wpAny_call (codeAny_call_cells (fd := fnOf name qual params body scope dV kV doc pm an cdv ct) (body := body) (binds := binds) (show _ < 1000 by omega) (W.X _ _ ho) rfl W.T.nolimit (codeRec_of W.X hcd) rfl hbind rfl (kindsX hkind _) (fun s₁ y => ?_) hco hgen hk)
  obtain ⟨h₁, tk, rfl, _⟩ := y.done
  exact wpAny_mono (x h₁ _ y.toInCall.keep ⟨y.toInCall.ns, y.cell, y.apart⟩ y.above) (fun _ _ x => x) (fun _ _ x => x.elim)
end
noncomputable abbrev Mem := Int × Str × Int
noncomputable def memT (m : Mem) : D := .tup [.int m.1, .str m.2.1, .int m.2.2]
noncomputable def memD (ms : List Mem) : D := .list (ms.map memT)
section
variable {prog : Program} {w : World} {A : Around} {E : Value → Shared → Prop} {h : Heap} {g : Array GenState} {d : Drawn} {t : Nat} {os : OsState} {P : Addr → Prop}
theorem sub_listD {value slice : PySem.Expr} {ds : List D} {d' : D} {v : Value} {k : Int} {u : Tok} {Q : Value → Shared → Prop} (x : Is P h (.list ds) v) (h0 : 0 ≤ k) (hk : k < 1000) (hd : ds[k.toNat]? = some d')
    (q : ∀ y, Is P h d' y → Q y ⟨h, g, d, t, os⟩)
    (hs : ∀ l, subscripted slice false (.ref l) (.int k u) = operate [.ref l, .int k u] (getItem (.ref l) (.int k u))) :
    wpAny (model prog w) A (subscriptTail value slice v (.int k u)) Q E ⟨h, g, d, t, os⟩ := by
  simp only [Is] at x
  obtain ⟨l, vs, n, rfl, _, hl, y⟩ := x
  obtain ⟨v, hv, z⟩ := y.get _ _ hd
  exact sub_list (items := vs.toArray) ⟨_, hl, rfl, n, rfl⟩ h0 hk (by simpa using hv) (q _ z) (hs l)
theorem sub_tupD {value slice : PySem.Expr} {ds : List D} {d' : D} {v : Value} {k : Int} {u : Tok} {Q : Value → Shared → Prop} (x : Is P h (.tup ds) v) (h0 : 0 ≤ k) (hk : k < 1000) (hd : ds[k.toNat]? = some d')
    (q : ∀ y, Is P h d' y → Q y ⟨h, g, d, t, os⟩)
    (hs : ∀ l, subscripted slice false (.ref l) (.int k u) = operate [.ref l, .int k u] (getItem (.ref l) (.int k u))) :
    wpAny (model prog w) A (subscriptTail value slice v (.int k u)) Q E ⟨h, g, d, t, os⟩ := by
  simp only [Is] at x
  obtain ⟨l, vs, n, rfl, _, hl, y⟩ := x
  obtain ⟨v, hv, z⟩ := y.get _ _ hd
  exact sub_tup (items := vs.toArray) ⟨_, hl, rfl, n, rfl⟩ h0 hk (by simpa using hv) (q _ z) (hs l)
theorem Is.int {i : Int} {v : Value} (x : Is P h (.int i) v) : ∃ t, v = .int i t := by simpa only [Is] using x
theorem Is.str {i : Str} {v : Value} (x : Is P h (.str i) v) : ∃ t, v = .str i t := by simpa only [Is] using x
theorem e_lt {a b : Int} {u v : Tok} {Q : Value → Shared → Prop} (x : Q (.bool (decide (a < b))) ⟨h, g, d, t, os⟩) : wpAny (model prog w) A (compareOp .Lt (.int a u) (.int b v)) Q E ⟨h, g, d, t, os⟩ := lt_int x
theorem e_ge {a b : Int} {u v : Tok} {Q : Value → Shared → Prop} (x : Q (.bool (decide (b ≤ a))) ⟨h, g, d, t, os⟩) : wpAny (model prog w) A (compareOp .GtE (.int a u) (.int b v)) Q E ⟨h, g, d, t, os⟩ := ge_int x
theorem e_eq {a b : Int} {u v : Tok} {Q : Value → Shared → Prop} (x : Q (.bool (a == b)) ⟨h, g, d, t, os⟩) : wpAny (model prog w) A (compareOp .Eq (.int a u) (.int b v)) Q E ⟨h, g, d, t, os⟩ := eq_int x
end
/-- the figure of a mode for a user at a place -/
noncomputable def figI (md user k : Int) : Int := md / (8 ^ (2 - (user + k) % 3).toNat) % 8
theorem pow8 (x : Int) (h : 0 ≤ x) (h2 : x ≤ 2) : (8 : Int) ^ x.toNat = 1 ∨ (8 : Int) ^ x.toNat = 8 ∨ (8 : Int) ^ x.toNat = 64 := by
  have : x = 0 ∨ x = 1 ∨ x = 2 := by omega
  rcases this with rfl | rfl | rfl
  · exact .inl rfl
  · exact .inr (.inl rfl)
  · exact .inr (.inr rfl)
theorem mem_at {ms : List Mem} {i : Nat} {m : Mem} (h : ms[i]? = some m) : (ms.map memT)[i]? = some (memT m) := by simp [h]
local macro_rules | `(tactic| walk_at "e") => `(tactic| first
  | with_reducible refine wpAny_BinOp ?_
  | with_reducible refine e_int ?_
  | with_reducible refine Subscript_ ?_
  | with_reducible refine e_add ?_
  | with_reducible refine e_sub ?_
  | ((with_reducible refine e_mod ?hb ?_); (case hb => decide))
  | ((with_reducible show wpAny _ _ (eval (Expr.Name _ _) _) _ _ _); first
      | refine n_loc (by first | with_reducible assumption | exact Fr.ns (by with_reducible assumption) | exact FS.ns (by with_reducible assumption)) (by rfl) (by rfl) ?_
      | refine n_cell (by first | with_reducible assumption | exact FS.cells (by with_reducible assumption)) (by rfl) (by rfl) (by rfl) ?_))

set_option maxRecDepth 100000 in
set_option maxHeartbeats 400000 in
theorem figure_spec {w mg mb A E} {h : Heap} {g : Array GenState} {d : Drawn} {t : Nat} {os : OsState} {Q : Value → Shared → Prop} {lv : Value} {ms : List Mem} {m : Mem} {user k : Int} {t1 t2 : Tok}
    (W : Wd w mg mb h) (hd : A.depth < 500) (hl : Is Any h (memD ms) lv) (hk0 : 0 ≤ k) (hk : k < 100) (hv : ms[k.toNat]? = some m)
    (x : ∀ h' t' u, Ext h h' → Q (.int (figI m.2.2 user k) u) ⟨h', g, d, t', os⟩) :
    wpAny (model PG w) A (call (.ref 220) [lv, .int user t1, .int k t2]) Q E ⟨h, g, d, t, os⟩ := by
  refine enter W (by k_is) (by k_is) (by omega) (by rfl) (locs rfl) (fun h₁ t₁ F => ?_) rfl rfl rfl (by decide)
  have hl := hl.ups (Ext.up F.keep)
  refine wpAny_execs_cons (wpAny_Return_some ?_)
  repeat (walk_at "e")
  refine sub_listD hl hk0 (by omega) (mem_at hv) (fun y hy => ?_) (fun _ => rfl)
  repeat (walk_at "e")
  refine sub_tupD hy (by decide) (by decide) rfl (fun y hy => ?_) (fun _ => rfl)
  obtain ⟨u, rfl⟩ := hy.int
  repeat (walk_at "e")
  have p1 : 0 ≤ 2 - (user + k) % 3 := by omega
  have p2 : 2 - (user + k) % 3 ≤ 2 := by omega
  refine e_pow p1 (by omega) (by decide) ?_
  have p3 := pow8 _ p1 p2
  refine e_div (by omega) (by omega) ?_
  repeat (walk_at "e")
  exact x _ _ _ F.keep
theorem new_top {h₀ h : Heap} (k : Ext h₀ h) : New h₀ h.objs.size := by
  rcases get_none_or h₀ h.objs.size with q | ⟨o, q⟩
  · exact q
  · exact absurd (Heap.lt_size (k _ o q)) (Nat.lt_irrefl _)
theorem new_mono {h₀ h : Heap} (k : Up h₀ h) (a : Addr) (x : New h a) : New h₀ a := by
  rcases get_none_or h₀ a with q | ⟨o, q⟩
  · exact q
  · obtain ⟨⟨sl, e⟩, _⟩ := k a o q
    rw [show h.get? a = none from x] at e; cases e
theorem ext_push {h : Heap} (o : Obj) : Ext h (h.push o) := fun _ _ e => Heap.get?_push_of_some _ e
theorem ext_same {h h₁ h₂ : Heap} {L : Addr} (k : Ext h h₁) (hs : Heap.SameBut L h₁ h₂) (hL : h.get? L = none) : Ext h h₂ := fun b o e => hs.extBut b o (by rintro rfl; rw [hL] at e; cases e) (k b o e)
theorem FS.of_fr {h₀ h : Heap} {L : Addr} {m : Str → Option Value} (F : Fr h₀ L h m) : FS h L m [] (fun _ => none) := ⟨F.ns, (fun _ _ e => by cases e), List.Pairwise.nil⟩
section
variable {prog : Program} {w : World} {A : Around} {E : Value → Shared → Prop} {h : Heap} {g : Array GenState} {d : Drawn} {t : Nat} {os : OsState} {P : Addr → Prop} {Q : Value → Shared → Prop}
theorem e_newList {M : Model} {ds : List D} {vs : List Value} (y : IsAll P h ds vs) (hP : P h.objs.size) (hsz : vs.length ≤ 10000) (q : ∀ h' v, Ext h h' → Is P h' (.list ds) v → Q v ⟨h', g, d, t, os⟩) :
    wpAny M A (newList vs) Q E ⟨h, g, d, t, os⟩ := by
  refine wpAny_newObj_type (q _ _ (ext_push _) ?_) (by show sizeOk (.seq vs.toArray 0); simp [sizeOk, sizeLine]; omega)
  simp only [Is]
  exact ⟨_, vs, 0, rfl, hP, Heap.get?_push_size _ rfl, y.up (fun _ p => p) fun a _ => (ext_push _).up a⟩
theorem e_newTuple {M : Model} {ds : List D} {vs : List Value} (y : IsAll P h ds vs) (hP : P h.objs.size) (hne : vs ≠ []) (hsz : vs.length ≤ 10000) (q : ∀ h' v, Ext h h' → Is P h' (.tup ds) v → Q v ⟨h', g, d, t, os⟩) :
    wpAny M A (newTuple vs) Q E ⟨h, g, d, t, os⟩ := by
  refine wpAny_newObj_type (q _ _ (ext_push _) ?_) (by show sizeOk (.seq vs.toArray 0); simp [sizeOk, sizeLine]; omega)
  simp only [Is]
  exact ⟨_, vs, 0, rfl, hP, Heap.get?_push_size _ rfl, y.up (fun _ p => p) fun a _ => (ext_push _).up a⟩
theorem e_addL {P₁ P₂ : Addr → Prop} {ds ds' : List D} {a b : Value} (x : Is P₁ h (.list ds) a) (y : Is P₂ h (.list ds') b) (h1 : ∀ a, P₁ a → P a) (h2 : ∀ a, P₂ a → P a) (hP : P h.objs.size) (hsz : ds.length + ds'.length ≤ 10000)
    (q : ∀ h' v, Ext h h' → Is P h' (.list (ds ++ ds')) v → Q v ⟨h', g, d, t, os⟩) : wpAny (model prog w) A (binaryOp .Add a b) Q E ⟨h, g, d, t, os⟩ := by
  simp only [Is] at x y
  obtain ⟨l, vs, n, rfl, _, hl, x⟩ := x
  obtain ⟨l', vs', n', rfl, _, hl', y⟩ := y
  have e1 := x.length
  have e2 := y.length
  refine PySem.P.add_list (s := ⟨h, g, d, t, os⟩) hl hl' (q _ _ (ext_push _) ?_) (by simp [sizeLine]; omega)
  simp only [Is]
  refine ⟨_, vs ++ vs', 0, rfl, hP, (Heap.get?_push_size _ rfl).trans ?_, (x.up h1 fun a _ => (ext_push _).up a).append (y.up h2 fun a _ => (ext_push _).up a)⟩
  simp
end
local macro_rules | `(tactic| walk_at "e") => `(tactic| first
  | with_reducible refine e_lt ?_
  | with_reducible refine e_ge ?_
  | with_reducible refine e_eq ?_
  | with_reducible refine wpAny_truthy_bool ?_
  | ((with_reducible refine wpAny_Compare1 ?_ ?hs); (case hs => rfl))
  | ((with_reducible refine wpAny_isTrue_Compare1 ?_ ?hs); (case hs => rfl))
  | with_reducible refine wpAny_execs_cons ?_
  | with_reducible refine wpAny_execs_nil ?_
  | with_reducible refine wpAny_If ?_
  | with_reducible refine wpAny_Return_some ?_
  | ((with_reducible refine wpAny_Assign_Name ?_ ?hs); (case hs => rfl))
  | ((with_reducible refine spliced_more ?_ ?hs); (case hs => rfl))
  | with_reducible refine spliced_none ?_
  | with_reducible refine List_ ?_
  | with_reducible refine isTrue_and ?_
  | with_reducible refine isTrue_and_nil ?_
  | with_reducible refine isTrue_not ?_
  | ((with_reducible refine e_div ?hb ?hb2 ?_); (case hb => decide); (case hb2 => decide))
  | ((with_reducible show wpAny _ _ (isTrue (Expr.Name _ _) _ _) _ _ _); refine isTrue_plain ?_ (by rfl)))
/-- the k-th member -/
noncomputable def mem (ms : List Mem) (k : Int) : Mem := (ms[k.toNat]?).getD (-1, Str.ofString "", 0)
theorem mem_get {ms : List Mem} {k : Int} (h0 : 0 ≤ k) (h : k < ms.length) : ms[k.toNat]? = some (mem ms k) := by
  unfold mem
  rw [List.getElem?_eq_getElem (by omega)]; rfl
/-- the members are numbered: each stands at the top or below one ahead of it -/
structure Wf (ms : List Mem) : Prop where
  len : ms.length ≤ 50
  up : ∀ k : Int, 0 ≤ k → k < ms.length → -1 ≤ (mem ms k).1 ∧ (mem ms k).1 < k
noncomputable def opensM (ms : List Mem) (user a : Int) : Bool := (mem ms a).2.2 / 4096 % 16 == 4 && figI (mem ms a).2.2 user a % 2 == 1
noncomputable def doorsN (ms : List Mem) (user : Int) : Nat → Int → List Str
  | 0, _ => []
  | n + 1, k => if (mem ms k).1 < 0 then [] else (if opensM ms user (mem ms k).1 then [] else [(mem ms (mem ms k).1).2.1]) ++ doorsN ms user n (mem ms k).1
theorem Is.ups' {P : Addr → Prop} {h h' : Heap} (k : Ext h h') {d : D} {v : Value} (x : Is P h d v) : Is P h' d v := x.up (fun _ p => p) fun a _ => k.up a
theorem doors_len (ms : List Mem) (user : Int) : ∀ n k, (doorsN ms user n k).length ≤ n := by
  intro n
  induction n with
  | zero => intro k; simp [doorsN]
  | succ n ih =>
    intro k
    rw [doorsN]
    have := ih (mem ms k).1
    split
    · simp
    · split <;> simp <;> omega
noncomputable def strsD (l : List Str) : D := .list (l.map .str)
set_option maxRecDepth 100000 in
set_option maxHeartbeats 400000 in
theorem doors_spec {w mg mb} {ms : List Mem} (wf : Wf ms) {user : Int} : ∀ (n : Nat) {A : Around} {E : Value → Shared → Prop} {h : Heap} {g : Array GenState} {d : Drawn} {t : Nat} {os : OsState} {Q : Value → Shared → Prop} {lv : Value} {k : Int} {t1 t2 : Tok}
    (W : Wd w mg mb h) (hd : A.depth + n < 400) (hl : Is Any h (memD ms) lv) (hk0 : 0 ≤ k) (hk : k < ms.length) (hn : k < n)
    (x : ∀ h' t' v, Ext h h' → Is (New h) h' (strsD (doorsN ms user n k)) v → Q v ⟨h', g, d, t', os⟩),
    wpAny (model PG w) A (call (.ref 227) [lv, .int user t1, .int k t2]) Q E ⟨h, g, d, t, os⟩ := by
  intro n
  induction n with
  | zero => intro A E h g d t os Q lv k t1 t2 W hd hl hk0 hk hn; omega
  | succ n ih =>
  intro A E h g d t os Q lv k t1 t2 W hd hl hk0 hk hn x
  have hup := wf.up k hk0 hk
  have hlen := wf.len
  refine enter W (by k_is) (by k_is) (by omega) (by rfl) (locs rfl) (fun h₁ t₁ F => ?_) rfl rfl rfl (by decide)
  have hl₁ := hl.ups (Ext.up F.keep)
  have F₁ := FS.of_fr F
  repeat (walk_at "e")
  refine sub_listD hl₁ hk0 (by omega) (mem_at (mem_get hk0 hk)) (fun y hy => ?_) (fun _ => rfl)
  repeat (walk_at "e")
  refine sub_tupD hy (by decide) (by decide) rfl (fun y hy => ?_) (fun _ => rfl)
  obtain ⟨u, rfl⟩ := hy.int
  refine st_loc F₁ (fun h₂ F₂ s₂ => ?_)
  have k₂ : Ext h h₂ := ext_same F.keep s₂ (none_ge (Nat.le_refl _))
  have hl₂ := hl.ups (Ext.up k₂)
  have W₂ := W.keeps k₂
  repeat (walk_at "e")
  by_cases hneg : (mem ms k).1 < 0
  · rw [if_pos (decide_eq_true hneg)]
    repeat (walk_at "e")
    refine e_newList (P := New h) .nil (new_top k₂) (by simp) (fun h₃ v k₃ hv => ?_)
    refine x _ _ _ (k₂.trans k₃) ?_
    rw [doorsN, if_pos hneg]; exact hv
  · rw [if_neg (by simpa using hneg)]
    have ha0 : 0 ≤ (mem ms k).1 := by omega
    have hal : (mem ms k).1 < ms.length := by omega
    repeat (walk_at "e")
    refine wpAny_mono (Q := fun v s => ∃ h' t', v = .bool (opensM ms user (mem ms k).1) ∧ s = ⟨h', g, d, t', os⟩ ∧ Ext h₂ h') ?_ (fun v s q => ?_) (fun _ _ e => e)
    · refine wpAny_And2 ?_
      repeat (walk_at "e")
      refine sub_listD hl₂ ha0 (by omega) (mem_at (mem_get ha0 hal)) (fun y hy => ?_) (fun _ => rfl)
      repeat (walk_at "e")
      refine sub_tupD hy (by decide) (by decide) rfl (fun y hy => ?_) (fun _ => rfl)
      obtain ⟨u, rfl⟩ := hy.int
      repeat (walk_at "e")
      cases hq : (mem ms (mem ms k).1).2.2 / 4096 % 16 == 4 with
      | false => exact ⟨_, _, by rw [opensM, hq]; rfl, rfl, Ext.refl _⟩
      | true =>
        rw [if_pos rfl]
        repeat (walk_at "e")
        refine c_fn W₂ (by k_is) (by k_is) ?_
        repeat (walk_at "e")
        refine ⟨W₂.X, ?_⟩
        refine figure_spec W₂ (by show A.depth + 1 < 500; omega) hl₂ ha0 (by omega) (mem_get ha0 hal) (fun h₃ t₃ u₃ k₃ => ?_)
        repeat (walk_at "e")
        exact ⟨_, _, by rw [opensM, hq]; rfl, rfl, k₃⟩
    obtain ⟨h₃, t₃, rfl, rfl, k₃⟩ := q
    have F₂' := F₂.up k₃.up
    refine st_loc F₂' (fun h₄ F₄ s₄ => ?_)
    have k₄ : Ext h h₄ := ext_same (k₂.trans k₃) s₄ (none_ge (Nat.le_refl _))
    have hl₄ := hl.ups (Ext.up k₄)
    have W₄ := W.keeps k₄
    repeat (walk_at "e")
    refine wpAny_mono (Q := fun v s => ∃ h' t', Is (New h) h' (strsD (if opensM ms user (mem ms k).1 then [] else [(mem ms (mem ms k).1).2.1])) v ∧ s = ⟨h', g, d, t', os⟩ ∧ Ext h₄ h') ?_ (fun v s q => ?_) (fun _ _ e => e)
    · refine wpAny_IfExp ?_
      repeat (walk_at "e")
      cases hq : opensM ms user (mem ms k).1 with
      | true =>
        rw [if_pos rfl]
        repeat (walk_at "e")
        exact e_newList (P := New h) .nil (new_top k₄) (by simp) (fun h₃ v k₃ hv => ⟨_, _, hv, rfl, k₃⟩)
      | false =>
        rw [if_neg (by simp)]
        repeat (walk_at "e")
        refine sub_listD hl₄ ha0 (by omega) (mem_at (mem_get ha0 hal)) (fun y hy => ?_) (fun _ => rfl)
        repeat (walk_at "e")
        refine sub_tupD hy (by decide) (by decide) rfl (fun y hy => ?_) (fun _ => rfl)
        repeat (walk_at "e")
        obtain ⟨u, rfl⟩ := hy.str
        exact e_newList (P := New h) (ds := [.str (mem ms (mem ms k).1).2.1]) (.one (by simp only [Is]; exact ⟨_, rfl⟩)) (new_top k₄) (by simp) (fun h₃ v k₃ hv => ⟨_, _, hv, rfl, k₃⟩)
    obtain ⟨h₅, t₅, hv₅, rfl, k₅⟩ := q
    have k₅' : Ext h h₅ := k₄.trans k₅
    have F₅ := F₄.up k₅.up
    refine c_fn (W.keeps k₅') (by k_is) (by k_is) ?_
    repeat (walk_at "e")
    refine ⟨(W.keeps k₅').X, ?_⟩
    refine ih (W.keeps k₅') ?_ (hl.ups k₅'.up) ha0 hal (by omega) (fun h₆ t₆ v₆ k₆ hv₆ => ?_)
    · show A.depth + 1 + n < 400; omega
    have k₆' : Ext h h₆ := k₅'.trans k₆
    refine e_addL (P := New h) (hv₅.ups' (h' := h₆) k₆) hv₆ (fun _ p => p) (new_mono k₅'.up) (new_top k₆') ?_ (fun h₇ v₇ k₇ hv₇ => ?_)
    · have := doors_len ms user n (mem ms k).1
      rw [List.length_map, List.length_map]
      split <;> simp <;> omega
    repeat (walk_at "e")
    refine x _ _ _ (k₆'.trans k₇) ?_
    rw [doorsN, if_neg hneg]
    simpa [strsD] using hv₇
open PySem.W (kqdP kqdPs kqdOk kqd_lay kqd_eqv kqd_any kqd_layL)
mutual
noncomputable def dat : D → PySem.W.Dat
  | .int i => .int i
  | .str s => .str s
  | .bool b => .bool b
  | .list l => .list (dats l)
  | .tup l => .tuple (dats l)
  | .rng _ => .bool false
noncomputable def dats : List D → List PySem.W.Dat
  | [] => []
  | d :: ds => dat d :: dats ds
end
mutual
theorem Is.reads {P : Addr → Prop} {h : Heap} : ∀ {d : D} {v : Value} (n : Nat), Is P h d v → kqdOk n (dat d) = true → ∃ as, Reads h v (kqdP (dat d)) as
  | .int i, _, _, x, _ => by simp only [Is] at x; obtain ⟨t, rfl⟩ := x; exact ⟨_, Reads.int i t⟩
  | .str i, _, _, x, _ => by simp only [Is] at x; obtain ⟨t, rfl⟩ := x; exact ⟨_, Reads.str i t⟩
  | .bool i, _, n, x, k => by simp only [dat] at k; cases n <;> simp [kqdOk] at k
  | .rng i, _, n, x, k => by simp only [dat] at k; cases n <;> simp [kqdOk] at k
  | .list l, _, 0, x, k => by simp [dat, kqdOk] at k
  | .tup l, _, 0, x, k => by simp [dat, kqdOk] at k
  | .list l, _, n + 1, x, k => by
    simp only [Is] at x
    obtain ⟨a, vs, m, rfl, _, ho, y⟩ := x
    obtain ⟨as, q⟩ := IsAll.reads n y (by simpa [dat, kqdOk] using k)
    rw [dat, kqdP]
    exact ⟨_, reads_list_at ho rfl rfl (by simpa using q)⟩
  | .tup l, _, n + 1, x, k => by
    simp only [Is] at x
    obtain ⟨a, vs, m, rfl, _, ho, y⟩ := x
    obtain ⟨as, q⟩ := IsAll.reads n y (by simpa [dat, kqdOk] using k)
    rw [dat, kqdP]
    exact ⟨_, reads_tuple_at ho rfl rfl (by simpa using q)⟩
theorem IsAll.reads {P : Addr → Prop} {h : Heap} : ∀ {ds : List D} {vs : List Value} (n : Nat), IsAll P h ds vs → (∀ d ∈ dats ds, kqdOk n d = true) → ∃ as, ReadsAll h vs (kqdPs (dats ds)) as
  | [], _, _, x, _ => by simp only [IsAll] at x; subst x; exact ⟨_, ReadsAll.nil⟩
  | d :: ds, _, n, x, k => by
    simp only [IsAll] at x
    obtain ⟨v, r, rfl, y, z⟩ := x
    rw [dats] at k ⊢
    obtain ⟨as, q⟩ := Is.reads n y (k _ (.head _))
    obtain ⟨bs, p⟩ := IsAll.reads n z fun d hm => k d (.tail _ hm)
    rw [kqdPs]
    exact ⟨_, ReadsAll.cons q p⟩
end
theorem shaped_ok {d : PySem.W.Dat} (k : kqdOk 9 d = true) : SeqAt.shaped (kqdP d) = true := by
  have la := kqd_lay 9 d k
  unfold SeqAt.shaped; rw [la.1, Bool.true_and]; exact decide_eq_true (Nat.le_trans la.2 (by decide))
section
variable {prog : Program} {w : World} {A : Around} {E : Value → Shared → Prop} {h : Heap} {g : Array GenState} {d : Drawn} {t : Nat} {os : OsState} {P P' : Addr → Prop} {Q : Value → Shared → Prop}
theorem e_eqD {x y : D} {u v : Value} (a : Is P h x u) (b : Is P' h y v) (ka : kqdOk 9 (dat x) = true) (kb : kqdOk 9 (dat y) = true) (hu : A.units < 9000)
    (q : ∀ b : Bool, (b = true ↔ dat x = dat y) → Q (.bool b) ⟨h, g, d, t, os⟩) : wpAny (model prog w) A (compareOp .Eq u v) Q E ⟨h, g, d, t, os⟩ := by
  obtain ⟨as, ra⟩ := a.reads 9 ka
  obtain ⟨bs, rb⟩ := b.reads 9 kb
  exact eq_dataH ra rb (shaped_ok ka) (shaped_ok kb) (by unfold cLine; omega) (q _ (kqd_eqv 9 _ _ 9 ka kb))
theorem e_neD {x y : D} {u v : Value} (a : Is P h x u) (b : Is P' h y v) (ka : kqdOk 9 (dat x) = true) (kb : kqdOk 9 (dat y) = true) (hu : A.units < 9000)
    (q : ∀ b : Bool, (b = true ↔ dat x = dat y) → Q (.bool !b) ⟨h, g, d, t, os⟩) : wpAny (model prog w) A (compareOp .NotEq u v) Q E ⟨h, g, d, t, os⟩ := by
  obtain ⟨as, ra⟩ := a.reads 9 ka
  obtain ⟨bs, rb⟩ := b.reads 9 kb
  exact ne_dataH ra rb (shaped_ok ka) (shaped_ok kb) (by unfold cLine; omega) (q _ (kqd_eqv 9 _ _ 9 ka kb))
theorem e_inD {x : D} {l : List D} {u v : Value} (a : Is P h x u) (b : Is P' h (.list l) v) (ka : kqdOk 8 (dat x) = true) (kb : ∀ e ∈ dats l, kqdOk 8 e = true) (hu : A.units < 9000)
    (q : ∀ b : Bool, (b = true ↔ dat x ∈ dats l) → Q (.bool b) ⟨h, g, d, t, os⟩) : wpAny (model prog w) A (compareOp .In u v) Q E ⟨h, g, d, t, os⟩ := by
  obtain ⟨as, ra⟩ := a.reads 8 ka
  obtain ⟨bs, rb⟩ := b.reads 9 (by rw [dat]; simpa [kqdOk] using kb)
  have lb := kqd_layL kb
  have la := kqd_lay 8 _ ka
  rw [dat, kqdP] at rb
  refine SeqAt.in_list_reads rb ra lb.1 la.1 ?_ (q _ (kqd_any _ _ kb ka))
  have := Nat.min_le_right (PyData.depthAll (kqdPs (dats l))) (kqdP (dat x)).depth
  have := la.2
  unfold cLine
  omega
theorem dats_nil {l : List D} : dats l = [] ↔ l = [] := by cases l <;> simp [dats]
theorem e_eqNil {l : List D} {u v : Value} (a : Is P h (.list l) u) (b : Is P' h (.list []) v) (ka : kqdOk 9 (dat (.list l)) = true) (hu : A.units < 9000)
    (q : Q (.bool l.isEmpty) ⟨h, g, d, t, os⟩) : wpAny (model prog w) A (compareOp .Eq u v) Q E ⟨h, g, d, t, os⟩ := by
  refine e_eqD a b ka (by simp [dat, dats, kqdOk]) hu fun b hb => ?_
  have e : b = l.isEmpty := by
    rw [Bool.eq_iff_iff, hb, List.isEmpty_iff, dat, dat, PySem.W.Dat.list.injEq, ← dats_nil (l := l)]
    rfl
  rw [e]; exact q
theorem e_neNil {l : List D} {u v : Value} (a : Is P h (.list l) u) (b : Is P' h (.list []) v) (ka : kqdOk 9 (dat (.list l)) = true) (hu : A.units < 9000)
    (q : Q (.bool !l.isEmpty) ⟨h, g, d, t, os⟩) : wpAny (model prog w) A (compareOp .NotEq u v) Q E ⟨h, g, d, t, os⟩ := by
  refine e_neD a b ka (by simp [dat, dats, kqdOk]) hu fun b hb => ?_
  have e : b = l.isEmpty := by
    rw [Bool.eq_iff_iff, hb, List.isEmpty_iff, dat, dat, PySem.W.Dat.list.injEq, ← dats_nil (l := l)]
    rfl
  rw [e]; exact q
end
theorem dats_map {α : Type} (f : α → D) (l : List α) : dats (l.map f) = l.map fun a => dat (f a) := by induction l <;> simp_all [dats]
theorem ok_ints (l : List Int) : kqdOk 9 (dat (.list (l.map .int))) = true := by
  rw [dat, dats_map]; simp [kqdOk, dat]
theorem ok_nats {α : Type} (f : α → Int) (l : List α) : kqdOk 9 (dat (.list (l.map fun a => .int (f a)))) = true := by
  rw [dat, dats_map]; simp [kqdOk, dat]
theorem ok_strs (l : List Str) (h : ∀ s ∈ l, PyData.strOk s = true) : kqdOk 9 (dat (strsD l)) = true := by
  rw [strsD, dat, dats_map]; simpa [kqdOk, dat] using h
theorem ite_T {c : Prop} [Decidable c] {a b : Prop} (h : c) (x : a) : if c then a else b := by rw [if_pos h]; exact x
theorem ite_F {c : Prop} [Decidable c] {a b : Prop} (h : ¬c) (x : b) : if c then a else b := by rw [if_neg h]; exact x
/-- the room that a call leaves -/
structure Rm (A : Around) (n : Nat) : Prop where
  d : A.depth + n < 400
  u : A.units + 8 * n < 4000
  h : A.handled = none
theorem Rm.deeper {A : Around} {n : Nat} (x : Rm A (n + 1)) (env : Env) : Rm (A.deeper env) n := ⟨by have := x.d; show A.depth + 1 + n < 400; omega, by have := x.u; show A.units + 3 + 8 * n < 4000; omega, x.h⟩
theorem Rm.units {A : Around} {n : Nat} (x : Rm A n) : A.units < 9000 := by have := x.u; omega
theorem Rm.depth {A : Around} {n : Nat} (x : Rm A n) : A.depth < 400 := by have := x.d; omega
theorem Rm.mono {A : Around} {n m : Nat} (x : Rm A n) (h : m ≤ n) : Rm A m := ⟨by have := x.d; omega, by have := x.u; omega, x.h⟩
section
variable {prog : Program} {w : World} {A : Around} {E : Value → Shared → Prop} {h : Heap} {g : Array GenState} {d : Drawn} {t : Nat} {os : OsState} {P P' : Addr → Prop} {Q : Value → Shared → Prop}
theorem e_ne {a b : Int} {u v : Tok} (x : Q (.bool (a != b)) ⟨h, g, d, t, os⟩) : wpAny (model prog w) A (compareOp .NotEq (.int a u) (.int b v)) Q E ⟨h, g, d, t, os⟩ := ne_int x
theorem e_cbool {M : Model} {env : Env} {b : Bool} {k : Nat} {pos : Pos} (x : Q (.bool b) ⟨h, g, d, t, os⟩) : wpAny M A (eval (.Constant (.bool b) k pos) env) Q E ⟨h, g, d, t, os⟩ := wpAny_Constant_bool x
theorem e_cstr {M : Model} {env : Env} {b : Str} {k : Nat} {pos : Pos} (x : Q (.str b t) ⟨h, g, d, t + 1, os⟩) : wpAny M A (eval (.Constant (.str b) k pos) env) Q E ⟨h, g, d, t, os⟩ := wpAny_Constant_str x
theorem e_len {l : List D} {v : Value} (x : Is P h (.list l) v) (hl : l.length < 1000000) (q : ∀ u t', Q (.int l.length u) ⟨h, g, d, t', os⟩) : wpAny (model prog w) A (call (.builtin "len") [v]) Q E ⟨h, g, d, t, os⟩ := by
  simp only [Is] at x
  obtain ⟨a, vs, n, rfl, _, ho, y⟩ := x
  have e := y.length
  refine Calls.call_len_list (items := vs.toArray) ⟨_, ho, rfl, n, rfl⟩ (by simp; omega) ?_
  simp only [List.size_toArray, e]
  exact q _ _
theorem e_range {n : Nat} {u : Tok} (hP : P h.objs.size) (q : ∀ h' t' v, Ext h h' → Is P h' (.rng n) v → Q v ⟨h', g, d, t', os⟩) : wpAny (model prog w) A (call (.type "range") [.int n u]) Q E ⟨h, g, d, t, os⟩ := by
  refine call_range_1 (q _ _ _ (ext_push _) ?_)
  simp only [Is]
  exact ⟨_, _, _, _, rfl, hP, IsRange.new ..⟩
end
theorem filter_range_get {α : Type} (q : α → Bool) (dflt : α) (l : List α) : ((List.range l.length).filter (fun i => q (l.getD i dflt))).map (fun i => l.getD i dflt) = l.filter q := by
  have e : l = (List.range l.length).map fun i => l.getD i dflt := by
    apply List.ext_getElem
    · simp
    · intro i h1 h2; simp [h1]
  conv => rhs; rw [e, List.filter_map]
  rfl
theorem Is.rng {P : Addr → Prop} {h : Heap} {n : Nat} {v : Value} (x : Is P h (.rng n) v) : ∃ a t u k, v = .ref a ∧ P a ∧ IsRange h a 0 n 1 t u k := by simpa only [Is] using x
theorem Is.src {P : Addr → Prop} {h : Heap} {l : List D} {v : Value} (x : Is P h (.list l) v) : ∃ Pv, Src h v l.length Pv ∧ ∀ i y, Pv i y → ∃ d, l[i]? = some d ∧ Is P h d y := by
  simp only [Is] at x
  obtain ⟨a, vs, n, rfl, _, ho, y⟩ := x
  have s := Src.lst (h := h) (l := a) (items := vs.toArray) ⟨_, ho, rfl, n, rfl⟩
  have e : vs.toArray.size = l.length := by simp [y.length]
  rw [e] at s
  exact ⟨_, s, fun i v hv => y.get' i v (by simpa using hv)⟩
theorem Is.srcR {P : Addr → Prop} {h : Heap} {n : Nat} {v : Value} (x : Is P h (.rng n) v) : ∃ Pv, Src h v n Pv ∧ ∀ i y, Pv i y → ∃ k, y = .int i k := by
  obtain ⟨a, t, u, k, rfl, _, hr⟩ := x.rng
  exact ⟨_, .rng hr, fun _ _ q => q⟩
local macro_rules | `(tactic| walk_at "e") => `(tactic| first
  | with_reducible refine e_ne ?_
  | with_reducible refine e_cbool ?_
  | with_reducible refine e_cstr ?_
  | ((with_reducible refine ite_T ?hc ?_); (case hc => decide))
  | ((with_reducible refine ite_F ?hc ?_); (case hc => decide))
  | with_reducible refine isTrue_or ?_
  | with_reducible refine isTrue_or_nil ?_)

structure OkD (dss : List (List Str)) : Prop where
  ok : ∀ l ∈ dss, ∀ s ∈ l, PyData.strOk s = true
noncomputable def dsD (dss : List (List Str)) : D := .list (dss.map strsD)
noncomputable def bad1 (ms : List Mem) (dss : List (List Str)) (user k : Int) : Bool := decide (0 ≤ (mem ms k).1) && (!(dss.getD k.toNat []).isEmpty || figI (mem ms (mem ms k).1).2.2 user (mem ms k).1 / 2 % 2 == 0)
noncomputable def bad2 (ms : List Mem) (user k : Int) : Bool := decide (0 ≤ (mem ms k).1) && ((mem ms (mem ms k).1).2.2 / 512 % 2 == 1 && ((user + k) % 3 != 0 && (user + (mem ms k).1) % 3 != 0))
noncomputable def innerN (ms : List Mem) (k : Int) : List Nat := (List.range ms.length).filter fun n => (mem ms n).1 == k
noncomputable def goesN (ms : List Mem) (dss : List (List Str)) (user : Int) : Nat → Int → Bool
  | 0, _ => false
  | n + 1, k => !bad1 ms dss user k && !bad2 ms user k && (!(!(innerN ms k).isEmpty && decide (figI (mem ms k).2.2 user k < 4)) && ((innerN ms k).filter fun i : Nat => !goesN ms dss user n i).isEmpty)
theorem ifs_nil {M : Model} {A : Around} {E : Value → Shared → Prop} {s : Shared} {cenv : Env} {Q : Bool → Shared → Prop} (q : Q true s) : wpAny M A (ifsTree [] cenv) Q E s := wpAny_pure (a := true) q
theorem ifs_one {M : Model} {A : Around} {E : Value → Shared → Prop} {s : Shared} {c : Expr} {cenv : Env} {Q : Bool → Shared → Prop} (q : wpAny M A (isTrue c cenv (eval c cenv)) Q E s) : wpAny M A (ifsTree [c] cenv) Q E s := by
  unfold ifsTree
  rw [List.forIn_cons]
  refine wpAny_bind ?_
  rw [if_pos rfl]
  refine wpAny_bind (wpAny_mono q (fun b s h => ?_) fun _ _ e => e)
  refine wpAny_pure ?_
  exact wpAny_pure h
theorem FS.sx {h h' : Heap} {L : Addr} {m m' : Str → Option Value} {cs : List (Str × Addr)} {cm : Str → Option Value} {fs : List Addr} (F : FS h L m cs cm) (k : SX [L] fs h h') (hn : h'.Ns L m') : FS h' L m' cs cm := by
  refine ⟨hn, fun n c e => ?_, F.apart⟩
  have hc := F.cells n c e
  refine cell_up hc (k.up c fun q => ?_)
  rw [List.mem_singleton.mp q] at hc
  obtain ⟨o, _, _, ho, hd, _⟩ := F.ns
  obtain ⟨o', ho', hd'⟩ := hc
  rw [ho] at ho'; cases ho'; rw [hd] at hd'; cases hd'
theorem SX.ext {h₀ h h' : Heap} {L : Addr} (k : SX [L] [] h h') (k₀ : Ext h₀ h) (hL : h₀.get? L = none) : Ext h₀ h' := fun b o e =>
  k.keep b o (fun q => by rw [List.mem_singleton.mp q, hL] at e; cases e) (by simp) (k₀ b o e)
theorem Stays.nil {h h' : Heap} (k : Stays [] h h') : Ext h h' := fun b o e => k.ex b o (by simp) e
set_option maxRecDepth 100000 in
set_option maxHeartbeats 400000 in
theorem goes_spec {w mg mb} {ms : List Mem} (wf : Wf ms) {dss : List (List Str)} (hds : dss.length = ms.length) (okd : OkD dss) {user : Int} : ∀ (n : Nat) {A : Around} {E : Value → Shared → Prop} {h : Heap} {g : Array GenState} {d : Drawn} {t : Nat} {os : OsState} {Q : Value → Shared → Prop} {lv dv : Value} {k : Int} {t1 t2 : Tok}
    (W : Wd w mg mb h) (hd : Rm A (n + 1)) (hl : Is Any h (memD ms) lv) (hdv : Is Any h (dsD dss) dv) (hk0 : 0 ≤ k) (hk : k < ms.length) (hn : ms.length - k < n)
    (x : ∀ h' g' t', Ext h h' → GK g g' → Q (.bool (goesN ms dss user n k)) ⟨h', g', d, t', os⟩),
    wpAny (model PG w) A (call (.ref 232) [lv, dv, .int user t1, .int k t2]) Q E ⟨h, g, d, t, os⟩ := by
  intro n
  induction n with
  | zero => intro A E h g d t os Q lv dv k t1 t2 W hd hl hdv hk0 hk hn; omega
  | succ n ih =>
  intro A E h g d t os Q lv dv k t1 t2 W hd hl hdv hk0 hk hn x
  have hup := wf.up k hk0 hk
  have hlen := wf.len
  refine enterC W (by k_is) (by k_is) (by have := hd.d; omega) (by rfl) (by rfl) (fun h₁ t₁ k₁ F₁ hab => ?_) rfl rfl rfl
  have hl₁ := hl.ups (Ext.up k₁)
  repeat (walk_at "e")
  refine sub_listD hl₁ hk0 (by omega) (mem_at (mem_get hk0 hk)) (fun y hy => ?_) (fun _ => rfl)
  repeat (walk_at "e")
  refine sub_tupD hy (by decide) (by decide) rfl (fun y hy => ?_) (fun _ => rfl)
  obtain ⟨u, rfl⟩ := hy.int
  refine st_loc F₁ (fun h₂ F₂ s₂ => ?_)
  have k₂ : Ext h h₂ := ext_same k₁ s₂ (none_ge (Nat.le_refl _))
  have hl₂ := hl.ups (Ext.up k₂)
  have hdv₂ := hdv.ups (Ext.up k₂)
  have W₂ := W.keeps k₂
  have hd₁ := hd.deeper
  refine wpAny_execs_cons ?_
  refine wpAny_mono (Q := fun fl s => ∃ h' t', s = ⟨h', g, d, t', os⟩ ∧ Ext h₂ h' ∧ ((fl = .ret (.bool false) ∧ (bad1 ms dss user k || bad2 ms user k) = true) ∨ (fl = .next ∧ bad1 ms dss user k = false ∧ bad2 ms user k = false))) ?_ (fun fl s q => ?_) (fun _ _ e => e)
  · repeat (walk_at "e")
    by_cases ha0 : 0 ≤ (mem ms k).1
    · rw [if_pos (decide_eq_true ha0)]
      have hal : (mem ms k).1 < ms.length := by omega
      have hb1 : bad1 ms dss user k = (!(dss.getD k.toNat []).isEmpty || figI (mem ms (mem ms k).1).2.2 user (mem ms k).1 / 2 % 2 == 0) := by rw [bad1, decide_eq_true ha0, Bool.true_and]
      have hb2 : bad2 ms user k = ((mem ms (mem ms k).1).2.2 / 512 % 2 == 1 && ((user + k) % 3 != 0 && (user + (mem ms k).1) % 3 != 0)) := by rw [bad2, decide_eq_true ha0, Bool.true_and]
      refine wpAny_execs_cons ?_
      refine wpAny_mono (Q := fun fl s => ∃ h' t', s = ⟨h', g, d, t', os⟩ ∧ Ext h₂ h' ∧ ((fl = .ret (.bool false) ∧ bad1 ms dss user k = true) ∨ (fl = .next ∧ bad1 ms dss user k = false))) ?_ (fun fl s q => ?_) (fun _ _ e => e)
      · repeat (walk_at "e")
        have hdk : dss[k.toNat]? = some (dss.getD k.toNat []) := by rw [List.getD_eq_getElem?_getD, List.getElem?_eq_getElem (by omega)]; rfl
        refine sub_listD hdv₂ hk0 (by omega) (d' := strsD (dss.getD k.toNat [])) (by rw [List.getElem?_map, hdk]; rfl) (fun y hy => ?_) (fun _ => rfl)
        repeat (walk_at "e")
        refine e_newList (P := Any) .nil trivial (by simp) (fun h₃ v k₃ hv => ?_)
        refine e_neNil (hy.ups k₃.up) hv (ok_strs _ (okd.ok _ (List.mem_of_getElem? hdk))) (hd₁ _).units ?_
        repeat (walk_at "e")
        rw [List.isEmpty_map]
        cases hq : (dss.getD k.toNat []).isEmpty with
        | false =>
          rw [hq] at hb1
          repeat (walk_at "e")
          exact ⟨_, _, rfl, k₃, .inl ⟨rfl, by rw [hb1]; rfl⟩⟩
        | true =>
          rw [hq, Bool.not_true, Bool.false_or] at hb1
          repeat (walk_at "e")
          have F₃ := F₂.up k₃.up
          refine c_fn (W₂.keeps k₃) (by k_is) (by k_is) ?_
          repeat (walk_at "e")
          refine ⟨(W₂.keeps k₃).X, ?_⟩
          refine figure_spec (W₂.keeps k₃) ?_ (hl₂.ups k₃.up) ha0 (by omega) (mem_get ha0 hal) (fun h₄ t₄ u₄ k₄ => ?_)
          · have := (hd₁ default).depth; exact Nat.lt_trans this (by decide)
          repeat (walk_at "e")
          cases hq2 : figI (mem ms (mem ms k).1).2.2 user (mem ms k).1 / 2 % 2 == 0 with
          | true =>
            repeat (walk_at "e")
            exact ⟨_, _, rfl, k₃.trans k₄, .inl ⟨rfl, by rw [hb1, hq2]⟩⟩
          | false =>
            repeat (walk_at "e")
            exact ⟨_, _, rfl, k₃.trans k₄, .inr ⟨rfl, by rw [hb1, hq2]⟩⟩
      · obtain ⟨h₃, t₃, rfl, k₃, ⟨rfl, hb⟩ | ⟨rfl, hb⟩⟩ := q
        · exact ⟨_, _, rfl, k₃, .inl ⟨rfl, by rw [hb]; rfl⟩⟩
        have F₃ := F₂.up k₃.up
        have hl₃ := hl₂.ups k₃.up
        repeat (walk_at "e")
        refine sub_listD hl₃ ha0 (by omega) (mem_at (mem_get ha0 hal)) (fun y hy => ?_) (fun _ => rfl)
        repeat (walk_at "e")
        refine sub_tupD hy (by decide) (by decide) rfl (fun y hy => ?_) (fun _ => rfl)
        obtain ⟨u, rfl⟩ := hy.int
        repeat (walk_at "e")
        cases hq1 : (mem ms (mem ms k).1).2.2 / 512 % 2 == 1 with
        | false =>
          repeat (walk_at "e")
          exact ⟨_, _, rfl, k₃, .inr ⟨rfl, hb, by rw [hb2, hq1]; rfl⟩⟩
        | true =>
        repeat (walk_at "e")
        cases hq2 : (user + k) % 3 != 0 with
        | false =>
          repeat (walk_at "e")
          exact ⟨_, _, rfl, k₃, .inr ⟨rfl, hb, by rw [hb2, hq1, hq2]; rfl⟩⟩
        | true =>
        repeat (walk_at "e")
        cases hq3 : (user + (mem ms k).1) % 3 != 0 with
        | false =>
          repeat (walk_at "e")
          exact ⟨_, _, rfl, k₃, .inr ⟨rfl, hb, by rw [hb2, hq1, hq2, hq3]; rfl⟩⟩
        | true =>
          repeat (walk_at "e")
          exact ⟨_, _, rfl, k₃, .inl ⟨rfl, by rw [hb, hb2, hq1, hq2, hq3]; rfl⟩⟩
    · rw [if_neg (by simpa using ha0)]
      repeat (walk_at "e")
      exact ⟨_, _, rfl, Ext.refl _, .inr ⟨rfl, by rw [bad1, decide_eq_false ha0, Bool.false_and], by rw [bad2, decide_eq_false ha0, Bool.false_and]⟩⟩
  obtain ⟨h₃, t₃, rfl, k₃, ⟨rfl, hb⟩ | ⟨rfl, hb1, hb2⟩⟩ := q
  · refine (show goesN ms dss user (n + 1) k = false from ?_) ▸ x _ _ _ (k₂.trans k₃) id
    rw [goesN]
    cases h1 : bad1 ms dss user k <;> cases h2 : bad2 ms user k <;> simp_all
  have F₃ := F₂.up k₃.up
  have k₃' := k₂.trans k₃
  have hl₃ := hl.ups k₃'.up
  have W₃ := W.keeps k₃'
  refine wpAny_execs_cons ?_
  refine assign_comp (os := os) (d := d) (fs := []) (p := fun n => (mem ms n).1 == k) (f := fun n => .int n) (by rfl) hd.h (by rfl) (by decide) (by rfl) (by decide) (by rfl) (by rfl) (by rfl) ?_ (by intro _; rfl)
  refine c_type1 W₃ (by k_is) (by rfl) ?_
  refine c_blt1 W₃ (by k_is) (by rfl) ?_
  repeat (walk_at "e")
  refine e_len hl₃ (by rw [List.length_map]; omega) (fun u₄ t₄ => ?_)
  rw [List.length_map]
  refine e_range (P := New h) (new_top k₃') (fun h₄ t₅ rv k₄ hrv => ?_)
  obtain ⟨Pv, S, hPv⟩ := hrv.srcR
  have F₄ := F₃.up k₄.up
  have k₄' := k₃'.trans k₄
  refine ⟨h₄, g, t₅, ms.length, Pv, _, S, (fun _ q => by cases q), by omega, F₄.ns, ⟨?_, ?_⟩, ?_⟩
  · intro C i v h₅ g₅ t₆ m₅ hi hP hs hG hC hns hm
    obtain ⟨ki, rfl⟩ := hPv i v hP
    have F₅ := F₄.up hs.up
    have hl₅ := hl.ups (k₄'.trans hs.nil).up
    have c₅ := F₅.cells
    have hi' : ((i : Int)).toNat = i := by omega
    refine ifs_one ?_
    repeat (walk_at "e")
    refine n_loc (v := .int i ki) hns (by rfl) hm ?_
    refine sub_listD hl₅ (by omega) (by omega) (mem_at (mem_get (k := i) (by omega) (by omega))) (fun y hy => ?_) (fun _ => rfl)
    repeat (walk_at "e")
    refine sub_tupD hy (by decide) (by decide) rfl (fun y hy => ?_) (fun _ => rfl)
    obtain ⟨u, rfl⟩ := hy.int
    repeat (walk_at "e")
    exact ⟨rfl, _, _, _, rfl, .refl .., id⟩
  · intro C i v h₅ g₅ t₆ m₅ hi hP hpi hs hG hC hns hm
    obtain ⟨ki, rfl⟩ := hPv i v hP
    refine n_loc (v := .int i ki) hns (by rfl) hm ?_
    exact ⟨_, _, _, rfl, .refl .., id, by simp only [Is]; exact ⟨_, rfl⟩⟩
  · intro h₅ g₅ t₆ iv k₅ hn₅ hG₅ hiv
    have F₅ := F₄.sx k₅ hn₅
    have k₅' : Ext h h₅ := k₅.ext k₄' (none_ge (Nat.le_refl _))
    have hl₅ := hl.ups k₅'.up
    have W₅ := W.keeps k₅'
    have hiv : Is Any h₅ (.list ((innerN ms k).map fun n : Nat => .int n)) iv := hiv.any
    refine wpAny_execs_cons ?_
    refine wpAny_mono (Q := fun fl s => ∃ h' t', s = ⟨h', g₅, d, t', os⟩ ∧ Ext h₅ h' ∧ ((fl = .ret (.bool false) ∧ (!(innerN ms k).isEmpty && decide (figI (mem ms k).2.2 user k < 4)) = true) ∨ (fl = .next ∧ (!(innerN ms k).isEmpty && decide (figI (mem ms k).2.2 user k < 4)) = false))) ?_ (fun fl s q => ?_) (fun _ _ e => e)
    · repeat (walk_at "e")
      refine e_newList (P := Any) .nil trivial (by simp) (fun h₆ v k₆ hv => ?_)
      refine e_neNil (hiv.ups k₆.up) hv (ok_nats _ _) (hd₁ _).units ?_
      rw [List.isEmpty_map]
      cases hq : (innerN ms k).isEmpty with
      | true =>
        repeat (walk_at "e")
        exact ⟨_, _, rfl, k₆, .inr ⟨rfl, rfl⟩⟩
      | false =>
        repeat (walk_at "e")
        have F₆ := F₅.up k₆.up
        refine c_fn (W₅.keeps k₆) (by k_is) (by k_is) ?_
        repeat (walk_at "e")
        refine ⟨(W₅.keeps k₆).X, ?_⟩
        refine figure_spec (W₅.keeps k₆) ?_ (hl₅.ups k₆.up) hk0 (by omega) (mem_get hk0 hk) (fun h₇ t₇ u₇ k₇ => ?_)
        · have := (hd₁ default).depth; exact Nat.lt_trans this (by decide)
        repeat (walk_at "e")
        cases hq2 : decide (figI (mem ms k).2.2 user k < 4) with
        | true =>
          repeat (walk_at "e")
          exact ⟨_, _, rfl, k₆.trans k₇, .inl ⟨rfl, rfl⟩⟩
        | false =>
          repeat (walk_at "e")
          exact ⟨_, _, rfl, k₆.trans k₇, .inr ⟨rfl, rfl⟩⟩
    obtain ⟨h₆, t₆, rfl, k₆, ⟨rfl, hc⟩ | ⟨rfl, hc⟩⟩ := q
    · refine (show goesN ms dss user (n + 1) k = false from ?_) ▸ x _ _ _ (k₅'.trans k₆) hG₅
      rw [goesN, hc]; simp
    have F₆ := F₅.up k₆.up
    have k₆' := k₅'.trans k₆
    have hl₆ := hl.ups k₆'.up
    have hdv₆ := hdv.ups k₆'.up
    have W₆ := W.keeps k₆'
    have hiv₆ := hiv.ups k₆.up
    repeat (walk_at "e")
    obtain ⟨Pw, S₂, hPw⟩ := hiv₆.src
    rw [List.length_map] at S₂
    have hin : (innerN ms k).length ≤ 50 := by
      have e2 : ((List.range ms.length).filter fun n => (mem ms (n : Nat)).1 == k).length ≤ (List.range ms.length).length := List.length_filter_le _ _
      rw [List.length_range] at e2
      exact Nat.le_trans e2 hlen
    have hmem : ∀ i y, Pw i y → i < (innerN ms k).length → ∃ ki, y = .int ((innerN ms k).getD i 0 : Nat) ki := by
      intro i y hP hi
      obtain ⟨dd, hdd, hy⟩ := hPw i y hP
      rw [List.getElem?_map, List.getElem?_eq_getElem hi] at hdd
      cases hdd
      obtain ⟨ki, rfl⟩ := hy.int
      exact ⟨ki, by rw [List.getD_eq_getElem?_getD, List.getElem?_eq_getElem hi]; rfl⟩
    refine eval_comp (os := os) (d := d) (fs := []) (p := fun i => !goesN ms dss user n ((innerN ms k).getD i 0 : Nat)) (f := fun i => .int ((innerN ms k).getD i 0 : Nat)) hd.h (by rfl) (by decide) (by rfl) (by decide) (by rfl) ?_ (by intro _; rfl)
    repeat (walk_at "e")
    refine ⟨h₆, g₅, t₆, _, Pw, S₂, (fun _ q => by cases q), by omega, ⟨?_, ?_⟩, ?_⟩
    · intro C i v h₇ g₇ t₇ m₇ hi hP hs hG hC hns hm
      obtain ⟨ki, rfl⟩ := hmem i v hP hi
      have F₇ := F₆.up hs.up
      have k₇ := k₆'.trans hs.nil
      have c₇ := F₇.cells
      have W₇ := W.keeps k₇
      have hj : (innerN ms k).getD i 0 ∈ innerN ms k := by
        rw [List.getD_eq_getElem?_getD, List.getElem?_eq_getElem hi]; exact List.getElem_mem hi
      have hj2 := List.mem_filter.mp hj
      have hjl := List.mem_range.mp hj2.1
      have hjk : (mem ms ((innerN ms k).getD i 0 : Nat)).1 = k := by simpa using hj2.2
      have hju := wf.up ((innerN ms k).getD i 0 : Nat) (by omega) (by omega)
      refine ifs_one ?_
      repeat (walk_at "e")
      refine isTrue_plain ?_ (by rfl)
      refine c_fn W₇ (by k_is) (by k_is) ?_
      repeat (walk_at "e")
      refine n_loc (v := .int ((innerN ms k).getD i 0 : Nat) ki) hns (by rfl) hm ?_
      repeat (walk_at "e")
      refine ⟨W₇.X, ?_⟩
      refine ih W₇ (hd₁ _) (hl.ups k₇.up) (hdv.ups k₇.up) (by omega) (by omega) (by omega) (fun h₈ g₈ t₈ k₈ hG₈ => ?_)
      repeat (walk_at "e")
      exact ⟨rfl, _, _, _, rfl, k₈.stays, hG₈⟩
    · intro C i v h₇ g₇ t₇ m₇ hi hP hpi hs hG hC hns hm
      obtain ⟨ki, rfl⟩ := hmem i v hP hi
      refine n_loc (v := .int ((innerN ms k).getD i 0 : Nat) ki) hns (by rfl) hm ?_
      exact ⟨_, _, _, rfl, .refl .., id, by simp only [Is]; exact ⟨_, rfl⟩⟩
    · intro h₇ g₇ t₇ rv hs hG hrv
      repeat (walk_at "e")
      refine e_newList (P := Any) .nil trivial (by simp) (fun h₈ v k₈ hv => ?_)
      refine e_eqNil (hrv.any.ups k₈.up) hv (ok_nats _ _) (hd₁ _).units ?_
      rw [List.isEmpty_map]
      have e1 := filter_range_get (fun j : Nat => !goesN ms dss user n j) 0 (innerN ms k)
      have e2 : goesN ms dss user (n + 1) k = (List.filter (fun i => !goesN ms dss user n ((innerN ms k).getD i 0 : Nat)) (List.range (innerN ms k).length)).isEmpty := by
        rw [goesN, hb1, hb2, hc, ← e1, List.isEmpty_map]
        rfl
      rw [← e2]
      exact x _ _ _ ((k₆'.trans hs.nil).trans k₈) (fun q => hG (hG₅ q))
noncomputable def Sc : D → Bool
  | .int _ => true
  | .str _ => true
  | .bool _ => true
  | _ => false
noncomputable def Flat : D → Bool
  | .tup l => l.all Sc
  | d => Sc d
theorem Is.sc {P : Addr → Prop} {h h' : Heap} {d : D} {v : Value} (x : Is P h d v) (hf : Sc d = true) : Is P h' d v := by
  cases d <;> simp only [Sc] at hf <;> first | (simp only [Is] at x ⊢; exact x) | cases hf
theorem IsAll.sc {P : Addr → Prop} {h h' : Heap} : ∀ {ds : List D} {vs : List Value}, IsAll P h ds vs → ds.all Sc = true → IsAll P h' ds vs
  | [], _, x, _ => by simp only [IsAll] at x ⊢; exact x
  | d :: ds, _, x, hf => by
    simp only [IsAll] at x ⊢
    simp only [List.all_cons, Bool.and_eq_true] at hf
    obtain ⟨v, r, e, y, z⟩ := x
    exact ⟨v, r, e, y.sc hf.1, z.sc hf.2⟩
theorem Is.flat {P : Addr → Prop} {h h' : Heap} {a : Addr} {o : Obj} {d : D} {v : Value} (ho : h.get? a = some o) (hc : o.cls ≠ .type "tuple") (hs : Heap.SameBut a h h') (x : Is P h d v) (hf : Flat d = true) : Is P h' d v := by
  cases d with
  | tup l =>
    simp only [Is] at x ⊢
    obtain ⟨b, vs, n, e, p, hb, y⟩ := x
    refine ⟨b, vs, n, e, p, hs.extBut b _ ?_ hb, y.sc hf⟩
    rintro rfl
    rw [ho] at hb; cases hb; exact hc rfl
  | _ => first | exact x.sc hf | (simp [Flat, Sc] at hf)
theorem IsAll.flat {P : Addr → Prop} {h h' : Heap} {a : Addr} {o : Obj} (ho : h.get? a = some o) (hc : o.cls ≠ .type "tuple") (hs : Heap.SameBut a h h') : ∀ {ds : List D} {vs : List Value}, IsAll P h ds vs → ds.all Flat = true → IsAll P h' ds vs
  | [], _, x, _ => by simp only [IsAll] at x ⊢; exact x
  | d :: ds, _, x, hf => by
    simp only [IsAll] at x ⊢
    simp only [List.all_cons, Bool.and_eq_true] at hf
    obtain ⟨v, r, e, y, z⟩ := x
    exact ⟨v, r, e, y.flat ho hc hs hf.1, IsAll.flat ho hc hs z hf.2⟩
section
variable {prog : Program} {w : World} {A : Around} {E : Value → Shared → Prop} {h : Heap} {g : Array GenState} {d : Drawn} {t : Nat} {os : OsState} {P P' : Addr → Prop} {Q : Value → Shared → Prop}
theorem e_append {ds : List D} {x : D} {a : Addr} {y : Value} (l : Is P h (.list ds) (.ref a)) (z : Is P' h x y) (hP : ∀ b, P' b → P b) (hf : (ds ++ [x]).all Flat = true) (hsz : ds.length ≤ 10000)
    (q : ∀ h', Heap.SameBut a h h' → Is P h' (.list (ds ++ [x])) (.ref a) → Q .none ⟨h', g, d, t, os⟩) : wpAny (model prog w) A (call (.builtin "list.append") [.ref a, y]) Q E ⟨h, g, d, t, os⟩ := by
  simp only [Is] at l
  obtain ⟨b, vs, n, e, p, ho, r⟩ := l
  cases e
  have el := r.length
  refine append_at ho (fun h' hs ho' => q h' hs ?_) (by simp [sizeLine]; omega)
  simp only [Is]
  have e1 : vs.toArray.push y = (vs ++ [y]).toArray := by simp
  rw [e1] at ho'
  exact ⟨a, _, _, rfl, p, ho', IsAll.flat ho (by simp) hs (r.append (.one (z.weaken hP))) hf⟩
/-- iteration, with what it leans on -/
theorem src_iter' {fs : List Addr} {xv : Value} {n : Nat} {Pv : Nat → Value → Prop} {Q : Value → Shared → Prop} (hh : A.handled = none) (S : Src h xv n Pv) (hf : FrOk fs h) (hn : n ≤ 1000)
    (hQ : ∀ h₂ I fp St, Ext h h₂ → h.get? I = none → Walks prog w A I fp [I] n Pv St → St 0 h₂ → (∀ i h', St i h' → ∃ o, h'.get? I = some o) → (∀ b ∈ fp, b ∉ fs ∧ (b = I ∨ xv = .ref b)) → Q (.ref I) ⟨h₂, g, d, t, os⟩) :
    wpAny (model prog w) A (pyIter xv) Q E ⟨h, g, d, t, os⟩ := by
  have hI : h.objs.size ∉ fs := hf.new (none_ge (Nat.le_refl _))
  cases S with
  | @rng r t' u' v' _ x =>
    have hs : Builtin.Range.small 0 n 1 = true := small_one (by decide) (by decide) (by omega) (by omega)
    refine wpAny_pyIter_range x hs (hQ _ h.objs.size [h.objs.size] _ (fun b o e => Heap.get?_push_of_some _ e) (none_ge (Nat.le_refl _)) (Walks.rangeUp hh _ n) ?_ ?_ ?_)
    · have := Heap.get?_push_size h (o := { cls := .type "range_iterator", data := .fields #[rawInt 0, rawInt (Builtin.Range.rangeSize 0 n 1), rawInt 1] }) rfl
      rw [rangeSize_up] at this
      show IsRangeIter _ _ ((0 : Nat) : Int) ((n : Int) - ((0 : Nat) : Int)) 1
      rw [rangeSize_up, show (n : Int) - ((0 : Nat) : Int) = n by omega]
      exact this
    · exact fun i h' st => ⟨_, st⟩
    · intro b hb
      rw [List.mem_singleton.mp hb]
      exact ⟨hI, .inl rfl⟩
  | @lst l items x =>
    obtain ⟨o, ho, hc, n', hd⟩ := id x
    have hl : l < h.objs.size := Heap.lt_size ho
    refine wpAny_pyIter_list x (hQ _ h.objs.size [h.objs.size, l] _ (fun b o e => Heap.get?_push_of_some _ e) (none_ge (Nat.le_refl _)) (Walks.list hh _ l (Nat.ne_of_lt hl) items) ⟨⟨_, Heap.get?_push_size _ rfl, rfl, rfl⟩, x.push _⟩ ?_ ?_)
    · exact fun i h' st => let ⟨o, e, _⟩ := st.1; ⟨o, e⟩
    · intro b hb
      rcases List.mem_cons.mp hb with rfl | hb
      · exact ⟨hI, .inl rfl⟩
      · rw [List.mem_singleton.mp hb]
        exact ⟨hf.not ho (fun es ep q => by rw [hd] at q; cases q), .inr rfl⟩
inductive ForHit (prog : Program) (w : World) (A : Around) (env : Env) (x : Str) (body orelse : List Stmt) (fs : List Addr) (d : Drawn) (os : OsState) (Q : Flow → Shared → Prop) : Value → Shared → Prop where
  | mk {xv : Value} (h : Heap) (g : Array GenState) (t n : Nat) (Pv : Nat → Value → Prop) (J : Addr → Nat → Heap → Array GenState → Prop) (ex : List Addr) (S : Src h xv n Pv) (hf : FrOk fs h) (hn : n ≤ 1000)
      (hex : ∀ b ∈ ex, xv ≠ .ref b ∧ ∃ o, h.get? b = some o)
      (hJ : ∀ I i h₁ h₂ g₁, h.get? I = none → J I i h₁ g₁ → (∀ b o, b ≠ I → h₁.get? b = some o → h₂.get? b = some o) → J I i h₂ g₁)
      (h0 : ∀ I h₁, h.get? I = none → Ext h h₁ → J I 0 h₁ g)
      (step : ∀ I i v h₁ g₁ t₁, h.get? I = none → i < n → Pv i v → J I i h₁ g₁ → (∃ o, h₁.get? I = some o) → wpAny (model prog w) A (storeName env x v) (fun _ s₂ => wpAny (model prog w) A (execs body env) (fun f s₃ => match f with
        | .next | .cont => ∃ h₃ g₃ t₃, s₃ = ⟨h₃, g₃, d, t₃, os⟩ ∧ SX ex fs h₁ h₃ ∧ J I (i + 1) h₃ g₃
        | .brk => Q .next s₃
        | .ret v => Q (.ret v) s₃) (fun _ _ => False) s₂) (fun _ _ => False) ⟨h₁, g₁, d, t₁, os⟩)
      (done : ∀ I h₁ g₁ t₁, h.get? I = none → J I n h₁ g₁ → wpAny (model prog w) A (execs orelse env) Q (fun _ _ => False) ⟨h₁, g₁, d, t₁, os⟩) : ForHit prog w A env x body orelse fs d os Q xv ⟨h, g, d, t, os⟩
theorem for_src {iter : Expr} {x : Str} {px pos : Pos} {body orelse : List Stmt} {env : Env} {fs : List Addr} {s : Shared} {Q : Flow → Shared → Prop} (hh : A.handled = none)
    (hit : wpAny (model prog w) A (eval iter env) (ForHit prog w A env x body orelse fs d os Q) E s)
    (hs : ∀ x, foldedSetIterable iter env x = pure x := by intro _; rfl) :
    wpAny (model prog w) A (exec (.For (.Name x px) iter body orelse pos) env) Q E s := by
  refine wpAny_For (wpAny_mono hit (fun xv s₁ h₁ => ?_) fun _ _ e => e) hs
  obtain ⟨h, g, t, n, Pv, J, ex, S, hf, hn, hex, hJ, h0, step, done⟩ := h₁
  refine src_iter' hh S hf hn fun h₂ I fp St k₀ hI W hst hlive hfp => ?_
  have hfx : ∀ b ∈ fp, b ∉ ex ∧ b ∉ fs := fun b hb => by
    refine ⟨fun q => ?_, (hfp b hb).1⟩
    obtain ⟨h1, o, h2⟩ := hex b q
    rcases (hfp b hb).2 with rfl | e
    · rw [hI] at h2; cases h2
    · exact h1 e
  refine codeAny_forLoop (fun k s' => ∃ i h' g' t', s' = ⟨h', g', d, t', os⟩ ∧ St i h' ∧ J I i h' g' ∧ i ≤ n ∧ k = n + 1 - i) ?_ (n + 1) ⟨0, h₂, g, t, rfl, hst, h0 I h₂ hI k₀, Nat.zero_le _, rfl⟩
  rintro k s' ⟨i, h', g', t', rfl, hst', hJ', hi, rfl⟩
  by_cases hlt : i < n
  · refine W.item i _ _ _ hlt hst' fun v h₁ tk₁ hPv hst₁ hk₁ => ?_
    refine wpAny_assign_Name ?_
    refine wpAny_mono (step I i v h₁ g' tk₁ hI hlt hPv (hJ I i h' h₁ g' hI hJ' fun b o hb e => hk₁ b o (by simpa using hb) e) (hlive _ _ hst₁)) (fun _ s₂ h₂ => wpAny_mono h₂ (fun f s₃ h₃ => ?_) fun _ _ q => q.elim) fun _ _ q => q.elim
    have fin : (∃ h₃ g₃ t₃, s₃ = ⟨h₃, g₃, d, t₃, os⟩ ∧ SX ex fs h₁ h₃ ∧ J I (i + 1) h₃ g₃) → ∃ m, m < n + 1 - i ∧ ∃ i h' g' t', s₃ = ⟨h', g', d, t', os⟩ ∧ St i h' ∧ J I i h' g' ∧ i ≤ n ∧ m = n + 1 - i := by
      rintro ⟨ha, ga, ta, rfl, k₃, J₃⟩
      exact ⟨n + 1 - (i + 1), by omega, i + 1, ha, ga, ta, rfl, W.frame _ _ _ hst₁ (fun b hb o e => k₃.keep b o (hfx b hb).1 (hfx b hb).2 e), J₃, hlt, rfl⟩
    cases f with
    | next => exact fin h₃
    | cont => exact fin h₃
    | brk => exact h₃
    | ret v => exact h₃
  · have hin : i = n := by omega
    subst hin
    refine W.done _ _ _ hst' fun h₁ tk₁ hk₁ => ?_
    exact wpAny_mono (done I h₁ g' tk₁ hI (hJ I i h' h₁ g' hI hJ' fun b o hb e => hk₁ b o (by simpa using hb) e)) (fun f s₃ h₃ => h₃) fun _ _ q => q.elim
end
/-- n times the sign c -/
noncomputable def rep (c n : Nat) : Str := ⟨(List.replicate n c).toArray⟩
theorem foldl_one (c : Nat) : ∀ (n : Nat) (a : Array Nat), (List.replicate n #[c]).foldl (· ++ ·) a = a ++ (List.replicate n c).toArray
  | 0, a => by simp
  | n + 1, a => by
    rw [List.replicate_succ, List.foldl_cons, foldl_one c n]
    apply Array.ext'
    simp [List.replicate_succ]
theorem mul_one_sign (c : Nat) (n : Int) : PySem.Txt.mul ⟨#[c]⟩ n = rep c n.toNat := by
  unfold PySem.Txt.mul rep
  by_cases h : n < 1
  · rw [if_pos h, show n.toNat = 0 by omega]; rfl
  · rw [if_neg h]
    by_cases h2 : (n == 1 || (⟨#[c]⟩ : Str).length == 0) = true
    · rw [if_pos h2]
      have : n = 1 := by
        rcases Bool.or_eq_true _ _ ▸ h2 with q | q
        · simpa using q
        · simp [Str.length] at q
      subst this; rfl
    · rw [if_neg h2, foldl_one]; simp
section
variable {prog : Program} {w : World} {A : Around} {E : Value → Shared → Prop} {h : Heap} {g : Array GenState} {d : Drawn} {t : Nat} {os : OsState} {P P' : Addr → Prop} {Q : Value → Shared → Prop}
theorem e_mulS {x : Str} {c : Nat} {n : Int} {u v : Tok} (hx : x = ⟨#[c]⟩) (hn : n < 1000) (hn2 : -1000 < n) (q : ∀ t' u', Q (.str (rep c n.toNat) u') ⟨h, g, d, t', os⟩) :
    wpAny (model prog w) A (binaryOp .Mult (.str x u) (.int n v)) Q E ⟨h, g, d, t, os⟩ := by
  subst hx
  refine SB.mul ⟨?_, ?_, ?_⟩ (fun u' t' => by rw [mul_one_sign]; exact q _ _)
  · simp; omega
  · intro h1 _
    have e1 : (1 : Int) ≤ (2 ^ 63 - 1) / n := by
      apply (Int.le_ediv_iff_mul_le (by omega)).mpr; omega
    show ¬ ((1 : Int) > _)
    omega
  · intro h1 _
    show Builtin.Str.tooLong (1 * n.toNat) = false
    unfold Builtin.Str.tooLong
    simp [sizeLine]; omega
theorem e_addS {x y : Str} {u v : Tok} (hx : x.length ≤ 10000) (hy : y.length ≤ 10000) (q : ∀ t' u', Q (.str (x ++ y) u') ⟨h, g, d, t', os⟩) :
    wpAny (model prog w) A (binaryOp .Add (.str x u) (.str y v)) Q E ⟨h, g, d, t, os⟩ := add_str (fun _ _ => q _ _) (by simp [sizeLine]; omega)
end
theorem ints_all {P : Addr → Prop} {h : Heap} : ∀ {vs : List Value} {ns : List Int}, IntsAre vs ns → IsAll P h (ns.map .int) vs
  | _, _, .nil => .nil
  | _, _, .cons i t r => by
    simp only [List.map_cons, IsAll]
    exact ⟨_, _, rfl, by simp only [Is]; exact ⟨_, rfl⟩, ints_all r⟩
theorem FS.list {h h' : Heap} {L a : Addr} {m : Str → Option Value} {cs : List (Str × Addr)} {cm : Str → Option Value} {o : Obj} {vs : Array Value} {n : Nat} (F : FS h L m cs cm) (ho : h.get? a = some o) (hd : o.data = .seq vs n) (hs : Heap.SameBut a h h') : FS h' L m cs cm := by
  refine ⟨F.ns.sameBut hs ?_, fun n' c e => ?_, F.apart⟩
  · rintro rfl
    obtain ⟨o', _, _, ho', hd', _⟩ := F.ns
    rw [ho] at ho'; cases ho'; rw [hd] at hd'; cases hd'
  · have hc := F.cells n' c e
    refine hc.sameBut hs ?_
    rintro rfl
    obtain ⟨o', ho', hd'⟩ := hc
    rw [ho] at ho'; cases ho'; rw [hd] at hd'; cases hd'
noncomputable def nextM (ms : List Mem) (x : Int) : Mem :=
  let above := x % (ms.length + 1) - 1
  let rest := x / (ms.length + 1)
  (above, (if 0 ≤ above then ((mem ms above).2.1 ++ Str.ofString "/") ++ rep 47 (rest % 2).toNat else rep 47 (rest % 2).toNat) ++ rep 97 (ms.length + 1), Builtin.bitXor (rest / 2) 16873 % 4294967296)
noncomputable def membersN (xs : List Int) : List Mem := xs.foldl (fun ms x => ms ++ [nextM ms x]) []
theorem membersN_len : ∀ (xs : List Int), (membersN xs).length = xs.length := by
  intro xs
  suffices ∀ (xs : List Int) (ms : List Mem), (xs.foldl (fun ms x => ms ++ [nextM ms x]) ms).length = ms.length + xs.length by
    have := this xs []; simpa [membersN] using this
  intro xs
  induction xs with
  | nil => intro ms; simp
  | cons x xs ih => intro ms; rw [List.foldl_cons, ih]; simp; omega
theorem membersN_snoc (xs : List Int) (x : Int) : membersN (xs ++ [x]) = membersN xs ++ [nextM (membersN xs) x] := by simp [membersN]
theorem mem_prop {ms : List Mem} {p : Mem → Prop} (h : ∀ m ∈ ms, p m) {a : Int} (h0 : 0 ≤ a) (hl : a < ms.length) : p (mem ms a) := h _ (List.mem_of_getElem? (mem_get h0 hl))
theorem len_app (x y : Str) : (x ++ y).length = x.length + y.length := by
  show (Str.append x y).length = _
  simp [Str.append, Str.length]
theorem len_rep (c n : Nat) : (rep c n).length = n := by simp [rep, Str.length]
theorem nextM_len {ms : List Mem} {x : Int} {B : Nat} (hB : ∀ m ∈ ms, m.2.1.length ≤ B) (hl : ms.length ≤ 50) : (nextM ms x).2.1.length ≤ B + 60 := by
  have e1 := Int.emod_lt_of_pos x (b := (ms.length : Int) + 1) (by omega)
  have e2 := Int.emod_nonneg (x / (ms.length + 1)) (b := 2) (by omega)
  have e3 := Int.emod_lt_of_pos (x / (ms.length + 1)) (b := 2) (by omega)
  show ((if 0 ≤ x % (ms.length + 1) - 1 then ((mem ms (x % (ms.length + 1) - 1)).2.1 ++ Str.ofString "/") ++ rep 47 (x / (ms.length + 1) % 2).toNat else rep 47 (x / (ms.length + 1) % 2).toNat) ++ rep 97 (ms.length + 1)).length ≤ B + 60
  rw [len_app, len_rep]
  have h1 : (Str.ofString "/").length = 1 := by decide
  split
  · rename_i h
    have := mem_prop (p := fun m => m.2.1.length ≤ B) hB h (by omega)
    rw [len_app, len_app, len_rep, h1]
    omega
  · rw [len_rep]; omega
theorem names_len : ∀ (xs : List Int), xs.length ≤ 50 → ∀ m ∈ membersN xs, m.2.1.length ≤ 60 * xs.length := by
  suffices ∀ (xs : List Int) (ms : List Mem), ms.length + xs.length ≤ 50 → (∀ m ∈ ms, m.2.1.length ≤ 60 * ms.length) → ∀ m ∈ xs.foldl (fun ms x => ms ++ [nextM ms x]) ms, m.2.1.length ≤ 60 * (ms.length + xs.length) by
    intro xs h; simpa [membersN] using this xs [] (by simpa using h) (by simp)
  intro xs
  induction xs with
  | nil => intro ms h hm; simpa using hm
  | cons x xs ih =>
    intro ms h hm
    rw [List.length_cons] at h ⊢
    rw [List.foldl_cons]
    have := ih (ms ++ [nextM ms x]) (by simp; omega) (fun m hm' => by
      rw [List.length_append, List.length_singleton]
      rcases List.mem_append.mp hm' with h1 | h1
      · have := hm m h1; omega
      · rw [List.mem_singleton.mp h1]
        have := nextM_len (x := x) hm (by omega); omega)
    intro m hm'
    have := this m hm'
    rw [List.length_append, List.length_singleton] at this
    omega
local macro_rules | `(tactic| walk_at "e") => `(tactic| first
  | with_reducible refine wpAny_Slice ?_
  | with_reducible refine wpAny_evalPart_none ?_
  | with_reducible refine wpAny_evalPart_some ?_
  | with_reducible refine Tuple_ ?_
  | ((with_reducible show wpAny _ _ (eval (Expr.Name _ _) _) _ _ _); first
      | refine n_loc (by first | with_reducible assumption | exact Fr.ns (by with_reducible assumption) | exact FS.ns (by with_reducible assumption)) (by rfl) (by first | rfl | assumption) ?_
      | refine n_cell (by first | with_reducible assumption | exact FS.cells (by with_reducible assumption)) (by rfl) (by rfl) (by rfl) ?_))
theorem FS.live {h : Heap} {L : Addr} {m : Str → Option Value} {cs : List (Str × Addr)} {cm : Str → Option Value} (F : FS h L m cs cm) : ∃ o, h.get? L = some o := by
  obtain ⟨o, _, _, ho, _⟩ := F.ns; exact ⟨o, ho⟩
theorem Is.listLive {P : Addr → Prop} {h : Heap} {l : List D} {v : Value} (x : Is P h (.list l) v) : ∃ a vs n, v = .ref a ∧ P a ∧ h.get? a = some { cls := .type "list", data := .seq vs n } := by
  simp only [Is] at x
  obtain ⟨a, vs, n, rfl, p, ho, _⟩ := x
  exact ⟨a, _, n, rfl, p, ho⟩
theorem Is.of_ne {P : Addr → Prop} {h h' : Heap} {I : Addr} {d : D} {v : Value} (x : Is P h d v) (hP : ∀ a, P a → a ≠ I) (k : ∀ b o, b ≠ I → h.get? b = some o → h'.get? b = some o) : Is P h' d v :=
  x.up (fun _ p => p) fun a p o e => upr (k a o (hP a p) e)
theorem slice_take {ns : List Int} {vs : List Value} (hi : IntsAre vs ns) : IntsAre (slicePick vs.toArray none (some 4) none).toList (ns.take 4) := kmk_upto hi (by decide)
section
variable {prog : Program} {w : World} {A : Around} {E : Value → Shared → Prop} {h : Heap} {g : Array GenState} {d : Drawn} {t : Nat} {os : OsState} {P P' : Addr → Prop} {Q : Value → Shared → Prop}
theorem e_take4 {value slice : PySem.Expr} {l : Addr} {vs : List Value} {ns : List Int} {u : Tok} (hl : h.IsList l vs.toArray) (hi : IntsAre vs ns) (hlen : ns.length ≤ 63) (hP : ∀ a, h.objs.size ≤ a → P a)
    (q : ∀ h' v, Ext h h' → Is P h' (.list ((ns.take 4).map .int)) v → Q v ⟨h', g, d, t, os⟩)
    (hs : subscripted slice false (.ref l) (.ref h.objs.size) = operate [.ref h.objs.size, .ref l] (getItem (.ref l) (.ref h.objs.size)))
    (ht : ∀ r, letTemporaryGo value (.ref l) r = pure ()) :
    wpAny (model prog w) A (subscriptTail value slice (.ref l) (.ref h.objs.size)) Q E ⟨h.push { cls := .type "slice", data := .fields #[.none, .int 4 u, .none] }, g, d, t, os⟩ := by
  refine slice_listK (s := ⟨h, g, d, t, os⟩) hl .none (.int _ _) (q _ _ ?_ ?_) hs ht (by have := hi.length; simp [sizeLine]; omega)
  · exact fun b o e => Heap.get?_push_of_some _ (Heap.get?_push_of_some _ e)
  · simp only [Is]
    refine ⟨_, (slicePick vs.toArray none (some 4) none).toList, 0, rfl, hP _ (Nat.le_succ _), ?_, ints_all (slice_take hi)⟩
    have e1 := Heap.get?_push_size (h.push { cls := .type "slice", data := .fields #[.none, .int 4 u, .none] }) (o := { cls := .type "list", data := .seq (slicePick vs.toArray none (some 4) none) }) rfl
    rw [Heap.size_push] at e1
    simpa using e1
end
mutual
theorem Is.solid {P : Addr → Prop} {h : Heap} : ∀ {d : D} {v : Value}, Is P h d v → Is (fun b => P b ∧ ∀ o, h.get? b = some o → ∀ es ep, o.data ≠ .dict es ep) h d v
  | .int _, _, x => x
  | .str _, _, x => x
  | .bool _, _, x => x
  | .list l, v, x => by
    simp only [Is] at x ⊢
    obtain ⟨a, vs, n, e, p, hl, y⟩ := x
    exact ⟨a, vs, n, e, ⟨p, fun o ho es ep q => by rw [hl] at ho; cases ho; cases q⟩, hl, IsAll.solid y⟩
  | .tup l, v, x => by
    simp only [Is] at x ⊢
    obtain ⟨a, vs, n, e, p, hl, y⟩ := x
    exact ⟨a, vs, n, e, ⟨p, fun o ho es ep q => by rw [hl] at ho; cases ho; cases q⟩, hl, IsAll.solid y⟩
  | .rng _, v, x => by
    simp only [Is] at x ⊢
    obtain ⟨a, t, u, n, e, p, hl⟩ := x
    exact ⟨a, t, u, n, e, ⟨p, fun o ho es ep q => by rw [show h.get? a = _ from hl] at ho; cases ho; cases q⟩, hl⟩
theorem IsAll.solid {P : Addr → Prop} {h : Heap} : ∀ {ds : List D} {vs : List Value}, IsAll P h ds vs → IsAll (fun b => P b ∧ ∀ o, h.get? b = some o → ∀ es ep, o.data ≠ .dict es ep) h ds vs
  | [], _, x => x
  | d :: ds, vs, x => by
    simp only [IsAll] at x ⊢
    obtain ⟨v, r, e, y, z⟩ := x
    exact ⟨v, r, e, Is.solid y, IsAll.solid z⟩
end
/-- a store into a frame leaves the data -/
theorem Is.same {P : Addr → Prop} {h h' : Heap} {L : Addr} {m : Str → Option Value} {d : D} {v : Value} (x : Is P h d v) (hn : h.Ns L m) (hs : Heap.SameBut L h h') : Is P h' d v := by
  obtain ⟨oL, es, ep, hL, hdL, _⟩ := hn
  exact x.solid.up (fun _ p => p.1) fun a p o e => upr (hs.extBut a o (by rintro rfl; exact p.2 _ hL _ _ hdL) e)
theorem live_same {h h' : Heap} {L I : Addr} {m : Str → Option Value} (hn : h.Ns L m) (hn' : h'.Ns L m') (hs : Heap.SameBut L h h') (x : ∃ o, h.get? I = some o) : ∃ o, h'.get? I = some o := by
  by_cases e : I = L
  · subst e; obtain ⟨o, _, _, ho, _⟩ := hn'; exact ⟨o, ho⟩
  · obtain ⟨o, ho⟩ := x; exact ⟨o, hs.extBut _ _ e ho⟩
set_option maxRecDepth 100000 in
set_option maxHeartbeats 1000000 in
theorem members_spec {w mg mb A E} {h : Heap} {g : Array GenState} {d : Drawn} {t : Nat} {os : OsState} {Q : Value → Shared → Prop} {l : Addr} {vs : List Value} {ns : List Int}
    (W : Wd w mg mb h) (hd : Rm A 5) (hl : h.IsList l vs.toArray) (hi : IntsAre vs ns) (hlen : ns.length ≤ 63)
    (x : ∀ h' t' v, Ext h h' → Is (New h) h' (memD (membersN ([44, 2139, 295376] ++ ns.take 4))) v → Q v ⟨h', g, d, t', os⟩) :
    wpAny (model PG w) A (call (.ref 208) [.ref l]) Q E ⟨h, g, d, t, os⟩ := by
  have hd₁ := hd.deeper
  refine enter W (by k_is) (by k_is) (by have := hd.depth; omega) (by rfl) (locs rfl) (fun h₁ t₁ F => ?_) rfl rfl rfl (by decide)
  have F₁ := FS.of_fr F
  have hLn : h.get? h.objs.size = none := none_ge (Nat.le_refl _)
  repeat (walk_at "e")
  refine e_newList (P := New h) .nil (new_top F.keep) (by simp) (fun h₂ mv k₂ hmv => ?_)
  refine st_loc (F₁.up k₂.up) (fun h₃ F₃ s₃ => ?_)
  have k₃ : Ext h h₃ := ext_same (Ext.trans F.keep k₂) s₃ hLn
  obtain ⟨D, dvs, dn, rfl, hDn, hDo⟩ := hmv.listLive
  have hDn3 : h.get? D = none := hDn
  obtain ⟨_, hLo⟩ := F₁.up k₂.up |>.live
  have hDL : D ≠ h.objs.size := by
    rintro rfl
    obtain ⟨o, _, _, ho, hd, _⟩ := (F₁.up k₂.up).ns
    rw [hDo] at ho; cases ho; cases hd
  have hmv₃ : Is (New h) h₃ (memD []) (.ref D) := by
    simp only [Is, memD, List.map_nil] at hmv ⊢
    obtain ⟨a, vs', n', e, p, ho, y⟩ := hmv
    cases e
    refine ⟨D, vs', n', rfl, p, s₃.extBut _ _ hDL ho, ?_⟩
    simp only [IsAll] at y ⊢; exact y
  refine wpAny_execs_cons ?_
  refine for_src (d := d) (os := os) (fs := []) hd.h ?_ (by intro _; rfl)
  repeat (walk_at "e")
  have big : ∀ {h' : Heap}, Ext h₃ h' → h'.get? h.objs.size ≠ none ∧ h'.get? D ≠ none := fun k => by
    obtain ⟨_, e1⟩ := F₃.live
    rw [k _ _ e1, k _ _ (s₃.extBut _ _ hDL hDo)]
    exact ⟨by simp, by simp⟩
  refine e_newList (P := New h₃) (ds := [.int 44, .int 2139, .int 295376]) (by simp only [IsAll, Is]; exact ⟨_, _, rfl, ⟨_, rfl⟩, _, _, rfl, ⟨_, rfl⟩, _, _, rfl, ⟨_, rfl⟩, rfl⟩) (new_top (Ext.refl _)) (by simp) (fun h₄ av k₄ hav => ?_)
  have F₄ := F₃.up k₄.up
  repeat (walk_at "e")
  refine e_take4 (P := New h₃) (isL_ext hl (Ext.trans k₃ k₄)) hi hlen (fun a ha => ?_) (fun h₅ bv k₅ hbv => ?_) (by rfl) (fun _ => by rfl)
  · exact new_mono k₄.up a (none_ge ha)
  refine e_addL (P := New h₃) (hav.ups' k₅) hbv (fun _ p => p) (fun _ p => p) (new_top (Ext.trans k₄ k₅)) ?_ (fun h₆ xv k₆ hxv => ?_)
  · simp; omega
  rw [show ([Mine.D.int 44, Mine.D.int 2139, Mine.D.int 295376] ++ (ns.take 4).map Mine.D.int) = ([44, 2139, 295376] ++ ns.take 4).map Mine.D.int from by simp] at hxv
  generalize hxs : ([44, 2139, 295376] ++ ns.take 4 : List Int) = xs at hxv x
  have hxl : xs.length ≤ 7 := by rw [← hxs]; simp; omega
  have k₃₆ : Ext h₃ h₆ := Ext.trans k₄ (Ext.trans k₅ k₆)
  have k₆' : Ext h h₆ := Ext.trans k₃ k₃₆
  have F₆ := F₃.up k₃₆.up
  have hmv₆ := hmv₃.ups' k₃₆
  obtain ⟨Pv, S, hPv⟩ := hxv.src
  rw [List.length_map] at S
  obtain ⟨X, xvs, xn, rfl, hXn, hXo⟩ := hxv.listLive
  refine ⟨h₆, g, _, xs.length, Pv, fun I i h' g' => g' = g ∧ Ext h h' ∧ ∃ m', FS h' h.objs.size m' [] (fun _ => none) ∧ m' (Str.ofString "members") = some (.ref D) ∧ Is (fun a => h.get? a = none ∧ a ≠ I) h' (memD (membersN (xs.take i))) (.ref D), [h.objs.size, D], S, (fun _ q => by cases q), by omega, ?_, ?_, ?_, ?_, ?_⟩
  · intro b hb
    have hb' : h₃.get? b ≠ none ∧ h₆.get? b ≠ none := by
      rcases List.mem_cons.mp hb with rfl | hb
      · exact ⟨(big (Ext.refl _)).1, (big k₃₆).1⟩
      · rw [List.mem_singleton.mp hb]; exact ⟨(big (Ext.refl _)).2, (big k₃₆).2⟩
    refine ⟨?_, Option.isSome_iff_exists.mp (Option.isSome_iff_ne_none.mpr hb'.2)⟩
    intro e; cases e; exact hb'.1 hXn
  · rintro I i h₁ h₂ g₁ hI ⟨rfl, kk, m', F', hm, hIs⟩ hk
    have hIL : h.objs.size ≠ I := by rintro rfl; exact (big k₃₆).1 hI
    refine ⟨rfl, fun b o e => hk b o ?_ (kk b o e), m', ⟨F'.ns.at' fun o e => hk _ o hIL e, (fun _ _ e => by cases e), List.Pairwise.nil⟩, hm, hIs.of_ne (fun _ p => p.2) hk⟩
    rintro rfl
    rw [k₆' _ _ e] at hI; cases hI
  · intro I h₁ hI kk
    have hIk : ∀ {b}, h₆.get? b ≠ none → b ≠ I := by rintro b hb rfl; exact hb hI
    refine ⟨rfl, Ext.trans k₆' kk, _, F₆.up kk.up, rfl, ?_⟩
    have hz := hmv₆.ups' kk
    simp only [Is, memD, List.map_nil, List.take_zero, membersN, List.foldl_nil] at hz ⊢
    obtain ⟨a, vs', n', e, p, ho, y⟩ := hz
    cases e
    exact ⟨D, vs', n', rfl, ⟨p, hIk (big k₃₆).2⟩, ho, by simp only [IsAll] at y ⊢; exact y⟩
  · rintro I i v h₇ g₇ t₇ hI hi' hP ⟨rfl, k₇, m', F₇, hm, hIs⟩ hIl
    obtain ⟨dd, hdd, hy⟩ := hPv i v hP
    rw [List.getElem?_map, List.getElem?_eq_getElem hi'] at hdd
    cases hdd
    obtain ⟨ti, rfl⟩ := hy.int
    have hlen' : (membersN (xs.take i)).length = i := by rw [membersN_len, List.length_take]; omega
    have hsn : membersN (xs.take (i + 1)) = membersN (xs.take i) ++ [nextM (membersN (xs.take i)) xs[i]] := by
      rw [← membersN_snoc]; congr 1; simp
    obtain ⟨ms, hms⟩ : ∃ ms, ms = membersN (xs.take i) := ⟨_, rfl⟩
    obtain ⟨xi, hxi⟩ : ∃ xi, xi = xs[i] := ⟨_, rfl⟩
    have hnm : ∀ m ∈ ms, m.2.1.length ≤ 500 := fun m hm => by
      rw [hms] at hm
      have := names_len _ (by rw [List.length_take]; omega) m hm
      rw [List.length_take] at this; omega
    rw [← hms] at hIs hlen' hsn
    have e1 := Int.emod_lt_of_pos xi (b := (i : Int) + 1) (by omega)
    have e2 := Int.emod_nonneg (xi / (i + 1)) (b := 2) (by omega)
    have e3 := Int.emod_lt_of_pos (xi / (i + 1)) (b := 2) (by omega)
    have h1 : (Str.ofString "/").length = 1 := by decide
    rw [← hxi] at hsn
    rw [← hxi] at hy ⊢
    refine st_loc F₇ (fun h₈ F₈ s₈ => ?_)
    have I₈ := hIs.same F₇.ns s₈
    have l₈ := live_same F₇.ns F₈.ns s₈ hIl
    repeat (walk_at "e")
    refine c_blt1 (W.keeps (ext_same k₇ s₈ hLn)) (by k_is) (by rfl) ?_
    repeat (walk_at "e")
    refine e_len I₈ (by rw [List.length_map]; omega) (fun u t => ?_)
    rw [List.length_map, hlen']
    refine st_loc F₈ (fun h₉ F₉ s₉ => ?_)
    have I₉ := I₈.same F₈.ns s₉
    have l₉ := live_same F₈.ns F₉.ns s₉ l₈
    repeat (walk_at "e")
    refine e_mod (by omega) ?_
    repeat (walk_at "e")
    refine st_loc F₉ (fun ha Fa sa => ?_)
    have Ia := I₉.same F₉.ns sa
    have la := live_same F₉.ns Fa.ns sa l₉
    repeat (walk_at "e")
    refine e_div (by omega) (by omega) ?_
    refine st_loc Fa (fun hb Fb sb => ?_)
    have Ib := Ia.same Fa.ns sb
    have lb := live_same Fa.ns Fb.ns sb la
    repeat (walk_at "e")
    refine e_mulS (c := 47) (by rfl) (by omega) (by omega) (fun tb ub => ?_)
    refine st_loc Fb (fun hc Fc sc => ?_)
    have Ic := Ib.same Fb.ns sc
    have lc := live_same Fb.ns Fc.ns sc lb
    refine wpAny_execs_cons ?_
    refine wpAny_mono (Q := fun fl s => fl = .next ∧ ∃ h' t' m' u1 u2 u3 u4, s = ⟨h', g₇, d, t', os⟩ ∧ FS h' h.objs.size m' [] (fun _ => none) ∧ (h' = hc ∨ Heap.SameBut h.objs.size hc h') ∧ m' (Str.ofString "members") = some (.ref D) ∧ m' (Str.ofString "count") = some (.int i u1)
      ∧ m' (Str.ofString "above") = some (.int (xi % (i + 1) - 1) u2) ∧ m' (Str.ofString "rest") = some (.int (xi / (i + 1)) u3)
      ∧ m' (Str.ofString "way") = some (.str (if 0 ≤ xi % ((i : Int) + 1) - 1 then ((mem ms (xi % (i + 1) - 1)).2.1 ++ Str.ofString "/") ++ rep 47 (xi / (i + 1) % 2).toNat else rep 47 (xi / (i + 1) % 2).toNat) u4)) ?_ (fun fl s q => ?_) (fun _ _ e => e)
    · repeat (walk_at "e")
      by_cases ha0 : 0 ≤ xi % ((i : Int) + 1) - 1
      · rw [if_pos (decide_eq_true ha0), if_pos ha0]
        repeat (walk_at "e")
        have hal : xi % ((i : Int) + 1) - 1 < i := by omega
        refine sub_listD Ic ha0 (by omega) (mem_at (mem_get ha0 (by omega))) (fun y hy => ?_) (fun _ => rfl)
        repeat (walk_at "e")
        refine sub_tupD hy (by decide) (by decide) rfl (fun y hy => ?_) (fun _ => rfl)
        obtain ⟨u, rfl⟩ := hy.str
        repeat (walk_at "e")
        have hal' := mem_prop (p := fun m => m.2.1.length ≤ 500) hnm ha0 (by omega)
        refine e_addS (by omega) (by decide) (fun t' u' => ?_)
        repeat (walk_at "e")
        refine e_addS (by rw [len_app]; omega) (by rw [len_rep]; omega) (fun t' u' => ?_)
        refine st_loc Fc (fun hd Fd sd => ?_)
        repeat (walk_at "e")
        exact ⟨rfl, _, _, _, _, _, _, _, rfl, Fd, .inr sd, hm, rfl, rfl, rfl, rfl⟩
      · rw [if_neg (by simpa using ha0), if_neg ha0]
        repeat (walk_at "e")
        exact ⟨rfl, _, _, _, _, _, _, _, rfl, Fc, .inl rfl, hm, rfl, rfl, rfl, rfl⟩
    obtain ⟨rfl, hd', td, md, u1, u2, u3, u4, rfl, Fd, sd, md1, md2, md3, md4, md5⟩ := q
    have Id : Is (fun a => h.get? a = none ∧ a ≠ I) hd' (memD ms) (.ref D) := by
      rcases sd with rfl | sd
      · exact Ic
      · exact Ic.same Fc.ns sd
    have ld : ∃ o, hd'.get? I = some o := by
      rcases sd with rfl | sd
      · exact lc
      · exact live_same Fc.ns Fd.ns sd lc
    refine wpAny_execs_cons ?_
    refine wpAny_Expr_any ?_ (by rfl) (by rfl)
    refine MethodCall_ ?_ (by rfl)
    repeat (walk_at "e")
    obtain ⟨_, dv', dn', e0, _, hDo'⟩ := Id.listLive
    cases e0
    refine Calls.getMethod_list_append hDo' rfl rfl ?_
    refine callWith_method1 ?_ (by rfl) (by rfl)
    repeat (walk_at "e")
    refine e_mulS (c := 97) (by rfl) (by omega) (by omega) (fun te ue => ?_)
    refine e_addS ?_ (by rw [len_rep]; omega) (fun te ue => ?_)
    · split
      · rename_i ha0
        have hal' := mem_prop (p := fun m => m.2.1.length ≤ 500) hnm ha0 (by omega)
        rw [len_app, len_app, len_rep, h1]; omega
      · rw [len_rep]; omega
    repeat (walk_at "e")
    with_reducible refine e_xor ?_
    repeat (walk_at "e")
    with_reducible refine e_pow (by decide) (by decide) (by decide) ?_
    with_reducible refine e_mod (by decide) ?_
    repeat (walk_at "e")
    have hnx : nextM ms xi = (xi % ((i : Int) + 1) - 1, (if 0 ≤ xi % ((i : Int) + 1) - 1 then ((mem ms (xi % (i + 1) - 1)).2.1 ++ Str.ofString "/") ++ rep 47 (xi / (i + 1) % 2).toNat else rep 47 (xi / (i + 1) % 2).toNat) ++ rep 97 ((i : Int) + 1).toNat, Builtin.bitXor (xi / (i + 1) / 2) 16873 % 2 ^ (32 : Int).toNat) := by
      unfold nextM
      rw [hlen']
      rfl
    have kd : Ext h hd' := by
      have k₈ := ext_same k₇ s₈ hLn
      have k₉ := ext_same k₈ s₉ hLn
      have ka := ext_same k₉ sa hLn
      have kb := ext_same ka sb hLn
      have kc := ext_same kb sc hLn
      rcases sd with rfl | sd
      · exact kc
      · exact ext_same kc sd hLn
    have hnI : hd'.objs.size ≠ I := by
      rintro rfl; obtain ⟨o, ho⟩ := ld; exact absurd (Heap.lt_size ho) (Nat.lt_irrefl _)
    refine e_newTuple (P := fun a => h.get? a = none ∧ a ≠ I) (ds := [.int (nextM ms xi).1, .str (nextM ms xi).2.1, .int (nextM ms xi).2.2]) ?_ ⟨new_top kd, hnI⟩ (by simp) (by simp) (fun he tv ke htv => ?_)
    · rw [hnx]
      simp only [IsAll, Is]
      exact ⟨_, _, rfl, ⟨_, rfl⟩, _, _, rfl, ⟨_, rfl⟩, _, _, rfl, ⟨_, rfl⟩, rfl⟩
    have Ie := Id.ups' ke
    repeat (walk_at "e")
    refine e_append (P := fun a => h.get? a = none ∧ a ≠ I) (ds := ms.map memT) (x := memT (nextM ms xi)) Ie htv (fun _ p => p) ?_ (by rw [List.length_map]; omega) (fun hf sf If => ?_)
    · simp [memT, Flat, Sc]
    have Ff := (Fd.up ke.up).list (ke _ _ hDo') rfl sf
    repeat (walk_at "e")
    refine ⟨_, _, _, rfl, ?_, rfl, fun b o e => ?_, md, Ff, md1, ?_⟩
    · have a₈ : SX [h.objs.size, D] [] h₇ h₈ := .of_sameBut s₈ (.head _)
      have a₉ : SX [h.objs.size, D] [] h₈ h₉ := .of_sameBut s₉ (.head _)
      have aa : SX [h.objs.size, D] [] h₉ ha := .of_sameBut sa (.head _)
      have ab : SX [h.objs.size, D] [] ha hb := .of_sameBut sb (.head _)
      have ac : SX [h.objs.size, D] [] hb hc := .of_sameBut sc (.head _)
      have ad : SX [h.objs.size, D] [] hc hd' := by
        rcases sd with rfl | sd
        · exact .refl ..
        · exact .of_sameBut sd (.head _)
      have ae : SX [h.objs.size, D] [] hd' he := ke.stays.sx
      have af : SX [h.objs.size, D] [] he hf := .of_sameBut sf (.tail _ (.head _))
      exact ((((((a₈.trans a₉).trans aa).trans ab).trans ac).trans ad).trans ae).trans af
    · exact sf.extBut b o (by rintro rfl; rw [hDn3] at e; cases e) (ke _ _ (kd b o e))
    · rw [hsn, memD, List.map_append]; exact If
  · rintro I h₇ g₇ t₇ hI ⟨rfl, k₇, m', F₇, hm, hIs⟩
    repeat (walk_at "e")
    rw [List.take_length] at hIs
    exact x _ _ _ k₇ (hIs.weaken fun a p => p.1)
section
variable {prog : Program} {w : World} {A : Around} {E : Value → Shared → Prop} {h : Heap} {g : Array GenState} {d : Drawn} {t : Nat} {os : OsState} {P P' : Addr → Prop} {Q : Value → Shared → Prop}
theorem e_typeS {x : Str} {u : Tok} (q : ∀ t', Q (.type "str") ⟨h, g, d, t', os⟩) : wpAny (model prog w) A (call (.type "type") [.str x u]) Q E ⟨h, g, d, t, os⟩ := by
  exact call_type_of (typeIs_str _ _ _) (by decide) (q _)
theorem e_isT {M : Model} {S T : String} (q : Q (.bool (Value.type S == Value.type T)) ⟨h, g, d, t, os⟩) : wpAny M A (compareOp .Is (.type S) (.type T)) Q E ⟨h, g, d, t, os⟩ := wpAny_is_plain (by rfl) q
theorem e_truthS {x : Str} {u : Tok} {Q : Bool → Shared → Prop} (hx : x.length ≤ 100000) (q : ∀ t', Q ((x.length : Int) != 0) ⟨h, g, d, t', os⟩) : wpAny (model prog w) A (truthy (.str x u)) Q E ⟨h, g, d, t, os⟩ := P.truthy_str (by omega) (q _)
theorem e_neS {x y : Str} {u v : Tok} (q : Q (.bool (x != y)) ⟨h, g, d, t, os⟩) : wpAny (model prog w) A (compareOp .NotEq (.str x u) (.str y v)) Q E ⟨h, g, d, t, os⟩ := PyProof.Rows.ne_str q
theorem e_eqS {x y : Str} {u v : Tok} (q : Q (.bool (x == y)) ⟨h, g, d, t, os⟩) : wpAny (model prog w) A (compareOp .Eq (.str x u) (.str y v)) Q E ⟨h, g, d, t, os⟩ := PyProof.Rows.eq_str q
theorem e_lenS {x : Str} {u : Tok} (hx : x.length ≤ 100000) (q : ∀ t' u', Q (.int x.length u') ⟨h, g, d, t', os⟩) : wpAny (model prog w) A (call (.builtin "len") [.str x u]) Q E ⟨h, g, d, t, os⟩ := PyProof.Rows.len_str (by omega) (q _ _)
theorem e_unpack2 {x y : D} {v : Value} {Q : List Value → Shared → Prop} (hh : A.handled = none) (z : Is P h (.tup [x, y]) v) (q : ∀ h' a b, Ext h h' → Is P h' x a → Is P h' y b → Q [a, b] ⟨h', g, d, t, os⟩) :
    wpAny (model prog w) A (unpackItems v 2 none) Q E ⟨h, g, d, t, os⟩ := by
  simp only [Is] at z
  obtain ⟨T, vs, n, rfl, _, ho, y'⟩ := z
  simp only [IsAll] at y'
  obtain ⟨a, r, rfl, ha, b, r', rfl, hb, rfl⟩ := y'
  have e : ∀ h', Heap.ExtBut h.objs.size h h' → Ext h h' := fun h' k b o e => k b o (Nat.ne_of_lt (Heap.lt_size e)) e
  refine unpackItems_tuple (items := #[a, b]) hh ⟨_, ho, rfl, n, rfl⟩ fun h' k => ?_
  exact q h' a b (e h' k) (ha.ups' (e h' k)) (hb.ups' (e h' k))
end
/-- posixpath's split -/
noncomputable def splitP (p : Str) : Str × Str :=
  let i := PySem.Txt.rfind p (Str.ofString "/") + 1
  let head := PySem.Txt.slice p none (some i)
  ((if ((head.length : Int) != 0 && head != rep 47 head.length) = true then PySem.Txt.rstripChars head (Str.ofString "/") else head), PySem.Txt.slice p (some i) none)
set_option maxRecDepth 100000 in
set_option maxHeartbeats 400000 in
theorem kind_spec {w mg mb A E} {h : Heap} {g : Array GenState} {d : Drawn} {t : Nat} {os : OsState} {Q : Value → Shared → Prop} {a b : Str} {t1 t2 : Tok}
    (W : Wd w mg mb h) (hd : A.depth < 850) (x : ∀ h' t' u, Ext h h' → Q (.str (Str.ofString "") u) ⟨h', g, d, t', os⟩) :
    wpAny (model PG w) A (call (.ref 126) [.str a t1, .str b t2]) Q E ⟨h, g, d, t, os⟩ := by
  refine enter W (by k_is) (by k_is) (by omega) (by rfl) (locs rfl) (fun h₁ t₁ F => ?_) rfl rfl rfl (by decide)
  have F₁ := FS.of_fr F
  have W₁ := W.keeps F.keep
  repeat (walk_at "e")
  refine c_type1 W₁ (by k_is) (by rfl) ?_
  repeat (walk_at "e")
  refine e_typeS (fun t' => ?_)
  refine st_loc F₁ (fun h₂ F₂ s₂ => ?_)
  have k₂ : Ext h h₂ := ext_same F.keep s₂ (none_ge (Nat.le_refl _))
  have W₂ := W.keeps k₂
  repeat (walk_at "e")
  refine n_blt W₂ (by k_is) (by rfl) ?_
  refine e_isT ?_
  repeat (walk_at "e")
  exact x _ _ _ k₂
set_option maxRecDepth 100000 in
set_option maxHeartbeats 400000 in
theorem fspath_spec {w mg mb A E} {h : Heap} {g : Array GenState} {d : Drawn} {t : Nat} {os : OsState} {Q : Value → Shared → Prop} {a b : Str} {t1 t2 : Tok}
    (W : Wd w mg mb h) (hd : A.depth < 800) (x : ∀ h' t', Ext h h' → Q (.str b t2) ⟨h', g, d, t', os⟩) :
    wpAny (model PG w) A (call (.ref 133) [.str a t1, .str b t2]) Q E ⟨h, g, d, t, os⟩ := by
  refine enter W (by k_is) (by k_is) (by omega) (by rfl) (locs rfl) (fun h₁ t₁ F => ?_) rfl rfl rfl (by decide)
  have F₁ := FS.of_fr F
  have W₁ := W.keeps F.keep
  repeat (walk_at "e")
  refine c_fn W₁ (by k_is) (by k_is) ?_
  repeat (walk_at "e")
  refine ⟨W₁.X, ?_⟩
  refine kind_spec W₁ ?_ (fun h₂ t₂ u k₂ => ?_)
  · show A.depth + 1 < 850; omega
  refine st_loc (F₁.up k₂.up) (fun h₃ F₃ s₃ => ?_)
  have k₃ : Ext h h₃ := ext_same (Ext.trans F.keep k₂) s₃ (none_ge (Nat.le_refl _))
  repeat (walk_at "e")
  refine e_truthS (by decide) (fun t' => ?_)
  repeat (walk_at "e")
  exact x _ _ k₃
set_option maxRecDepth 100000 in
set_option maxHeartbeats 400000 in
theorem len_slice_le (x : Str) (a b : Option Int) : (PySem.Txt.slice x a b).length ≤ x.length := PyProof.Txt.length_slice_le x a b
set_option maxRecDepth 100000 in
set_option maxHeartbeats 400000 in
theorem split_spec {w mg mb A E} {h : Heap} {g : Array GenState} {d : Drawn} {t : Nat} {os : OsState} {Q : Value → Shared → Prop} {p : Str} {t1 : Tok}
    (W : Wd w mg mb h) (hd : A.depth < 750) (hh : A.handled = none) (hp : p.length ≤ 900) (x : ∀ h' t' v, Ext h h' → Is (New h) h' (.tup [.str (splitP p).1, .str (splitP p).2]) v → Q v ⟨h', g, d, t', os⟩) :
    wpAny (model PG w) A (call (.ref 140) [.str p t1]) Q E ⟨h, g, d, t, os⟩ := by
  refine enter W (by k_is) (by k_is) (by omega) (by rfl) (locs rfl) (fun h₁ t₁ F => ?_) rfl rfl rfl (by decide)
  have hLn : h.get? h.objs.size = none := none_ge (Nat.le_refl _)
  have F₁ := FS.of_fr F
  have W₁ := W.keeps F.keep
  repeat (walk_at "e")
  refine c_fn W₁ (by k_is) (by k_is) ?_
  repeat (walk_at "e")
  refine ⟨W₁.X, ?_⟩
  refine fspath_spec W₁ ?_ (fun h₂ t₂ k₂ => ?_)
  · show A.depth + 1 < 800; omega
  refine st_loc (F₁.up k₂.up) (fun h₃ F₃ s₃ => ?_)
  repeat (walk_at "e")
  refine st_loc F₃ (fun h₄ F₄ s₄ => ?_)
  repeat (walk_at "e")
  refine Call_method1 (by rfl) (by rfl) (by rfl) ?_
  repeat (walk_at "e")
  refine SB.rfind ?_
  repeat (walk_at "e")
  refine ⟨_, _, rfl, ?_⟩
  repeat (walk_at "e")
  refine st_loc F₄ (fun h₅ F₅ s₅ => ?_)
  have k₅ : Ext h h₅ := ext_same (ext_same (ext_same (Ext.trans F.keep k₂) s₃ hLn) s₄ hLn) s₅ hLn
  refine wpAny_execs_cons ?_
  refine Assign_Tuple_swapped ?_ (by rfl) (by rfl)
  repeat (walk_at "e")
  refine slice_str_ns (s := ⟨h₅, g, d, _, os⟩) (Fr.mk F₅.ns k₅ (Nat.le_refl _)) (fun h₆ u₆ t₆ F₆ => ?_) (by with_unfolding_all rfl) (by intro _; with_unfolding_all rfl) (by simp [sizeLine]; omega)
  have F₆' := FS.of_fr F₆
  repeat (walk_at "e")
  refine slice_str_sn (s := ⟨h₆, g, d, _, os⟩) (Fr.mk F₆'.ns F₆.keep (Nat.le_refl _)) (fun h₇ u₇ t₇ F₇ => ?_) (by with_unfolding_all rfl) (by intro _; with_unfolding_all rfl) (by simp [sizeLine]; omega)
  have F₇' := FS.of_fr F₇
  repeat (walk_at "e")
  refine e_newTuple (P := Any) (ds := [.str _, .str _]) (by simp only [IsAll, Is]; exact ⟨_, _, rfl, ⟨_, rfl⟩, _, _, rfl, ⟨_, rfl⟩, rfl⟩) trivial (by simp) (by simp) (fun h₈ tv k₈ htv => ?_)
  refine e_unpack2 hh htv (fun h₉ a b k₉ ha hb => ?_)
  obtain ⟨ua, rfl⟩ := ha.str
  obtain ⟨ub, rfl⟩ := hb.str
  refine assignInOrder_cons (bindName_ ?_)
  have k₉' : Ext h h₉ := Ext.trans F₇.keep (Ext.trans k₈ k₉)
  refine st_loc (F₇'.up (Ext.up (Ext.trans k₈ k₉))) (fun ha Fa sa => ?_)
  refine assignInOrder_cons (bindName_ ?_)
  refine st_loc Fa (fun hb Fb sb => ?_)
  refine assignInOrder_nil ?_
  have kb : Ext h hb := ext_same (ext_same k₉' sa hLn) sb hLn
  have Wb := W.keeps kb
  obtain ⟨hd0, hhd⟩ : ∃ y, y = PySem.Txt.slice p none (some (PySem.Txt.rfind p (Str.ofString "/") + 1)) := ⟨_, rfl⟩
  obtain ⟨tl0, htl⟩ : ∃ y, y = PySem.Txt.slice p (some (PySem.Txt.rfind p (Str.ofString "/") + 1)) none := ⟨_, rfl⟩
  have hhl : hd0.length ≤ 900 := by rw [hhd]; exact Nat.le_trans (len_slice_le ..) hp
  rw [← hhd, ← htl] at Fb
  rw [splitP] at x
  simp only [← hhd, ← htl] at x
  refine wpAny_execs_cons ?_
  refine wpAny_mono (Q := fun fl s => fl = .next ∧ ∃ h' t' m' u1 u2, s = ⟨h', g, d, t', os⟩ ∧ FS h' h.objs.size m' [] (fun _ => none) ∧ Ext h h' ∧ m' (Str.ofString "tail") = some (.str tl0 u2)
      ∧ m' (Str.ofString "head") = some (.str (if ((hd0.length : Int) != 0 && hd0 != rep 47 hd0.length) = true then PySem.Txt.rstripChars hd0 (Str.ofString "/") else hd0) u1)) ?_ (fun fl s q => ?_) (fun _ _ e => e)
  · repeat (walk_at "e")
    refine e_truthS (by omega) (fun t' => ?_)
    cases hq : ((hd0.length : Int) != 0) with
    | false =>
      repeat (walk_at "e")
      exact ⟨rfl, _, _, _, _, _, rfl, Fb, kb, rfl, rfl⟩
    | true =>
      repeat (walk_at "e")
      refine c_blt1 Wb (by k_is) (by rfl) ?_
      repeat (walk_at "e")
      refine e_lenS (by omega) (fun t' u' => ?_)
      refine e_mulS (c := 47) (by rfl) (by omega) (by omega) (fun t' u' => ?_)
      refine e_neS ?_
      repeat (walk_at "e")
      rw [Int.toNat_natCast]
      cases hq2 : (hd0 != rep 47 hd0.length) with
      | false =>
        repeat (walk_at "e")
        exact ⟨rfl, _, _, _, _, _, rfl, Fb, kb, rfl, rfl⟩
      | true =>
        repeat (walk_at "e")
        refine Call_method1 (by rfl) (by rfl) (by rfl) ?_
        repeat (walk_at "e")
        refine SB.rstripChars ?_ (by simp [sizeLine]; omega)
        repeat (walk_at "e")
        refine ⟨_, _, rfl, fun t' k' => ?_⟩
        refine st_loc Fb (fun hc Fc sc => ?_)
        repeat (walk_at "e")
        exact ⟨rfl, _, _, _, _, _, rfl, Fc, ext_same kb sc hLn, rfl, rfl⟩
  obtain ⟨rfl, hc, tc, mc, u1, u2, rfl, Fc, kc, hm1, hm2⟩ := q
  repeat (walk_at "e")
  refine e_newTuple (P := New h) (ds := [.str _, .str _]) (by simp only [IsAll, Is]; exact ⟨_, _, rfl, ⟨_, rfl⟩, _, _, rfl, ⟨_, rfl⟩, rfl⟩) (new_top kc) (by simp) (by simp) (fun hd' tv kd htv => ?_)
  exact x _ _ _ (Ext.trans kc kd) htv
/-- the ancestors, the path itself first -/
inductive Anc : Str → List Str → Prop where
  | stop {p : Str} (h : (PySem.Txt.rstripChars p (Str.ofString "/")).length = 0) : Anc p []
  | step {p : Str} {l : List Str} (h : (PySem.Txt.rstripChars p (Str.ofString "/")).length ≠ 0) (r : Anc (splitP p).1 l) : Anc p (p :: l)
/-- the generator's frame -/
structure AState (h₀ : Heap) (L : Addr) (p : Str) (h : Heap) : Prop where
  F : ∃ m u, FS h L m [] (fun _ => none) ∧ m (Str.ofString "path") = some (.str p u)
  W : Ext h₀ h
  B : p.length ≤ 900
noncomputable def Since (L : Addr) (s₀ s : Shared) : Prop := ∃ h' tk, s = { s₀ with heap := h', toks := tk } ∧ Heap.ExtBut L s₀.heap h'
theorem Since.refl (L : Addr) (s : Shared) : Since L s s := ⟨s.heap, s.toks, rfl, fun _ _ _ e => e⟩
theorem Since.trans {L : Addr} {s₁ s₂ s₃ : Shared} (a : Since L s₁ s₂) (b : Since L s₂ s₃) : Since L s₁ s₃ := by
  obtain ⟨h, t, rfl, k⟩ := a
  obtain ⟨h', t', rfl, k'⟩ := b
  exact ⟨h', t', rfl, fun b o hb e => k' b o hb (k b o hb e)⟩
noncomputable def AProto (h₀ : Heap) (L : Addr) (xs : List Str) : Protocol := fun k s₀ v s₁ kap =>
  (∃ x t, xs[xs.length - 1 - k]? = some x ∧ v = .str x t) ∧ Since L s₀ s₁ ∧ (∃ o, s₁.heap.get? L = some o) ∧ ∀ s'', Ext h₀ s''.heap → (∀ o, s₁.heap.get? L = some o → s''.heap.get? L = some o) → kap (.send .none) s''
noncomputable def AEnd (L : Addr) : GenEnd := fun n s₀ r s₁ => r = .ok (.ret .none) ∧ n = 0 ∧ Since L s₀ s₁
section
variable {w : World} {h₀ : Heap} {A : Around} {L : Addr} {xs : List Str} {test e : Expr} {st : Stmt} {ypos pos : Pos} {env : Env} {fs : List Frame}
theorem seg_anc_loop (hL : env.locals = L) (hfs : splitAtGen fs = none) (hfg : fs.any Frame.guarded = false) (hco : env.scope.isCoroutine = false) (hi : interactive env = false)
    (htest : ∀ p s, AState h₀ L p s.heap → wpAny (model PG w) (A.over (.whileLoop test [.Expr (.Yield (some e) ypos) pos, st] [] env) fs) (isTrue test env (eval test env))
      (fun b s' => b = ((PySem.Txt.rstripChars p (Str.ofString "/")).length != 0) ∧ Since L s s' ∧ AState h₀ L p s'.heap) (fun _ _ => False) s)
    (hyld : ∀ p s, AState h₀ L p s.heap → wpAny (model PG w) (A.over (.whileLoop test [.Expr (.Yield (some e) ypos) pos, st] [] env) fs) (eval e env) (fun v s' => (∃ t, v = .str p t) ∧ s' = s) (fun _ _ => False) s)
    (hst : ∀ p s, AState h₀ L p s.heap → wpAny (model PG w) (A.over (.whileLoop test [.Expr (.Yield (some e) ypos) pos, st] [] env) fs) (exec st env)
      (fun f s' => f = .next ∧ Since L s s' ∧ AState h₀ L (splitP p).1 s'.heap) (fun _ _ => False) s)
    (hend : ∀ s₀ s, Since L s₀ s → Seg (model PG w) A (AEnd L) (AProto h₀ L xs) 0 s₀ (.whileLoop test [.Expr (.Yield (some e) ypos) pos, st] [] env) (.pure (.done .next)) fs s) :
    ∀ (l : List Str) (p : Str), Anc p l → ∀ (j : Nat), xs.drop j = l → ∀ (s₀ s : Shared), Since L s₀ s → AState h₀ L p s.heap →
      Seg (model PG w) A (AEnd L) (AProto h₀ L xs) l.length s₀ (.whileLoop test [.Expr (.Yield (some e) ypos) pos, st] [] env) ((model PG w).den (.whileLoop test [.Expr (.Yield (some e) ypos) pos, st] [] env)) fs s := by
  intro l
  induction l with
  | nil =>
    intro p ha j hj s₀ s hs hA
    cases ha with
    | stop h =>
    refine seg_whileLoop (wpAny_mono (htest p s hA) (fun b s' q => ?_) fun _ _ q => q.elim)
    obtain ⟨rfl, q1, q2⟩ := q
    rw [h, if_neg (by decide)]
    refine seg_execs_nil ?_
    exact hend s₀ s' (hs.trans q1)
  | cons x l ih =>
    intro p ha j hj s₀ s hs hA
    cases ha with
    | step h r =>
    refine seg_whileLoop (wpAny_mono (htest x s hA) (fun b s' q => ?_) fun _ _ q => q.elim)
    obtain ⟨rfl, q1, q2⟩ := q
    have hb : ((PySem.Txt.rstripChars x (Str.ofString "/")).length != 0) = true := by simpa using h
    rw [hb, if_pos rfl]
    refine seg_execs_cons (seg_Expr_Yield hfs rfl hfg (wpAny_mono (hyld x s' q2) (fun v s₁ q => ?_) fun _ _ q => q.elim) hco hi)
    obtain ⟨⟨t, rfl⟩, rfl⟩ := q
    intro kap hkap
    have hlen : xs.length - 1 - l.length = j := by
      have := congrArg List.length hj
      rw [List.length_drop, List.length_cons] at this
      omega
    refine ⟨⟨x, t, ?_, rfl⟩, hs.trans q1, (let ⟨⟨_, _, F, _⟩, _, _⟩ := q2; F.live), fun s'' W hLo => hkap .none s'' ?_⟩
    · rw [hlen]
      have := congrArg (fun z => z[0]?) hj
      simpa [List.getElem?_drop] using this
    have hA'' : AState h₀ L x s''.heap := by
      obtain ⟨⟨m, u, F, hm⟩, _, hB⟩ := q2
      exact ⟨⟨m, u, ⟨F.ns.at' hLo, (fun _ _ e => by cases e), List.Pairwise.nil⟩, hm⟩, W, hB⟩
    refine seg_execs_cons (seg_wrap (wpAny_mono (hst x s'' hA'') (fun f s₂ q => ?_) fun _ _ q => q.elim))
    obtain ⟨rfl, k1, k2⟩ := q
    refine seg_execs_nil ?_
    refine seg_again rfl ?_
    refine ih _ r (j + 1) ?_ s'' s₂ k1 k2
    rw [← List.tail_drop, hj]; rfl
end
theorem wpAny_any {α : Type} {M : Model} {A A₀ : Around} {t : Sem α} {Q : α → Shared → Prop} {E : Value → Shared → Prop} {s : Shared} (hh : A.handled = A₀.handled) (hd : A.depth ≤ A₀.depth) (hf : A₀.frames = none) (hg : A₀.guards = none) (hu : A.units ≤ A₀.units)
    (h : wpAny M A₀ t Q E s) : wpAny M A t Q E s := fun Γ p hΓ =>
  h Γ p ⟨hΓ.1.trans hh, Nat.le_trans hΓ.2.1 hd, (fun l hl => by rw [hf] at hl; cases hl), (fun g e => by rw [hg] at e; cases e), Nat.le_trans hΓ.2.2.2.2 hu⟩
/-- where the generator runs -/
noncomputable abbrev genA : Around := { handled := none, depth := 600, frames := none, guards := none, units := 5000 }
/-- the generator, j ancestors told -/
structure GAt (w : World) (h₀ : Heap) (G : Addr) (gi : Nat) (L : Addr) (xs : List Str) (j : Nat) (s : Shared) : Prop where
  gen : s.heap.IsGen G gi
  ne : G ≠ L
  live : ∃ o, s.heap.get? L = some o
  goes : ∃ gs, s.gens[gi]? = some gs ∧ gs ≠ .running ∧ gs ≠ .finished ∧ ∀ s'' : Shared, Ext h₀ s''.heap → (∀ o, s.heap.get? L = some o → s''.heap.get? L = some o) →
    gs.Goes (model PG w) genA (AEnd L) (AProto h₀ L xs) (xs.length - j) (.send .none) s''
theorem GAt.keeps {w h₀ G gi L xs j} {s s' : Shared} (x : GAt w h₀ G gi L xs j s) (hg : ∀ o, s.heap.get? G = some o → s'.heap.get? G = some o) (hL : ∀ o, s.heap.get? L = some o → s'.heap.get? L = some o) (hs : s'.gens = s.gens) : GAt w h₀ G gi L xs j s' := by
  obtain ⟨a, b, ⟨o, ho⟩, gs, h1, h2, h3, h4⟩ := x
  refine ⟨let ⟨o, nm, qn, ho, r⟩ := a; ⟨o, nm, qn, hg o ho, r⟩, b, ⟨o, hL o ho⟩, gs, hs ▸ h1, h2, h3, fun s'' W k => h4 s'' W fun o e => k o (hL o e)⟩
theorem goes_run {M : Model} {A : Around} {R : GenEnd} {Y : Protocol} {n : Nat} {gs : GenState} {r : Resume} {s : Shared} (h : gs.Goes M A R Y n r s) : gs ≠ .running ∧ gs ≠ .finished := by
  cases gs <;> simp_all [GenState.Goes]
section
variable {w : World} {mg mb : Str → Option Value} {h₀ : Heap} {A : Around} {G gi L : Nat} {xs : List Str} {j : Nat} {s : Shared} {E : Value → Shared → Prop} {Q : Value → Shared → Prop}
theorem gen_next (hh : A.handled = none) (hd : A.depth < 590) (hu : A.units < 4900) (W : Wd w mg mb h₀) (hL0 : h₀.get? L = none) (k₀ : Ext h₀ s.heap) (X : GAt w h₀ G gi L xs j s)
    (hQ : ∀ x t s', xs[j]? = some x → GAt w h₀ G gi L xs (j + 1) s' → Heap.ExtBut L s.heap s'.heap → GenOnly gi s.gens s'.gens → s'.drawn = s.drawn → s'.os = s.os → Q (.str x t) s')
    (hE : ∀ e h₁ s', xs.length ≤ j → Heap.ExtBut L s.heap h₁ → Heap.NewExc h₁ s'.heap e "StopIteration" → GenOnly gi s.gens s'.gens → s'.gens[gi]? = some .finished → s'.drawn = s.drawn → s'.os = s.os → E (.ref e) s') :
    wpAny (model PG w) A (call (.builtin "next") [.ref G]) Q E s := by
  obtain ⟨hg, hne, ⟨oL, hoL⟩, gs, hgs, hr1, hr2, hgo⟩ := X
  refine Calls.call_function_entry (by decide +kernel) (by decide +kernel) kdk_entry_next (kdk_args_next _) ?_
  unfold Builtin.«next»
  refine wpAny_bind (m := someArgs "next" 1 2 _) (wpAny_of_eq (a := [Value.ref G]) (by first | rfl | kernel_rfl!) ?_)
  dsimp only
  refine wpAny_bind (wpAny_specialOf (name := Str.ofString "__next__") hg.typeIs slot_gen_next.lookup ?_)
  refine wpAny_ite_split (fun hab => absurd hab (by decide)) (fun _ => ?_)
  refine wpAny_bind (wpAny_callSpecial?_slot (name := Str.ofString "__next__") hg.typeIs slot_gen_next (wpAny_call_entry slot_gen_next hg.typeIs entry_gen_next ?_ (args_gen_next _)))
  show wpAny _ _ (Builtin.Generator.genWake (.ref G) (.send .none)) _ _ s
  unfold Builtin.Generator.genWake
  refine wpAny_bind (wpAny_holding (wpAny_genNumber hg (wpAny_bind (wpAny_genState hgs ?_))))
  have hgo' := hgo (s.setGen gi .running) k₀ (fun o e => e)
  refine wpAny_any (A₀ := genA) hh (by show A.depth ≤ 600; omega) rfl rfl (by show A.units + 1 + 1 ≤ 5000; omega) ?_
  cases gs with
  | running => exact (hr1 rfl).elim
  | finished => exact (hr2 rfl).elim
  | _ =>
    refine wpAny_bind (wpAny_roomToWake (W.keeps k₀).T.nolimit (by decide) ?_)
    show wpAny _ _ (.resume gi (.send .none) [] _) _ _ s
    refine wpAny_resume hgs hgo' (fun x s₁ hx => ?_) (fun v s₁ gs' hv => ?_)
    · obtain ⟨rfl, hn, h₁, tk, rfl, hk⟩ := hx
      show wpAny _ _ (newExc (.type "StopIteration") [] >>= _) _ _ _
      refine wpAny_bind ?_
      simp only [newExc, newTuple]
      refine wpAny_bind (wpAny_newObj_type ?_ (by size_fits))
      refine wpAny_bind (m := firstArgMember _ _) (wpAny_of_eq (a := Value.none) (by first | rfl | (simp only [firstArgMember]; rfl)) ?_)
      refine wpAny_newObj_type ?_ (by size_fits)
      simp only [raiseNew]
      refine wpAny_bind (wpAny_bind (wpAny_handled ?_))
      refine wpAny_throw ?_
      refine hE _ h₁ _ (by omega) hk ⟨fun b o hb => Heap.get?_push_of_some _ (Heap.get?_push_of_some _ hb), Heap.get?_none_of_le (by show _ ≤ (Heap.push h₁ _).objs.size; rw [Heap.size_push]; exact Nat.le_succ _), _, _, Heap.get?_push_size _ rfl, rfl, rfl⟩ ?_ ?_ rfl rfl
      · exact (GenOnly.setGen s gi .running).trans (GenOnly.setGen _ gi .finished)
      · exact setGen_self (gs := .running) (setGen_self hgs)
    · obtain ⟨⟨x, t, hx, rfl⟩, ⟨h₁, tk₁, rfl, hk₁⟩, hlv, hkap⟩ := hv
      refine wpAny_pure ⟨_, rfl, wpAny_pure ?_⟩
      have k₁ : Ext h₀ h₁ := fun b o e => hk₁ b o (by rintro rfl; rw [hL0] at e; cases e) (k₀ b o e)
      cases hn : xs.length - j with
      | zero => rw [hn] at hkap; exact (hkap { s.setGen gi .running with heap := h₁, toks := tk₁ } k₁ fun o e => e).elim
      | succ m =>
        rw [hn] at hkap hx
        have hj : xs.length - 1 - (m + 1 - 1) = j := by omega
        rw [hj] at hx
        refine ⟨_, rfl, hQ x t (({ s.setGen gi .running with heap := h₁, toks := tk₁ } : Shared).setGen gi gs') hx ⟨let ⟨o, nm, qn, ho, r⟩ := hg; ⟨o, nm, qn, hk₁ G o hne ho, r⟩, hne, ?_, gs', ?_, ?_, ?_, ?_⟩ hk₁ ?_ rfl rfl⟩
        · exact hlv
        · exact setGen_self (gs := .running) (setGen_self hgs)
        · exact (goes_run (hkap { s.setGen gi .running with heap := h₁, toks := tk₁ } k₁ fun o e => e)).1
        · exact (goes_run (hkap { s.setGen gi .running with heap := h₁, toks := tk₁ } k₁ fun o e => e)).2
        · intro s'' W'' k''
          have e : xs.length - (j + 1) = m := by omega
          rw [e]
          exact hkap s'' W'' k''
        · exact (GenOnly.setGen s gi .running).trans (GenOnly.setGen _ gi gs')
end
theorem len_split (p : Str) : (splitP p).1.length ≤ p.length := by
  unfold splitP
  dsimp only
  split
  · exact Nat.le_trans (len_rstripChars _ _) (len_slice_le ..)
  · exact len_slice_le ..
theorem ne_cast (n : Nat) : ((n : Int) != 0) = (n != 0) := by
  rw [Bool.eq_iff_iff]; simp
set_option maxRecDepth 100000 in
set_option maxHeartbeats 1000000 in
theorem anc_spec {w mg mb A E} {h : Heap} {g : Array GenState} {d : Drawn} {t : Nat} {os : OsState} {Q : Value → Shared → Prop} {p : Str} {xs : List Str} {t1 : Tok}
    (W : Wd w mg mb h) (hd : A.depth < 850) (hp : p.length ≤ 900) (ha : Anc (PySem.Txt.rstripChars p (Str.ofString "/")) xs)
    (x : ∀ h' t' G L gs, Ext h h' → h.get? L = none → h.get? G = none → GAt w h G g.size L xs 0 ⟨h', g.push gs, d, t', os⟩ → Q (.ref G) ⟨h', g.push gs, d, t', os⟩) :
    wpAny (model PG w) A (call (.ref 147) [.str p t1]) Q E ⟨h, g, d, t, os⟩ := by
  have ho := W.X 147 _ (by k_is)
  refine wpAny_call (codeAny_call_generator (show _ < 1000 by omega) ho rfl rfl rfl rfl (codeRec_of W.X (by k_is)) (wpAny_of_eq (by rfl) ?_))
  refine wpAny_newFunctionEnv (by decide) (locs rfl) (fun h₁ hn₁ hs₁ => ?_) rfl
  have k₁ : Ext h h₁ := fun b o e => hs₁.extBut b o (Nat.ne_of_lt (Heap.lt_size e)) (Heap.get?_push_of_some _ e)
  have hL0 : h.get? h.objs.size = none := none_ge (Nat.le_refl _)
  have hG0 : h.get? h₁.objs.size = none := new_top k₁
  have hLG : h₁.objs.size ≠ h.objs.size := by
    obtain ⟨o, _, _, e, _⟩ := hn₁
    exact fun q => absurd (Heap.lt_size e) (by rw [q]; exact Nat.lt_irrefl _)
  refine ⟨(W.keeps k₁).T.nolimit, ?_⟩
  refine x _ _ _ h.objs.size _ (Ext.trans k₁ (ext_push _)) hL0 hG0 ⟨⟨_, _, _, Heap.get?_push_size _ rfl, rfl, rfl, rfl⟩, hLG, ?_, _, Array.getElem?_push_size .., by simp, by simp, fun s'' k'' hL'' => ⟨rfl, ?_⟩⟩
  · obtain ⟨o, _, _, e, _⟩ := hn₁
    exact ⟨o, Heap.get?_push_of_some _ e⟩
  have F'' : FS s''.heap h.objs.size _ [] (fun _ => none) := ⟨(hn₁.push _).at' hL'', (fun _ _ e => by cases e), List.Pairwise.nil⟩
  have W'' := W.keeps k''
  obtain ⟨h'', g'', d'', t'', os''⟩ := s''
  refine seg_func (seg_execs_cons (seg_wrap ?_))
  refine wpAny_mono (Q := fun f s => f = .next ∧ Since h.objs.size ⟨h'', g'', d'', t'', os''⟩ s ∧ AState h h.objs.size (PySem.Txt.rstripChars p (Str.ofString "/")) s.heap) ?_ (fun f s q => ?_) fun _ _ (q : False) => q.elim
  · repeat (walk_at "e")
    refine Call_method1 (by rfl) (by rfl) (by rfl) ?_
    repeat (walk_at "e")
    refine SB.rstripChars ?_ (by simp [sizeLine]; omega)
    refine n_glob W'' (by k_is) ?_
    refine ⟨_, _, rfl, fun t' k' => ?_⟩
    refine st_loc F'' (fun h₂ F₂ s₂ => ?_)
    exact ⟨rfl, ⟨_, _, rfl, s₂.extBut⟩, ⟨_, _, F₂, rfl⟩, ext_same k'' s₂ hL0, Nat.le_trans (len_rstripChars _ _) hp⟩
  obtain ⟨rfl, q1, q2⟩ := q
  refine seg_execs_cons (seg_While fun p' => ?_)
  refine seg_anc_loop (L := h.objs.size) (h₀ := h) (xs := xs) (by rfl) (by rfl) (by rfl) (by rfl) (by rfl) ?_ ?_ ?_ ?_ xs _ ha 0 rfl _ _ q1 q2
  · rintro p₁ ⟨h₂, g₂, d₂, t₂, os₂⟩ ⟨⟨m, u, F, hm⟩, kk, hB⟩
    have hB2 : (PySem.Txt.rstripChars p₁ (Str.ofString "/")).length ≤ 900 := Nat.le_trans (len_rstripChars _ _) hB
    refine isTrue_plain ?_ (by rfl)
    refine Call_method1 (by rfl) (by rfl) (by rfl) ?_
    refine n_loc F.ns (by rfl) hm ?_
    refine SB.rstripChars ?_ (Nat.le_trans hB (by simp [sizeLine]))
    refine n_glob (W.keeps kk) (by k_is) ?_
    refine ⟨_, _, rfl, fun t' k' => ?_⟩
    refine e_truthS (by omega) (fun t' => ?_)
    exact ⟨ne_cast _, ⟨_, _, rfl, fun _ _ _ e => e⟩, ⟨_, _, F, hm⟩, kk, hB⟩
  · rintro p₁ ⟨h₂, g₂, d₂, t₂, os₂⟩ ⟨⟨m, u, F, hm⟩, kk, hB⟩
    refine n_loc F.ns (by rfl) hm ?_
    exact ⟨⟨_, rfl⟩, rfl⟩
  · rintro p₁ ⟨h₂, g₂, d₂, t₂, os₂⟩ ⟨⟨m, u, F, hm⟩, kk, hB⟩
    refine Assign_Tuple ?_ (by rfl) (by rfl)
    refine c_fn (W.keeps kk) (by k_is) (by k_is) ?_
    refine spliced_more (n_loc F.ns (by rfl) hm (spliced_none ?_)) (by rfl)
    refine ⟨(W.keeps kk).X, ?_⟩
    refine split_spec (W.keeps kk) ?_ rfl hB (fun h₃ t₃ v k₃ hv => ?_)
    · exact Nat.lt_of_le_of_lt (Nat.le_of_eq (show _ = 601 from rfl)) (by decide)
    have F₃ := F.up k₃.up
    simp only [Is] at hv
    obtain ⟨T, vs, n, rfl, _, ho', y'⟩ := hv
    simp only [IsAll] at y'
    obtain ⟨a, r, rfl, ha', b, r', rfl, hb', rfl⟩ := y'
    obtain ⟨ua, rfl⟩ := ha'.str
    obtain ⟨ub, rfl⟩ := hb'.str
    refine assign_Tuple_tuple (items := #[_, _]) rfl ⟨_, ho', rfl, n, rfl⟩ (by rfl) (by rfl) (fun h₄ k₄ => ?_)
    have k₄' : Ext h₃ h₄ := fun b o e => k₄ b o (Nat.ne_of_lt (Heap.lt_size e)) e
    refine assignInOrder_cons (assign_Name ?_)
    refine st_loc (F₃.up k₄'.up) (fun h₅ F₅ s₅ => ?_)
    refine assignInOrder_cons (assign_Name ?_)
    refine st_loc F₅ (fun h₆ F₆ s₆ => ?_)
    refine assignInOrder_nil ?_
    have kf : Ext h h₆ := ext_same (ext_same (Ext.trans kk (Ext.trans k₃ k₄')) s₅ hL0) s₆ hL0
    exact ⟨rfl, ⟨_, _, rfl, fun b o hb e => s₆.extBut b o hb (s₅.extBut b o hb (k₄' b o (k₃ b o e)))⟩, ⟨_, _, F₆, rfl⟩, kf, Nat.le_trans (len_split p₁) hB⟩
  · intro s₀ s hs
    refine seg_leaf (.ok .next) ?_
    exact seg_end (.ok (.ret .none)) ⟨rfl, rfl, hs⟩
noncomputable abbrev emptyH : Heap := { objs := #[], life := {} }
theorem emptyH_get (a : Addr) : emptyH.get? a = none := none_ge (Nat.zero_le _)
/-- all that stands but L and x -/
noncomputable def others (h : Heap) (L x : Addr) : List (Addr × Obj) := (List.range h.objs.size).filterMap fun a => if a = L ∨ a = x then none else (h.get? a).map fun o => (a, o)
theorem mem_others {h : Heap} {L x : Addr} {p : Addr × Obj} : p ∈ others h L x ↔ h.get? p.1 = some p.2 ∧ p.1 ≠ L ∧ p.1 ≠ x := by
  unfold others
  rw [List.mem_filterMap]
  constructor
  · rintro ⟨a, _, h2⟩
    by_cases e : a = L ∨ a = x
    · rw [if_pos e] at h2; cases h2
    · rw [if_neg e] at h2
      obtain ⟨o, ho, rfl⟩ := Option.map_eq_some_iff.mp h2
      exact ⟨ho, fun q => e (.inl q), fun q => e (.inr q)⟩
  · rintro ⟨h1, h2, h3⟩
    refine ⟨p.1, List.mem_range.mpr (Heap.lt_size h1), ?_⟩
    rw [if_neg (fun q => by rcases q with q | q; exact h2 q; exact h3 q), h1]; rfl
/-- an object with slots -/
noncomputable abbrev instSl (C dx : Addr) (sl : Array (Option Value)) : Obj := { cls := .ref C, dict := some dx, data := .plain, slots := sl }
structure InstIs (h : Heap) (x dx C : Addr) (sl : Array (Option Value)) : Prop where
  obj : h.get? x = some (instSl C dx sl)
  dict : h.get? dx = some emptyDict
theorem InstIs.at_ {h : Heap} {x dx C : Addr} {sl : Array (Option Value)} (I : InstIs h x dx C sl) : InstAt h x (instSl C dx sl) C (some emptyDict) := ⟨I.obj, rfl, rfl, I.dict⟩
theorem InstIs.keeps {h h' : Heap} {x dx C : Addr} {sl : Array (Option Value)} (I : InstIs h x dx C sl) (h1 : ∀ o, h.get? x = some o → h'.get? x = some o) (h2 : ∀ o, h.get? dx = some o → h'.get? dx = some o) : InstIs h' x dx C sl := ⟨h1 _ I.obj, h2 _ I.dict⟩
theorem InstIs.ne {h : Heap} {x dx C : Addr} {sl : Array (Option Value)} (I : InstIs h x dx C sl) : dx ≠ x := by
  rintro rfl; have := I.obj; rw [I.dict] at this; cases this
noncomputable abbrev slotPut (sl : Array (Option Value)) (i : Nat) (v : Value) : Array (Option Value) := (sl ++ Array.replicate (i + 1 - sl.size) none).setIfInBounds i (some v)
section
variable {prog : Program} {w : World} {A : Around} {E : Value → Shared → Prop} {h : Heap} {g : Array GenState} {d : Drawn} {t : Nat} {os : OsState} {K : Frag} {x dx C L p : Addr} {m : Str → Option Value} {sl : Array (Option Value)} {name : Str} {i : Nat} {v : Value}
theorem e_get {expr : Bool} {Q : Value → Shared → Prop} (X : K.In h) (I : InstIs h x dx C sl) (hg : plainGet K C name = true) (hc : isClsIn K C = true)
    (ha : findIn K (.ref C) name = some (some (.ref p))) (hn : specialIn K (.ref p) "__get__" = some (some (.builtin "member_descriptor.__get__"))) (ht : takesIn K (.ref p) = some true) (hp : slotIn K p C = some i)
    (hv : (sl[i]?).join = some v) (hh : handedIn v = true) (q : Q v ⟨h, g, d, t + 1, os⟩) : wpAny (model prog w) A (getAttr (.ref x) name expr) Q E ⟨h, g, d, t, os⟩ :=
  get_bind (s := ⟨h, g, d, t, os⟩) X I.at_ (plainGet_of hg).1 (findObj_data hc ha hn ht) (plainGet_of hg).2 (wpAny_call (slot_get (s := ⟨h, g, d, t + 1, os⟩) X I.at_ hp hv (handed_on hh q)))
theorem e_set {Q : Unit → Shared → Prop} (X : K.In h) (hn : h.Ns L m) (I : InstIs h x dx C sl) (hdL : dx ≠ L)
    (hs : findIn K (.ref C) "__setattr__" = some (some (.builtin "object.__setattr__"))) (hp : plainOver K C = true) (ht : takerIn K C name = some (some (.ref p))) (hT : typeIn K (.ref p) = some (.type "member_descriptor")) (hi : slotIn K p C = some i) (hz : i < 1000)
    (q : ∀ h', h'.Ns L m → InstIs h' x dx C (slotPut sl i v) → (∀ b o, b ≠ x → b ≠ L → h.get? b = some o → h'.get? b = some o) → Q () ⟨h', g, d, t + 1, os⟩) :
    wpAny (model prog w) A (setAttr (.ref x) name v) Q E ⟨h, g, d, t, os⟩ := by
  have hL : ∀ {a o}, h.get? a = some o → (∀ es n, o.data ≠ .dict es n) → a ≠ L := by
    rintro a o ho hd rfl
    obtain ⟨o', es, ep, ho', hd', _⟩ := hn
    rw [ho] at ho'; cases ho'; exact hd _ _ hd'
  have hxL : x ≠ L := hL I.obj (by intro _ _ q; cases q)
  refine set_plain (s := ⟨h, g, d, t, os⟩) X I.at_ hs (osa_descr (s := ⟨h, g, d, t + 1, os⟩) KF.slot_mset X I.at_ hp ht hT ?_)
  refine slot_set (s := ⟨h, g, d, t + 1, os⟩) (h₀ := emptyH) (L := L) (m := m) (pre := []) (post := others h L x) ⟨hn, fun b o e => ?_, Nat.zero_le _⟩ ?_ X I.at_ hi hz (by simp) (fun p hp => (mem_others.mp hp).2.2) rfl rfl (fun h' F N => ?_)
  · rw [emptyH_get] at e; cases e
  · intro p hp
    rcases List.mem_cons.mp hp with rfl | hp
    · exact ⟨I.obj, hxL, emptyH_get _⟩
    · have := mem_others.mp hp; exact ⟨this.1, this.2.1, emptyH_get _⟩
  · have hx' := (N _ (.head _)).1
    have ho : ∀ b o, b ≠ x → b ≠ L → h.get? b = some o → h'.get? b = some o := fun b o h1 h2 e => (N (b, o) (.tail _ (mem_others.mpr ⟨e, h2, h1⟩))).1
    exact q h' F.ns ⟨hx', ho _ _ I.ne hdL I.dict⟩ ho
end
/-- what an iterable does -/
noncomputable def IterOk (prog : Program) (w : World) (A : Around) (fs : List Addr) (target : Expr) (xv : Value) (n : Nat) (Pv : Nat → Value → Prop) (h : Heap) (g : Array GenState) (d : Drawn) (os : OsState) : Prop :=
  ∀ (t : Nat) (Q : Value → Shared → Prop) (E : Value → Shared → Prop), (∀ h₂ I fp St, Ext h h₂ → h.get? I = none → Walks prog w A I fp [I] n Pv St → St 0 h₂ → (∀ i h', St i h' → ∃ o, h'.get? I = some o) →
    (∀ i h' g' t' v (Q : Unit → Shared → Prop) (E : Value → Shared → Prop), St i h' → Q () ⟨h', g', d, t', os⟩ → wpAny (model prog w) A (letOwnedTupleGo target (.ref I) v) Q E ⟨h', g', d, t', os⟩) →
    (∀ b ∈ fp, b ∉ fs ∧ (b = I ∨ xv = .ref b)) → Q (.ref I) ⟨h₂, g, d, t, os⟩) → wpAny (model prog w) A (pyIter xv) Q E ⟨h, g, d, t, os⟩
section
variable {prog : Program} {w : World} {A : Around} {E : Value → Shared → Prop} {h : Heap} {g : Array GenState} {d : Drawn} {t : Nat} {os : OsState}
theorem letgo_other {M : Model} {target : Expr} {I : Addr} {v : Value} {o : Obj} {T : String} {vs : Array Value} {Q : Unit → Shared → Prop} {s : Shared} (ho : s.heap.get? I = some o) (hc : o.cls = .type T) (hd : o.data = .fields vs)
    (hT : (["enumerate", "zip", "dict_itemiterator", "dict_reverseitemiterator", "odict_iterator", "itertools.zip_longest", "itertools.pairwise"].contains T) = false) (q : Q () s) : wpAny M A (letOwnedTupleGo target (.ref I) v) Q E s := by
  have key : wpAny M A (do
      let (.ref r, .ref a) := ((.ref I : Value), v) | return
      let o ← load r
      match o.cls, o.data with
      | .type n, .fields vs =>
        if ["enumerate", "zip", "dict_itemiterator", "dict_reverseitemiterator", "odict_iterator", "itertools.zip_longest", "itertools.pairwise"].contains n && vs[0]? == some (rawInt a) then
          rule "for.unpacks-the-owned-tuple"
          updateField r 0 .none
      | _, _ => pure ()) Q E s := by
    cases v with
    | ref a =>
      refine wpAny_bind (wpAny_load ho ?_)
      rw [hc, hd]
      dsimp only
      rw [hT]
      exact wpAny_pure q
    | _ => exact wpAny_pure q
  unfold letOwnedTupleGo
  split
  · exact key
  · exact key
  · exact wpAny_pure q
theorem iter_tup {fs : List Addr} {target : Expr} {T : Addr} {items : Array Value} (hh : A.handled = none) (x : IsTup h T items) (hf : FrOk fs h) :
    IterOk prog w A fs target (.ref T) items.size (fun i y => items[i]? = some y) h g d os := by
  intro t Q E hQ
  have hI : h.objs.size ∉ fs := hf.new (none_ge (Nat.le_refl _))
  obtain ⟨o, ho, hc, n', hd⟩ := id x
  have hl : T < h.objs.size := Heap.lt_size ho
  refine wpAny_pyIter_tuple (s := ⟨h, g, d, t, os⟩) x (hQ _ h.objs.size [h.objs.size, T] _ (fun b o e => Heap.get?_push_of_some _ e) (none_ge (Nat.le_refl _)) (Walks.tuple hh _ T (Nat.ne_of_lt hl) items) ⟨⟨_, Heap.get?_push_size _ rfl, rfl, rfl⟩, ?_⟩ ?_ ?_ ?_)
  · exact ⟨o, Heap.get?_push_of_some _ ho, hc, n', hd⟩
  · exact fun i h' st => let ⟨o, e, _⟩ := st.1; ⟨o, e⟩
  · intro i h' g' t' v Q E st q
    obtain ⟨o, e, c, dd⟩ := st.1
    exact letgo_other e c dd (by decide) q
  · intro b hb
    rcases List.mem_cons.mp hb with rfl | hb
    · exact ⟨hI, .inl rfl⟩
    · rw [List.mem_singleton.mp hb]
      exact ⟨hf.not ho (fun es ep q => by rw [hd] at q; cases q), .inr rfl⟩
inductive GenHit (prog : Program) (w : World) (A : Around) (env : Env) (target : Expr) (body orelse : List Stmt) (fs : List Addr) (d : Drawn) (os : OsState) (Q : Flow → Shared → Prop) : Value → Shared → Prop where
  | mk {xv : Value} (h : Heap) (g : Array GenState) (t n : Nat) (Pv : Nat → Value → Prop) (J : Addr → Nat → Heap → Array GenState → Prop) (ex : List Addr) (S : IterOk prog w A fs target xv n Pv h g d os)
      (hex : ∀ b ∈ ex, xv ≠ .ref b ∧ ∃ o, h.get? b = some o)
      (hJ : ∀ I i h₁ h₂ g₁, h.get? I = none → J I i h₁ g₁ → (∀ b o, b ≠ I → h₁.get? b = some o → h₂.get? b = some o) → J I i h₂ g₁)
      (h0 : ∀ I h₁, h.get? I = none → Ext h h₁ → J I 0 h₁ g)
      (step : ∀ I i v h₁ g₁ t₁, h.get? I = none → i < n → Pv i v → J I i h₁ g₁ → (∃ o, h₁.get? I = some o) → wpAny (model prog w) A (assign target env v) (fun _ s₂ => wpAny (model prog w) A (execs body env) (fun f s₃ => match f with
        | .next | .cont => ∃ h₃ g₃ t₃, s₃ = ⟨h₃, g₃, d, t₃, os⟩ ∧ SX ex fs h₁ h₃ ∧ J I (i + 1) h₃ g₃
        | .brk => Q .next s₃
        | .ret v => Q (.ret v) s₃) (fun _ _ => False) s₂) (fun _ _ => False) ⟨h₁, g₁, d, t₁, os⟩)
      (done : ∀ I h₁ g₁ t₁, h.get? I = none → J I n h₁ g₁ → wpAny (model prog w) A (execs orelse env) Q (fun _ _ => False) ⟨h₁, g₁, d, t₁, os⟩) : GenHit prog w A env target body orelse fs d os Q xv ⟨h, g, d, t, os⟩
theorem for_gen {iter target : Expr} {pos : Pos} {body orelse : List Stmt} {env : Env} {fs : List Addr} {s : Shared} {Q : Flow → Shared → Prop}
    (hit : wpAny (model prog w) A (eval iter env) (GenHit prog w A env target body orelse fs d os Q) E s)
    (hs : ∀ x, foldedSetIterable iter env x = pure x := by intro _; rfl) :
    wpAny (model prog w) A (exec (.For target iter body orelse pos) env) Q E s := by
  refine wpAny_For (wpAny_mono hit (fun xv s₁ h₁ => ?_) fun _ _ e => e) hs
  obtain ⟨h, g, t, n, Pv, J, ex, S, hex, hJ, h0, step, done⟩ := h₁
  refine S _ _ _ fun h₂ I fp St k₀ hI W hst hlive hgo hfp => ?_
  have hfx : ∀ b ∈ fp, b ∉ ex ∧ b ∉ fs := fun b hb => by
    refine ⟨fun q => ?_, (hfp b hb).1⟩
    obtain ⟨h1, o, h2⟩ := hex b q
    rcases (hfp b hb).2 with rfl | e
    · rw [hI] at h2; cases h2
    · exact h1 e
  refine codeAny_forLoop_any (fun k s' => ∃ i h' g' t', s' = ⟨h', g', d, t', os⟩ ∧ St i h' ∧ J I i h' g' ∧ i ≤ n ∧ k = n + 1 - i) ?_ (n + 1) ⟨0, h₂, g, t, rfl, hst, h0 I h₂ hI k₀, Nat.zero_le _, rfl⟩
  rintro k s' ⟨i, h', g', t', rfl, hst', hJ', hi, rfl⟩
  by_cases hlt : i < n
  · refine W.item i _ _ _ hlt hst' fun v h₁ tk₁ hPv hst₁ hk₁ => ?_
    refine hgo _ _ _ _ _ _ _ hst₁ ?_
    refine wpAny_mono (step I i v h₁ g' tk₁ hI hlt hPv (hJ I i h' h₁ g' hI hJ' fun b o hb e => hk₁ b o (by simpa using hb) e) (hlive _ _ hst₁)) (fun _ s₂ h₂ => wpAny_mono h₂ (fun f s₃ h₃ => ?_) fun _ _ q => q.elim) fun _ _ q => q.elim
    have fin : (∃ h₃ g₃ t₃, s₃ = ⟨h₃, g₃, d, t₃, os⟩ ∧ SX ex fs h₁ h₃ ∧ J I (i + 1) h₃ g₃) → ∃ m, m < n + 1 - i ∧ ∃ i h' g' t', s₃ = ⟨h', g', d, t', os⟩ ∧ St i h' ∧ J I i h' g' ∧ i ≤ n ∧ m = n + 1 - i := by
      rintro ⟨ha, ga, ta, rfl, k₃, J₃⟩
      exact ⟨n + 1 - (i + 1), by omega, i + 1, ha, ga, ta, rfl, W.frame _ _ _ hst₁ (fun b hb o e => k₃.keep b o (hfx b hb).1 (hfx b hb).2 e), J₃, hlt, rfl⟩
    cases f with
    | next => exact fin h₃
    | cont => exact fin h₃
    | brk => exact h₃
    | ret v => exact h₃
  · have hin : i = n := by omega
    subst hin
    refine W.done _ _ _ hst' fun h₁ tk₁ hk₁ => ?_
    exact wpAny_mono (done I h₁ g' tk₁ hI (hJ I i h' h₁ g' hI hJ' fun b o hb e => hk₁ b o (by simpa using hb) e)) (fun f s₃ h₃ => h₃) fun _ _ q => q.elim
end
section
variable {prog : Program} {w : World} {A : Around} {E : Value → Shared → Prop} {h : Heap} {g : Array GenState} {d : Drawn} {t : Nat} {os : OsState} {Q : Value → Shared → Prop}
theorem e_gt {a b : Int} {u v : Tok} (x : Q (.bool (decide (b < a))) ⟨h, g, d, t, os⟩) : wpAny (model prog w) A (compareOp .Gt (.int a u) (.int b v)) Q E ⟨h, g, d, t, os⟩ := PyProof.Rows.gt_int x
theorem e_neg {a : Int} {u : Tok} (x : Q (.int (-a) t) ⟨h, g, d, t + 1, os⟩) : wpAny (model prog w) A (unaryOp .USub (.int a u)) Q E ⟨h, g, d, t, os⟩ := PyProof.Rows.neg_int x
theorem e_typeI {x : Int} {u : Tok} (q : ∀ t', Q (.type "int") ⟨h, g, d, t', os⟩) : wpAny (model prog w) A (call (.type "type") [.int x u]) Q E ⟨h, g, d, t, os⟩ := call_type_of (typeIs_int _ _ _) (by decide) (q _)
end
local macro_rules | `(tactic| walk_at "e") => `(tactic| first
  | with_reducible refine e_gt ?_
  | with_reducible refine wpAny_UnaryOp ?_
  | with_reducible refine e_neg ?_
  | with_reducible refine e_isT ?_)
set_option maxRecDepth 100000 in
set_option maxHeartbeats 400000 in
theorem isint_spec {w mg mb A E} {h : Heap} {g : Array GenState} {d : Drawn} {t : Nat} {os : OsState} {Q : Value → Shared → Prop} {a : Int} {t1 : Tok}
    (W : Wd w mg mb h) (hd : A.depth < 850) (x : ∀ h' t', Ext h h' → Q (.bool true) ⟨h', g, d, t', os⟩) :
    wpAny (model PG w) A (call (.ref 28) [.int a t1]) Q E ⟨h, g, d, t, os⟩ := by
  refine enter W (by k_is) (by k_is) (by omega) (by rfl) (locs rfl) (fun h₁ t₁ F => ?_) rfl rfl rfl (by decide)
  have F₁ := FS.of_fr F
  have W₁ := W.keeps F.keep
  repeat (walk_at "e")
  refine c_type1 W₁ (by k_is) (by rfl) ?_
  repeat (walk_at "e")
  refine e_typeI (fun t' => ?_)
  refine st_loc F₁ (fun h₂ F₂ s₂ => ?_)
  have k₂ : Ext h h₂ := ext_same F.keep s₂ (none_ge (Nat.le_refl _))
  have W₂ := W.keeps k₂
  repeat (walk_at "e")
  refine wpAny_Or2 ?_
  repeat (walk_at "e")
  refine n_blt W₂ (by k_is) (by rfl) ?_
  refine e_isT ?_
  repeat (walk_at "e")
  exact x _ _ k₂
set_option maxRecDepth 100000 in
set_option maxHeartbeats 400000 in
theorem whole_spec {w mg mb A E} {h : Heap} {g : Array GenState} {d : Drawn} {t : Nat} {os : OsState} {Q : Value → Shared → Prop} {a : Int} {v : Value} {t1 t2 : Tok}
    (W : Wd w mg mb h) (hd : A.depth < 800) (h1 : a ≤ 999999) (h2 : -999999 ≤ a) (x : ∀ h' t', Ext h h' → Q .none ⟨h', g, d, t', os⟩) :
    wpAny (model PG w) A (call (.ref 35) [.int a t1, .int 999999 t2, v]) Q E ⟨h, g, d, t, os⟩ := by
  refine enter W (by k_is) (by k_is) (by omega) (by rfl) (locs rfl) (fun h₁ t₁ F => ?_) rfl rfl rfl (by decide)
  have F₁ := FS.of_fr F
  have W₁ := W.keeps F.keep
  repeat (walk_at "e")
  refine isTrue_plain ?_ (by rfl)
  refine c_fn W₁ (by k_is) (by k_is) ?_
  repeat (walk_at "e")
  refine ⟨W₁.X, ?_⟩
  refine isint_spec W₁ ?_ (fun h₂ t₂ k₂ => ?_)
  · show A.depth + 1 < 850; omega
  have F₂ := F₁.up k₂.up
  repeat (walk_at "e")
  rw [if_neg (by simp; omega)]
  refine wpAny_mono (Q := fun c s => c = false ∧ ∃ h' t', s = ⟨h', g, d, t', os⟩ ∧ Ext h₂ h') ?_ (fun c s q => ?_) (fun _ _ e => e)
  · repeat (walk_at "e")
    rw [if_neg (by simp; omega)]
    repeat (walk_at "e")
    exact ⟨rfl, _, _, rfl, Ext.refl _⟩
  obtain ⟨rfl, h₃, t₃, rfl, k₃⟩ := q
  repeat (walk_at "e")
  exact x _ _ (Ext.trans F.keep (Ext.trans k₂ k₃))

/-- a call with what is left over bundled -/
theorem enterV {w mg mb A} {h : Heap} {g : Array GenState} {d : Drawn} {t : Nat} {os : OsState} {R : Result → Shared → Prop} {name qual : Str} {params : Arguments} {body : List Stmt} {scope : Scope} {dV kV doc pm cdv ct oc : Value} {an od : Option Addr} {osl : Array (Option Value)} {f : Addr} {args rest : List Value} {binds : Value → List (Str × Value)}
    (W : Wd w mg mb h)
    (ho : (hd.heap_39 w.params).lookup f = some ⟨oc, od, .func (fnOf name qual params body scope dV kV doc pm an cdv ct), osl⟩) (hcd : codeIn (hd.heap_39 w.params) cdv qual = true) (hroom : A.depth < 900)
    (hbind : bindArgs (fnOf name qual params body scope dV kV doc pm an cdv ct) ⟨args, []⟩ = (newTuple rest >>= fun t => pure (binds t)))
    (hsz : rest.length ≤ 100)
    (hloc : ∀ v, ∀ y ∈ binds v, scope.names.lookup y.1 = some .local)
    (x : ∀ T h₁ t₁, h.get? T = none → IsTup h₁ T rest.toArray → T ≠ h.objs.size + 1 → Fr h (h.objs.size + 1) h₁ (fun y => (binds (.ref T)).reverse.lookup y) →
      wpAny (model PG w) (A.deeper (envOf qual scope (h.objs.size + 1) f cdv)) (execs body (envOf qual scope (h.objs.size + 1) f cdv))
        (fun fl s' => R (.ok (.ret (match fl with | .ret v => v | _ => .none))) s') (fun _ _ => False)
        ⟨h₁, g, d, t₁, os⟩)
    (hco : scope.isCoroutine = false) (hgen : scope.isGenerator = false) (hk : scope.kind = .function)
    (hcell : ∀ x ∈ scope.names, x.2 ≠ .cell) : codeAny (model PG w) A (.call (.ref f) ⟨args, []⟩) R ⟨h, g, d, t, os⟩ := by
  refine codeAny_call_function (show _ < 1000 by omega) (W.X _ _ ho) rfl hco hgen rfl (codeRec_of W.X hcd) ?_
  rw [hbind]
  refine wpAny_bind ?_
  refine wpAny_newObj_type (wpAny_pure ?_) (by show sizeOk (.seq rest.toArray 0); simp [sizeOk, sizeLine]; omega)
  have e1 := Heap.get?_push_size h (o := { cls := .type "tuple", data := .seq rest.toArray }) rfl
  refine wpAny_newFunctionEnv hcell (hloc _) (fun h₁ hns hsb => ?_) hk
  have k₁ : ∀ b o, (h.push { cls := .type "tuple", data := .seq rest.toArray }).get? b = some o → h₁.get? b = some o := fun b o e =>
    hsb.extBut b o (Nat.ne_of_lt (Heap.lt_size e)) (Heap.get?_push_of_some _ e)
  have k : Ext h h₁ := fun b o e => k₁ b o (Heap.get?_push_of_some _ e)
  refine ⟨(W.keeps k).T.nolimit, codeAny_func ?_⟩
  have hsz2 : (h.push { cls := .type "tuple", data := .seq rest.toArray }).objs.size = h.objs.size + 1 := Heap.size_push ..
  have fin := x h.objs.size h₁ (t + (binds (.ref h.objs.size)).length) (none_ge (Nat.le_refl _)) ⟨_, k₁ _ _ e1, rfl, 0, rfl⟩ (Nat.ne_of_lt (Nat.lt_succ_self _)) ⟨by rw [← hsz2]; exact hns, k, Nat.le_succ _⟩
  rw [← hsz2] at fin
  exact wpAny_mono fin (fun _ _ z => z) (fun _ _ z => z.elim)
section
variable {prog : Program} {w : World} {A : Around} {E : Value → Shared → Prop} {h : Heap} {g : Array GenState} {d : Drawn} {t : Nat} {os : OsState} {Q : Value → Shared → Prop}
theorem e_lenT {l : Addr} {items : Array Value} {n : Nat} (x : IsTup h l items) (hn : items.size = n) (hl : n < 1000000) (q : ∀ u t', Q (.int n u) ⟨h, g, d, t', os⟩) : wpAny (model prog w) A (call (.builtin "len") [.ref l]) Q E ⟨h, g, d, t, os⟩ := by
  subst hn; exact PyProof.Rows.len_tuple x (by omega) (q _ _)
theorem e_none {M : Model} {env : Env} {k : Nat} {pos : Pos} (x : Q .none ⟨h, g, d, t, os⟩) : wpAny M A (eval (.Constant .none k pos) env) Q E ⟨h, g, d, t, os⟩ := wpAny_Constant_none x
theorem e_iter {v : Value} (q : wpAny (model prog w) A.in1 (pyIter v) Q E ⟨h, g, d, t, os⟩) : wpAny (model prog w) A (call (.builtin "iter") [v]) Q E ⟨h, g, d, t, os⟩ := by
  refine Calls.call_function_entry (by decide +kernel) (by decide +kernel) kdk_entry_iter (kdk_args_iter _) ?_
  unfold Builtin.«iter»
  refine wpAny_bind (m := someArgs "iter" 1 2 _) (wpAny_of_eq (a := [v]) (by first | rfl | kernel_rfl!) ?_)
  dsimp only
  exact wpAny_bind (wpAny_mono q (fun v s h => wpAny_pure ⟨_, rfl, h⟩) fun _ _ z => z)
end
theorem sp1 (v : Value) : slotPut #[] 1 v = #[none, some v] := rfl
theorem sp2 (a : Option Value) (v : Value) : slotPut #[none, a] 2 v = #[none, a, some v] := rfl
theorem sp4 (a b : Option Value) (v : Value) : slotPut #[none, a, b] 4 v = #[none, a, b, none, some v] := rfl
theorem sp3 (a b c : Option Value) (v : Value) : slotPut #[none, a, b, none, c] 3 v = #[none, a, b, some v, c] := rfl
theorem sp0 (a b c e f : Option Value) (v : Value) : slotPut #[f, a, b, c, e] 0 v = #[some v, a, b, c, e] := rfl
theorem sq1 (a b c e f : Option Value) (v : Value) : slotPut #[f, a, b, c, e] 1 v = #[f, some v, b, c, e] := rfl
theorem sq2 (a b c e f : Option Value) (v : Value) : slotPut #[f, a, b, c, e] 2 v = #[f, a, some v, c, e] := rfl
local macro_rules | `(tactic| walk_at "e") => `(tactic| first
  | ((with_reducible refine plainObj_wpAny_Assign_Attribute ?_ ?hs); (case hs => rfl)))
set_option maxRecDepth 100000 in
set_option maxHeartbeats 2000000 in
theorem islinit_spec {w mg mb A} {h : Heap} {g : Array GenState} {d : Drawn} {t : Nat} {os : OsState} {R : Result → Shared → Prop} {X dx G gi : Nat} {t1 : Tok}
    {h₀ : Heap} (W₀ : Wd w mg mb h₀) (k₀ : Ext h₀ h) (hX0 : h₀.get? X = none) (hd : A.depth < 700) (hh : A.handled = none) (I : InstIs h X dx 68 #[]) (hg : h.IsGen G gi)
    (x : ∀ h' t' a b c e, (∀ b o, b ≠ X → h.get? b = some o → h'.get? b = some o) → InstIs h' X dx 68 #[some (.int 0 a), some (.ref G), some (.int 1 b), some (.int 1 c), some (.int (-1) e)] → R (.ok (.ret .none)) ⟨h', g, d, t', os⟩) :
    codeAny (model PG w) A (.call (.ref 50) ⟨[.ref X, .ref G, .int 1 t1, .none], []⟩) R ⟨h, g, d, t, os⟩ := by
  have W := W₀.keeps k₀
  refine enterV W (by k_is) (by k_is) (by omega) (by rfl) (by simp) (fun v => locs rfl) (fun T h₁ t₁ hT hTt hTL F => ?_) rfl rfl rfl (by decide)
  have hLn : h.get? (h.objs.size + 1) = none := none_ge (Nat.le_succ _)
  have hTt : IsTup h₁ T #[.int 1 t1, .none] := hTt
  have F₁ := FS.of_fr F
  have W₁ := W.keeps F.keep
  refine wpAny_execs_cons ?_
  refine wpAny_mono (Q := fun fl s => fl = .next ∧ ∃ t', s = ⟨h₁, g, d, t', os⟩) ?_ (fun fl s q => ?_) (fun _ _ e => e)
  · repeat (walk_at "e")
    refine c_blt1 W₁ (by k_is) (by rfl) ?_
    repeat (walk_at "e")
    refine e_lenT hTt (n := 2) (by rfl) (by decide) (fun u t' => ?_)
    repeat (walk_at "e")
    refine c_blt1 W₁ (by k_is) (by rfl) ?_
    repeat (walk_at "e")
    refine e_lenT hTt (n := 2) (by rfl) (by decide) (fun u t' => ?_)
    repeat (walk_at "e")
    exact ⟨rfl, _, rfl⟩
  obtain ⟨rfl, t₂, rfl⟩ := q
  refine wpAny_execs_cons ?_
  refine for_gen (d := d) (os := os) (fs := []) ?_ (by intro _; rfl)
  repeat (walk_at "e")
  refine ⟨h₁, g, _, 2, _, fun I' i h' g' => g' = g ∧ (∀ b o, b ≠ h.objs.size + 1 → h₁.get? b = some o → h'.get? b = some o) ∧ ∃ m', FS h' (h.objs.size + 1) m' [] (fun _ => none) ∧ m' (Str.ofString "self") = some (.ref X) ∧ m' (Str.ofString "iterable") = some (.ref G) ∧ m' (Str.ofString "args") = some (.ref T),
    [h.objs.size + 1], iter_tup (fs := []) (by exact hh) hTt (fun _ q => by cases q), ?_, ?_, ?_, ?_, ?_⟩
  · intro b hb
    rw [List.mem_singleton.mp hb]
    exact ⟨fun e => hTL (Value.ref.inj e), F₁.live⟩
  · rintro I' i h₂ h₃ g₂ hI ⟨rfl, kk, m', F', hm⟩ hk
    have hIn : ∀ {b o}, h₁.get? b = some o → b ≠ I' := by rintro b o e rfl; rw [hI] at e; cases e
    obtain ⟨oL, hoL⟩ := F₁.live
    exact ⟨rfl, fun b o hb e => hk b o (hIn e) (kk b o hb e), m', ⟨F'.ns.at' fun o e => hk _ o (hIn hoL) e, (fun _ _ e => by cases e), List.Pairwise.nil⟩, hm⟩
  · intro I' h₂ hI kk
    exact ⟨rfl, fun b o _ e => kk b o e, _, F₁.up kk.up, rfl, rfl, rfl⟩
  · rintro I' i v h₂ g₂ t₂ hI hi hP ⟨rfl, kk, m', F₂, hm1, hm2, hm3⟩ hIl
    have kk2 : Ext h h₂ := fun b o e => kk b o (by rintro rfl; rw [hLn] at e; cases e) (F.keep b o e)
    refine assign_Name ?_
    refine st_loc F₂ (fun h₃ F₃ s₃ => ?_)
    have k₃ : Ext h h₃ := ext_same kk2 s₃ hLn
    have W₃ := W.keeps k₃
    have hi2 : i = 0 ∨ i = 1 := by omega
    rcases hi2 with rfl | rfl
    · obtain rfl : Value.int 1 t1 = v := Option.some.inj hP
      repeat (walk_at "e")
      refine e_none ?_
      refine wpAny_isNot_plain (by rfl) ?_
      repeat (walk_at "e")
      rw [if_pos (by rfl)]
      repeat (walk_at "e")
      refine wpAny_Expr_any ?_ (by rfl) (by rfl)
      refine c_fn W₃ (by k_is) (by k_is) ?_
      repeat (walk_at "e")
      refine ⟨W₃.X, ?_⟩
      refine whole_spec W₃ ?_ (by decide) (by decide) (fun h₄ t₄ k₄ => ?_)
      · show A.depth + 1 < 800; omega
      repeat (walk_at "e")
      refine ⟨_, _, _, rfl, (SX.of_sameBut s₃ (.head _)).trans k₄.stays.sx, rfl, fun b o hb e => k₄ b o (s₃.extBut b o hb (kk b o hb e)), _, F₃.up k₄.up, hm1, hm2, hm3⟩
    · obtain rfl : Value.none = v := Option.some.inj hP
      repeat (walk_at "e")
      refine e_none ?_
      refine wpAny_isNot_plain (by rfl) ?_
      repeat (walk_at "e")
      refine ⟨_, _, _, rfl, (SX.of_sameBut s₃ (.head _)), rfl, fun b o hb e => s₃.extBut b o hb (kk b o hb e), _, F₃, hm1, hm2, hm3⟩
  · rintro I' h₂ g₂ t₂ hI ⟨rfl, kk, m', F₂, hm1, hm2, hm3⟩
    have kk2 : Ext h h₂ := fun b o e => kk b o (by rintro rfl; rw [hLn] at e; cases e) (F.keep b o e)
    have hT₂ : IsTup h₂ T #[.int 1 t1, .none] := by
      obtain ⟨o, ho, r⟩ := hTt
      exact ⟨o, kk _ _ hTL ho, r⟩
    repeat (walk_at "e")
    refine st_loc F₂ (fun h₃ F₃ s₃ => ?_)
    repeat (walk_at "e")
    refine st_loc F₃ (fun h₄ F₄ s₄ => ?_)
    repeat (walk_at "e")
    refine st_loc F₄ (fun h₅ F₅ s₅ => ?_)
    repeat (walk_at "e")
    have k₅ : Ext h h₅ := ext_same (ext_same (ext_same kk2 s₃ hLn) s₄ hLn) s₅ hLn
    have hT₅ : IsTup h₅ T #[.int 1 t1, .none] := by
      obtain ⟨o, ho, r⟩ := hT₂
      exact ⟨o, s₅.extBut _ _ hTL (s₄.extBut _ _ hTL (s₃.extBut _ _ hTL ho)), r⟩
    have W₅ := W.keeps k₅
    refine c_blt1 W₅ (by k_is) (by rfl) ?_
    repeat (walk_at "e")
    refine e_lenT hT₅ (n := 2) (by rfl) (by decide) (fun u t' => ?_)
    repeat (walk_at "e")
    refine sub_tup (s := ⟨h₅, g₂, d, _, os⟩) hT₅ (by decide) (by decide) (v := .none) (by rfl) ?_ (by rfl)
    refine st_loc F₅ (fun h₆ F₆ s₆ => ?_)
    have hT₆ : IsTup h₆ T #[.int 1 t1, .none] := by
      obtain ⟨o, ho, r⟩ := hT₅
      exact ⟨o, s₆.extBut _ _ hTL ho, r⟩
    repeat (walk_at "e")
    refine sub_tup (s := ⟨h₆, g₂, d, _, os⟩) hT₆ (by decide) (by decide) (v := .int 1 t1) (by rfl) ?_ (by rfl)
    refine e_none ?_
    refine wpAny_isNot_plain (by rfl) ?_
    repeat (walk_at "e")
    rw [if_pos (by rfl)]
    repeat (walk_at "e")
    refine sub_tup (s := ⟨h₆, g₂, d, _, os⟩) hT₆ (by decide) (by decide) (v := .int 1 t1) (by rfl) ?_ (by rfl)
    refine st_loc F₆ (fun h₇ F₇ s₇ => ?_)
    have hT₇ : IsTup h₇ T #[.int 1 t1, .none] := by
      obtain ⟨o, ho, r⟩ := hT₆
      exact ⟨o, s₇.extBut _ _ hTL ho, r⟩
    have k₇ : Ext h h₇ := ext_same (ext_same k₅ s₆ hLn) s₇ hLn
    have W₇ := W.keeps k₇
    repeat (walk_at "e")
    refine e_none ?_
    refine wpAny_isNot_plain (by rfl) ?_
    repeat (walk_at "e")
    refine c_blt1 W₇ (by k_is) (by rfl) ?_
    repeat (walk_at "e")
    refine e_lenT hT₇ (n := 2) (by rfl) (by decide) (fun u t' => ?_)
    repeat (walk_at "e")
    refine c_blt1 W₇ (by k_is) (by rfl) ?_
    repeat (walk_at "e")
    refine e_iter (wpAny_pyIter_gen (hg.keeps k₇) ?_)
    repeat (walk_at "e")
    have I₇ : InstIs h₇ X dx 68 #[] := I.keeps (fun o e => k₇ _ _ e) (fun o e => k₇ _ _ e)
    have hdL : dx ≠ h.objs.size + 1 := by rintro rfl; have := I.dict; rw [hLn] at this; cases this
    refine e_set W₇.X F₇.ns I₇ hdL (by k_is) (by k_is) (by k_is) (by k_is) (by k_is) (by decide) (fun h₈ hn₈ I₈ k₈ => ?_)
    repeat (walk_at "e")
    have hL0 : h₀.get? (h.objs.size + 1) = none := by
      rcases get_none_or h₀ (h.objs.size + 1) with q | ⟨o, q⟩
      · exact q
      · rw [k₀ _ _ q] at hLn; cases hLn
    have nxt : ∀ {ha hb : Heap}, Ext h₀ ha → (∀ b o, b ≠ X → b ≠ h.objs.size + 1 → ha.get? b = some o → hb.get? b = some o) → Ext h₀ hb := fun ka kb b o e =>
      kb b o (by rintro rfl; rw [hX0] at e; cases e) (by rintro rfl; rw [hL0] at e; cases e) (ka b o e)
    have z₇ : Ext h₀ h₇ := Ext.trans k₀ k₇
    have z₈ := nxt z₇ k₈
    rw [sp1] at I₈
    refine e_set (W₀.keeps z₈).X hn₈ I₈ hdL (by k_is) (by k_is) (by k_is) (by k_is) (by k_is) (by decide) (fun h₉ hn₉ I₉ k₉ => ?_)
    have z₉ := nxt z₈ k₉
    rw [sp2] at I₉
    repeat (walk_at "e")
    refine e_set (W₀.keeps z₉).X hn₉ I₉ hdL (by k_is) (by k_is) (by k_is) (by k_is) (by k_is) (by decide) (fun ha hna Ia ka => ?_)
    have za := nxt z₉ ka
    rw [sp4] at Ia
    repeat (walk_at "e")
    refine e_set (W₀.keeps za).X hna Ia hdL (by k_is) (by k_is) (by k_is) (by k_is) (by k_is) (by decide) (fun hb hnb Ib kb => ?_)
    have zb := nxt za kb
    rw [sp3] at Ib
    repeat (walk_at "e")
    refine e_set (W₀.keeps zb).X hnb Ib hdL (by k_is) (by k_is) (by k_is) (by k_is) (by k_is) (by decide) (fun hc hnc Ic kc => ?_)
    repeat (walk_at "e")
    rw [sp0] at Ic
    refine x hc _ _ _ _ _ (fun b o hbX e => ?_) Ic
    have hbL : b ≠ h.objs.size + 1 := by rintro rfl; rw [hLn] at e; cases e
    exact kc b o hbX hbL (kb b o hbX hbL (ka b o hbX hbL (k₉ b o hbX hbL (k₈ b o hbX hbL (k₇ b o e)))))
/-- the stack of frames -/
structure Stk (A : Around) (fs : List Addr) (hB h : Heap) : Prop where
  fr : ∃ outer, A.frames = some outer ∧ outer.filterMap (·.frame) = fs ∧ ∀ env ∈ outer, env.scope.kind ≠ .module ∧ ∃ L, env.frame = some L
  ok : FrOk fs h
  new : ∀ b ∈ fs, hB.get? b = none
theorem Stk.keeps {A : Around} {fs : List Addr} {hB h h' : Heap} (x : Stk A fs hB h) (k : Up h h') : Stk A fs hB h' := ⟨x.fr, x.ok.up k, x.new⟩
theorem funFrames_mk {h base : Heap} : ∀ {l : List Env}, (∀ env ∈ l, env.scope.kind ≠ .module ∧ ∃ L, env.frame = some L) → (∀ b ∈ l.filterMap (·.frame), base.get? b = none ∧ ∃ o, h.get? b = some o ∧ ∀ vs, o.data ≠ .fields vs) → h.FunFrames base l
  | [], _, _ => trivial
  | env :: r, h1, h2 => by
    obtain ⟨hk, L, hL⟩ := h1 env (.head _)
    have hm : L ∈ (env :: r).filterMap (·.frame) := List.mem_filterMap.mpr ⟨env, .head _, hL⟩
    obtain ⟨a, o, b, c⟩ := h2 L hm
    refine ⟨hk, ⟨L, o, hL, a, b, c⟩, funFrames_mk (fun e he => h1 e (.tail _ he)) fun b hb => h2 b ?_⟩
    rw [List.filterMap_cons, hL]
    exact .tail _ hb
theorem FrOk.funs {fs : List Addr} {h : Heap} (x : FrOk fs h) : ∀ b ∈ fs, ∃ o, h.get? b = some o ∧ ∀ vs, o.data ≠ .fields vs := fun b hb => by
  obtain ⟨o, ho, es, ep, hd⟩ := x b hb
  exact ⟨o, ho, fun vs q => by rw [hd] at q; cases q⟩
/-- an exception under way, its flight told -/
noncomputable def Fly (base : Heap) (l : List Env) (e : Addr) (fl : Value) (h : Heap) : Prop := base.StaysIn h ∧ base.get? e = none ∧ h.FunFrames base l ∧ ∃ a0, h.TracedAtW base e (.type "StopIteration") a0 fl
section
variable {M : Model} {A : Around} {E : Value → Shared → Prop} {base h : Heap} {g : Array GenState} {d : Drawn} {t : Nat} {os : OsState} {env : Env} {outer l : List Env} {L e : Addr} {Q : Unit → Shared → Prop} {fl : Value}
theorem note_new {h₁ : Heap} (hfr : A.frames = some (env :: outer)) (hl : h.FunFrames base (env :: outer)) (hf : env.frame = some L) (hx : Heap.NewExc h₁ h e "StopIteration") (hkb : base.StaysIn h₁)
    (q : ∀ h', Fly base (env :: outer) e (rawInt L) h' → h.UpToSlots h' → Q () ⟨h', g, d, t, os⟩) : wpAny M A (noteFrame (.ref e) env) Q E ⟨h, g, d, t, os⟩ := by
  obtain ⟨ob, tp, he, hc, hd⟩ := hx.there
  have hen : base.get? e = none := by
    cases q : base.get? e with
    | none => rfl
    | some o => have := hkb e o q; rw [hx.new] at this; cases this
  unfold noteFrame
  simp only [hf]
  refine wpAny_bind (wpAny_field he hd (show _ = some Value.none from rfl) ?_)
  rw [if_neg (by decide)]
  refine wpAny_entryW (s := ⟨h, g, d, t, os⟩) (a0 := tp) hfr hl hf he (fun b o hb => hx.keeps b o (hkb b o hb)) hen hd (by simp) rfl fun h' hN => ?_
  obtain ⟨k1, k2, k3, k4⟩ := hN
  rw [hc] at k3
  exact q h' ⟨k1, hen, k2, tp, k3⟩ k4
theorem fly_set (x : Fly base l e fl h) (q : ∀ h', Fly base l e (rawInt L) h' → h.UpToSlots h' → Q () ⟨h', g, d, t, os⟩) : wpAny M A (setFlight (.ref e) (some L)) Q E ⟨h, g, d, t, os⟩ := by
  obtain ⟨hkb, hen, hl, a0, oe, vs, T, oT, ts, he, hcls, hd, h1, hnT, hTe, hT, hdT, h3⟩ := x
  have hsz3 : 3 < ts.size := (Array.getElem?_eq_some_iff.mp h3).1
  have other : ∀ b, b ≠ T → (h.update T (Obj.mapFields (·.setIfInBounds 3 (rawInt L)))).get? b = h.get? b := fun b hb => Heap.get?_update_other _ _ (Ne.symm hb)
  have noRec : ∀ b o, h.get? b = some o → (∀ vs, o.data ≠ .fields vs) → b ≠ T := fun b o hb hnf z => by
    rw [z, hT] at hb; injection hb with hb; subst hb; exact hnf ts hdT
  unfold setFlight
  refine wpAny_bind (wpAny_field he hd h1 ?_)
  rw [if_pos (show (Value.ref T != Value.none) = true from by simp)]
  refine wpAny_setField hT hdT hsz3 (q _ ⟨fun b o hbo => (other b fun z => by rw [z, hnT] at hbo; cases hbo).trans (hkb b o hbo), hen,
    hl.of_keeps fun b o hb hnf => ⟨o, (other b (noRec b o hb hnf)).trans hb, rfl⟩, a0, ?_⟩ fun b o hb hnf => ⟨o.slots, (other b (noRec b o hb hnf)).trans hb⟩)
  exact ⟨oe, vs, T, _, _, (other e (Ne.symm hTe)).trans he, hcls, hd, h1, hnT, hTe, Heap.get?_update_self _ hT (Obj.isFreed_of_fields (Obj.data_mapFields hdT _)), Obj.data_mapFields hdT _, by simp [hsz3]⟩
theorem fly_land (x : Fly base l e fl h) (q : ∀ h', Fly base l e .none h' → h.UpToSlots h' → Q () ⟨h', g, d, t, os⟩) : wpAny M A (setFlight (.ref e) none) Q E ⟨h, g, d, t, os⟩ := by
  obtain ⟨hkb, hen, hl, a0, ht⟩ := x
  exact wpAny_setFlight_noneW (s := ⟨h, g, d, t, os⟩) hkb hl ht fun h' k1 k2 k3 k4 => q h' ⟨k1, hen, k2, a0, k3⟩ fun b o hb hn => ⟨o.slots, k4 b o hb hn⟩
theorem note_again (hf : env.frame = some L) (x : Fly base l e (rawInt L) h) (q : Q () ⟨h, g, d, t, os⟩) : wpAny M A (noteFrame (.ref e) env) Q E ⟨h, g, d, t, os⟩ := by
  obtain ⟨_, _, _, a0, ht⟩ := x
  exact wpAny_noteFrame_againW hf ht q
theorem fly_leaves (hf : env.frame = some L) (x : Fly base (env :: outer) e (rawInt L) h) (q : ∀ h', Fly base outer e .none h' → h.UpToSlots h' → Q () ⟨h', g, d, t, os⟩) : wpAny M A (leaving env (.ref e)) Q E ⟨h, g, d, t, os⟩ := by
  unfold leaving
  refine wpAny_bind (note_again hf x (fly_land x fun h' k1 k2 => q h' ⟨k1.1, k1.2.1, k1.2.2.1.2.2, k1.2.2.2⟩ k2))
theorem fly_back (hf : env.frame = some L) (x : Fly base l e fl h) (q : ∀ h', Fly base l e (rawInt L) h' → h.UpToSlots h' → E (.ref e) ⟨h', g, d, t, os⟩) : cameBackBy M A env E (.ref e) ⟨h, g, d, t, os⟩ := by
  unfold cameBackBy
  have x' := x
  obtain ⟨_, _, _, a0, oe, vs, T, oT, ts, he, hcls, hd, h1, _⟩ := x'
  refine wpAny_bind (wpAny_field he hd h1 ?_)
  rw [if_neg (show ¬ ((Value.ref T == Value.none) = true) from by simp), hf]
  exact fly_set x q
theorem fly_stop {Q : Bool → Shared → Prop} (x : Fly base l e fl h) (q : Q true ⟨h, g, d, t, os⟩) : wpAny M A (isInstance (.ref e) (.type "StopIteration")) Q E ⟨h, g, d, t, os⟩ := by
  obtain ⟨_, _, _, a0, oe, vs, T, oT, ts, he, hcls, _⟩ := x
  exact wpAny_isInstance (T := "StopIteration") (b := true) ⟨_, he, hcls.1⟩ isSubtype_stop q
end
theorem funs_move {h h' base : Heap} (k : ∀ b, (∃ o, h.get? b = some o ∧ ∀ vs, o.data ≠ .fields vs) → ∃ o, h'.get? b = some o ∧ ∀ vs, o.data ≠ .fields vs) : ∀ {l : List Env}, h.FunFrames base l → h'.FunFrames base l
  | [], _ => trivial
  | env :: r, ⟨hk, ⟨L, o, hL, a, b, c⟩, hr⟩ => by
    obtain ⟨o', b', c'⟩ := k L ⟨o, b, c⟩
    exact ⟨hk, ⟨L, o', hL, a, b', c'⟩, funs_move k hr⟩
theorem Fly.move {base h h' : Heap} {l : List Env} {e X L : Addr} {fl : Value} {m m₂ : Str → Option Value} {o : Obj} (x : Fly base l e fl h) (hX : base.get? X = none) (hL : base.get? L = none)
    (ho : h.get? X = some o) (hd : o.data = .plain) (ho' : ∃ o', h'.get? X = some o' ∧ o'.data = .plain) (hn : h.Ns L m) (hn' : h'.Ns L m₂)
    (k : ∀ b o, b ≠ X → b ≠ L → h.get? b = some o → h'.get? b = some o) : Fly base l e fl h' := by
  obtain ⟨f1, f2, f3, a0, oe, vs, T, oT, ts, he, hc, hde, h1, hnT, hTe, hT, hdT, h3⟩ := x
  obtain ⟨oL, es, ep, hoL, hdL, _⟩ := hn
  have notXL : ∀ {b ob vs}, h.get? b = some ob → ob.data = .fields vs → b ≠ X ∧ b ≠ L := by
    rintro b ob vs hb hd'
    constructor
    · rintro rfl; rw [ho] at hb; cases hb; rw [hd] at hd'; cases hd'
    · rintro rfl; rw [hoL] at hb; cases hb; rw [hdL] at hd'; cases hd'
  refine ⟨fun b ob e => k b ob (by rintro rfl; rw [hX] at e; cases e) (by rintro rfl; rw [hL] at e; cases e) (f1 b ob e), f2, funs_move (fun b hb => ?_) f3, a0, oe, vs, T, oT, ts, k _ _ (notXL he hde).1 (notXL he hde).2 he, hc, hde, h1, hnT, hTe, k _ _ (notXL hT hdT).1 (notXL hT hdT).2 hT, hdT, h3⟩
  obtain ⟨ob, hob, hnf⟩ := hb
  by_cases e1 : b = X
  · subst e1; obtain ⟨o', h1, h2⟩ := ho'; exact ⟨o', h1, fun vs q => by rw [h2] at q; cases q⟩
  · by_cases e2 : b = L
    · subst e2; obtain ⟨o2, _, _, h1, h2, _⟩ := hn'; exact ⟨o2, h1, fun vs q => by rw [h2] at q; cases q⟩
    · exact ⟨ob, k b ob e1 e2 hob, hnf⟩
theorem raise_bare {M : Model} {A : Around} {E : Value → Shared → Prop} {base h : Heap} {g : Array GenState} {d : Drawn} {t : Nat} {os : OsState} {env : Env} {l : List Env} {L e : Addr} {fl : Value} {pos : Pos} {Q : Flow → Shared → Prop}
    (hA : A.handled = some (.ref e)) (hf : env.frame = some L) (x : Fly base l e fl h) (q : ∀ h', Fly base l e (rawInt L) h' → h.UpToSlots h' → E (.ref e) ⟨h', g, d, t, os⟩) :
    wpAny M A (exec (.Raise none none pos) env) Q E ⟨h, g, d, t, os⟩ := by
  have x' := x
  obtain ⟨_, _, _, a0, oe, vs, T, oT, ts, he, hcls, hd, h1, _⟩ := x'
  rw [arm_exec_Raise]
  refine wpAny_bind (wpAny_standAt ?_)
  show wpAny M A (raiseStmt env none none) _ _ _
  unfold raiseStmt
  dsimp only
  refine wpAny_bind (wpAny_handled ?_)
  rw [hA]
  dsimp only
  refine wpAny_bind (wpAny_rule (wpAny_bind (wpAny_field he hd h1 ?_)))
  rw [if_neg (show ¬ ((Value.ref T == Value.none) = true) from by simp), hf]
  first
    | exact wpAny_bind (fly_set x fun h' k1 k2 => wpAny_throw (q h' k1 k2))
    | exact wpAny_bind (wpAny_pure (wpAny_bind (fly_set x fun h' k1 k2 => wpAny_throw (q h' k1 k2))))
section
variable {prog : Program} {w : World} {A : Around} {E : Value → Shared → Prop} {h : Heap} {g : Array GenState} {d : Drawn} {t : Nat} {os : OsState} {Q : Value → Shared → Prop}
theorem e_iadd {a b : Int} {u v : Tok} (x : Q (.int (a + b) t) ⟨h, g, d, t + 1, os⟩) : wpAny (model prog w) A (inplaceOp .Add (.int a u) (.int b v)) Q E ⟨h, g, d, t, os⟩ := PyProof.Rows.iadd_int x
theorem enterE {mg mb : Str → Option Value} {name qual : Str} {params : Arguments} {body : List Stmt} {scope : Scope} {dV kV doc pm cdv ct oc : Value} {an od : Option Addr} {osl : Array (Option Value)} {f : Addr} {args : List Value} {binds : List (Str × Value)}
    (W : Wd w mg mb h)
    (ho : (hd.heap_39 w.params).lookup f = some ⟨oc, od, .func (fnOf name qual params body scope dV kV doc pm an cdv ct), osl⟩) (hcd : codeIn (hd.heap_39 w.params) cdv qual = true) (hroom : A.depth < 900)
    (hbind : bindArgs (fnOf name qual params body scope dV kV doc pm an cdv ct) ⟨args, []⟩ = pure binds) (hloc : ∀ y ∈ binds, scope.names.lookup y.1 = some .local)
    (x : ∀ h₁ t₁, Fr h h.objs.size h₁ (fun y => binds.reverse.lookup y) →
      wpAny (model PG w) (A.deeper (envOf qual scope h.objs.size f cdv)) (execs body (envOf qual scope h.objs.size f cdv))
        (fun fl s' => Q (match fl with | .ret v => v | _ => .none) s')
        (fun e s' => wpAny (model PG w) (A.deeper (envOf qual scope h.objs.size f cdv)) (leaving (envOf qual scope h.objs.size f cdv) e) (fun _ s'' => E e s'') (fun _ _ => False) s')
        ⟨h₁, g, d, t₁, os⟩)
    (hco : scope.isCoroutine = false) (hgen : scope.isGenerator = false) (hk : scope.kind = .function)
    (hcell : ∀ x ∈ scope.names, x.2 ≠ .cell) : wpAny (model PG w) A (call (.ref f) args) Q E ⟨h, g, d, t, os⟩ := by
  refine wpAny_call (codeAny_call_def (fd := fnOf name qual params body scope dV kV doc pm an cdv ct) (body := body) (binds := binds) (show _ < 1000 by omega) (W.X _ _ ho) rfl W.T.nolimit (codeRec_of W.X hcd) rfl (.of_eq hbind) hcell hloc (fun h₁ hns hk₁ => ?_) hco hgen hk)
  exact wpAny_mono (x h₁ _ ⟨hns, hk₁, Nat.le_refl _⟩) (fun _ _ x => x) (fun e s' x => wpAny_mono x (fun _ _ z => z) fun _ _ z => z.elim)
end
local macro_rules | `(tactic| walk_at "e") => `(tactic| first
  | with_reducible refine wpAny_AugAssign_AttributeAny ?_
  | with_reducible refine e_iadd ?_
  | with_reducible refine Attribute_name ?_)
theorem be_sub : isSubtype (.type "BaseException") (.type "BaseException") = pure true := by rw [isSubtype_type]; kernel_rfl
theorem si_sub : isSubtype (.type "StopIteration") (.type "BaseException") = pure true := by rw [isSubtype_type]; kernel_rfl
theorem be_nt : isSubtype (.type ((Manifest.find? "BaseException").elim "type" fun x => x.metatype)) (.type "tuple") = pure false := by
  rw [show ((Manifest.find? "BaseException").elim "type" fun x => x.metatype) = "type" from by kernel_rfl, isSubtype_type]; kernel_rfl
/-- where the walk over the ancestors stands: the slots of the islice, the generator -/
structure Isl (w : World) (hG : Heap) (X dx G gi Lg : Nat) (xs : List Str) (c n : Int) (j : Nat) (s : Shared) : Prop where
  inst : ∃ a b e f, InstIs s.heap X dx 68 #[some (.int c a), some (.ref G), some (.int n b), some (.int 1 e), some (.int (-1) f)]
  gen : GAt w hG G gi Lg xs j s
  ext : Ext hG s.heap
/-- the addresses lie apart -/
structure Apart (hB hG : Heap) (X dx G Lg : Nat) : Prop where
  BG : Ext hB hG
  hX : hG.get? X = none
  hL : hG.get? Lg = none
  hd : hG.get? dx = none
  XL : X ≠ Lg
  dL : dx ≠ Lg
  XG : X ≠ G
set_option maxRecDepth 100000 in
set_option maxHeartbeats 2000000 in
theorem islnext_spec {w mg mb A E} {hB hG h : Heap} {g : Array GenState} {d : Drawn} {t : Nat} {os : OsState} {Q : Value → Shared → Prop} {fs : List Addr} {X dx G gi Lg : Nat} {xs : List Str} {c n : Int} {j : Nat}
    (W₀ : Wd w mg mb hB) (ap : Apart hB hG X dx G Lg) (S : Stk A fs hB h) (SG : FrOk fs hG) (hd : A.depth < 500) (hu : A.units < 4000) (hh : A.handled = none)
    (x : Isl w hG X dx G gi Lg xs c n j ⟨h, g, d, t, os⟩) (hc : (c = 0 ∧ n = 1 ∧ j = 0 ∧ 1 ≤ xs.length) ∨ (c = j ∧ n = j ∧ 1 ≤ j))
    (hQ : ∀ y t' s', xs[max 1 j]? = some y → Isl w hG X dx G gi Lg xs (max 1 j + 1 : Nat) (max 1 j + 1 : Nat) (max 1 j + 1) s' → (∀ b o, b ≠ X → b ≠ Lg → h.get? b = some o → s'.heap.get? b = some o) → GenOnly gi g s'.gens → s'.drawn = d → s'.os = os → Q (.str y t') s')
    (hE : ∀ e base l s', xs.length ≤ max 1 j → (∀ b o, b ≠ X → b ≠ Lg → b ∉ fs → h.get? b = some o → s'.heap.get? b = some o) → (∀ b ∈ fs, UpAt h s'.heap b) → Fly base l e .none s'.heap → GenOnly gi g s'.gens → s'.gens[gi]? = some .finished → s'.drawn = d → s'.os = os → E (.ref e) s') :
    wpAny (model PG w) A (call (.ref 64) [.ref X]) Q E ⟨h, g, d, t, os⟩ := by
  obtain ⟨⟨a1, a2, a3, a4, I⟩, GA, kG⟩ := x
  have kB : Ext hB h := Ext.trans ap.BG kG
  refine enterE (W₀.keeps kB) (by k_is) (by k_is) (by omega) (by rfl) (locs rfl) (fun h₁ t₁ F => ?_) rfl rfl rfl (by decide)
  have hLn : h.get? h.objs.size = none := none_ge (Nat.le_refl _)
  have F₁ := FS.of_fr F
  have W₁ := W₀.keeps (Ext.trans kB F.keep)
  have I₁ := I.keeps (fun o e => F.keep _ _ e) (fun o e => F.keep _ _ e)
  repeat (walk_at "e")
  refine e_get W₁.X I₁ (by k_is) (by k_is) (by k_is) (by k_is) (by k_is) (by k_is) (by rfl) (by rfl) ?_
  refine st_loc F₁ (fun h₂ F₂ s₂ => ?_)
  repeat (walk_at "e")
  refine e_none ?_
  refine is_ref_none ?_
  repeat (walk_at "e")
  have k₂ : Ext h h₂ := ext_same F.keep s₂ hLn
  have I₂ := I.keeps (fun o e => k₂ _ _ e) (fun o e => k₂ _ _ e)
  have W₂ := W₀.keeps (Ext.trans kB k₂)
  refine e_get W₂.X I₂ (by k_is) (by k_is) (by k_is) (by k_is) (by k_is) (by k_is) (by rfl) (by rfl) ?_
  refine st_loc F₂ (fun h₃ F₃ s₃ => ?_)
  have k₃ : Ext h h₃ := ext_same k₂ s₃ hLn
  have I₃ := I.keeps (fun o e => k₃ _ _ e) (fun o e => k₃ _ _ e)
  refine wpAny_execs_cons ?_
  refine wpAny_Try_except ?_
  have hLX : h.objs.size ≠ X := by rintro e; have := I.obj; rw [← e, hLn] at this; cases this
  have hLG' : h.objs.size ≠ G := by rintro e; obtain ⟨o, _, _, ho, _⟩ := GA.gen; rw [← e] at ho; exact absurd (show h.get? _ = some o from ho) (by rw [hLn]; simp)
  have hLL : h.objs.size ≠ Lg := by rintro e; obtain ⟨o, ho⟩ := GA.live; rw [← e] at ho; exact absurd (show h.get? _ = some o from ho) (by rw [hLn]; simp)
  have hLd : h.objs.size ≠ dx := by rintro e; have := I.dict; rw [← e, hLn] at this; cases this
  have hLG0 : hG.get? h.objs.size = none := by
    rcases get_none_or hG h.objs.size with q | ⟨o, q⟩
    · exact q
    · have := kG _ _ q; rw [show (⟨h, g, d, t, os⟩ : Shared).heap = h from rfl, hLn] at this; cases this
  have WG := W₀.keeps ap.BG
  have GA₃ : ∀ t', GAt w hG G gi Lg xs j ⟨h₃, g, d, t', os⟩ := fun t' => GA.keeps (s' := ⟨h₃, g, d, t', os⟩) (fun o e => k₃ _ _ e) (fun o e => k₃ _ _ e) rfl
  have nxt : ∀ {ha hb : Heap}, Ext hG ha → (∀ b o, b ≠ X → b ≠ Lg → b ≠ h.objs.size → ha.get? b = some o → hb.get? b = some o) → Ext hG hb := fun ka kb b o e =>
    kb b o (by rintro rfl; rw [ap.hX] at e; cases e) (by rintro rfl; rw [ap.hL] at e; cases e) (by rintro rfl; rw [hLG0] at e; cases e) (ka b o e)
  refine wpAny_execs_cons ?_
  refine wpAny_mono (Q := fun f s' => f = .next ∧ ∃ h' g' t' m' u, s' = ⟨h', g', d, t', os⟩ ∧ FS h' h.objs.size m' [] (fun _ => none) ∧ m' (Str.ofString "self") = some (.ref X) ∧ m' (Str.ofString "it") = some (.ref G) ∧ m' (Str.ofString "stop") = some (.int (-1) u)
    ∧ Isl w hG X dx G gi Lg xs (max 1 j : Nat) (max 1 j : Nat) (max 1 j) s' ∧ (∀ b o, b ≠ X → b ≠ Lg → b ≠ h.objs.size → h₃.get? b = some o → h'.get? b = some o) ∧ GenOnly gi g g') (E := fun _ _ => False) ?_ (fun f s' q => ?_) (fun _ _ q => q.elim)
  · refine wpAny_While (codeAny_whileLoop (fun k s' => ∃ h' g' t' m' u, s' = ⟨h', g', d, t', os⟩ ∧ FS h' h.objs.size m' [] (fun _ => none) ∧ m' (Str.ofString "self") = some (.ref X) ∧ m' (Str.ofString "it") = some (.ref G) ∧ m' (Str.ofString "stop") = some (.int (-1) u)
      ∧ (∃ c' n' j', Isl w hG X dx G gi Lg xs c' n' j' s' ∧ ((k = 1 ∧ c' = 0 ∧ n' = 1 ∧ j' = 0 ∧ 1 ≤ xs.length ∧ j = 0) ∨ (k = 0 ∧ c' = (max 1 j : Nat) ∧ n' = (max 1 j : Nat) ∧ j' = max 1 j))) ∧ (∀ b o, b ≠ X → b ≠ Lg → b ≠ h.objs.size → h₃.get? b = some o → h'.get? b = some o) ∧ GenOnly gi g g') ?_ (if j = 0 then 1 else 0) ?_)
    · rintro k s' ⟨h', g', t', m', u, rfl, F', hm1, hm2, hm3, ⟨c', n', j', X', hk⟩, hrel, hgo⟩
      obtain ⟨⟨b1, b2, b3, b4, I'⟩, GA', kG'⟩ := X'
      have W' := WG.keeps kG'
      repeat (walk_at "e")
      refine e_get W'.X I' (by k_is) (by k_is) (by k_is) (by k_is) (by k_is) (by k_is) (by rfl) (by rfl) ?_
      repeat (walk_at "e")
      refine e_get W'.X I' (by k_is) (by k_is) (by k_is) (by k_is) (by k_is) (by k_is) (by rfl) (by rfl) ?_
      repeat (walk_at "e")
      rcases hk with ⟨rfl, rfl, rfl, rfl, hx1, rfl⟩ | ⟨rfl, rfl, rfl, rfl⟩
      · repeat (walk_at "e")
        refine wpAny_Expr_any ?_ (by rfl) (by rfl)
        refine c_blt1 W' (by k_is) (by rfl) ?_
        repeat (walk_at "e")
        refine gen_next (h₀ := hG) hh ?_ ?_ WG ap.hL kG' (GA'.keeps (fun _ e => e) (fun _ e => e) rfl) (fun y ty s'' hy GA'' k'' go'' hd'' ho'' => ?_) (fun e h₁' s'' hlen => ?_)
        · show A.depth + 1 < 590; omega
        · show A.units + 3 < 4900; omega
        · obtain ⟨h'', g'', d'', t'', os''⟩ := s''
          dsimp only at hd'' ho'' k'' go''
          subst hd'' ho''
          have F'' : FS h'' h.objs.size m' [] (fun _ => none) := ⟨F'.ns.at' fun o e => k'' _ o hLL e, (fun _ _ e => by cases e), List.Pairwise.nil⟩
          have kG'' : Ext hG h'' := fun b o e => k'' b o (by rintro rfl; rw [ap.hL] at e; cases e) (kG' b o e)
          have W'' := WG.keeps kG''
          have I'' := I'.keeps (fun o e => k'' _ o ap.XL e) (fun o e => k'' _ o ap.dL e)
          repeat (walk_at "e")
          refine e_get W''.X I'' (by k_is) (by k_is) (by k_is) (by k_is) (by k_is) (by k_is) (by rfl) (by rfl) ?_
          repeat (walk_at "e")
          refine e_set W''.X F''.ns I'' (Ne.symm hLd) (by k_is) (by k_is) (by k_is) (by k_is) (by k_is) (by decide) (fun h5 hn5 I5 k5 => ?_)
          rw [sp0] at I5
          repeat (walk_at "e")
          have GA5 : ∀ t', GAt w hG G gi Lg xs (0 + 1) ⟨h5, g'', d'', t', os''⟩ := fun t' => GA''.keeps (s' := ⟨h5, g'', d'', t', os''⟩) (fun o e => k5 _ o (Ne.symm ap.XG) (Ne.symm hLG') e) (fun o e => k5 _ o (Ne.symm ap.XL) (Ne.symm hLL) e) rfl
          refine ⟨0, by decide, h5, g'', _, m', u, rfl, ⟨hn5, (fun _ _ e => by cases e), List.Pairwise.nil⟩, hm1, hm2, hm3, ⟨_, _, 1, ⟨⟨_, _, _, _, I5⟩, GA5 _, nxt kG'' fun b o h1 _ h3 e => k5 b o h1 h3 e⟩, .inr ⟨rfl, rfl, rfl, rfl⟩⟩, fun b o h1 h2 h3 e => k5 b o h1 h3 (k'' b o h2 (hrel b o h1 h2 h3 e)), hgo.trans go''⟩
        · omega
      · rw [if_neg (by simp)]
        repeat (walk_at "e")
        exact ⟨rfl, _, _, _, _, _, rfl, F', hm1, hm2, hm3, ⟨⟨_, _, _, _, I'⟩, GA'.keeps (fun _ e => e) (fun _ e => e) rfl, kG'⟩, hrel, hgo⟩
    · refine ⟨h₃, g, _, _, _, rfl, F₃, rfl, rfl, rfl, ⟨c, n, j, ⟨⟨_, _, _, _, I₃⟩, GA₃ _, Ext.trans (show Ext hG h from kG) k₃⟩, ?_⟩, (fun b o _ _ _ e => e), ⟨rfl, fun _ _ => rfl⟩⟩
      rcases hc with ⟨rfl, rfl, rfl, h1⟩ | ⟨rfl, rfl, h1⟩
      · exact .inl ⟨rfl, rfl, rfl, rfl, h1, rfl⟩
      · exact .inr ⟨by rw [if_neg (by omega)], by omega, by omega, by omega⟩
  obtain ⟨rfl, h', g', t', m', u, rfl, F', hm1, hm2, hm3, ⟨⟨b1, b2, b3, b4, I'⟩, GA', kG'⟩, hrel, hgo⟩ := q
  have W' := WG.keeps kG'
  repeat (walk_at "e")
  refine c_blt1 W' (by k_is) (by rfl) ?_
  repeat (walk_at "e")
  refine gen_next (h₀ := hG) hh ?_ ?_ WG ap.hL kG' (GA'.keeps (fun _ e => e) (fun _ e => e) rfl) (fun y ty s'' hy GA'' k'' go'' hd'' ho'' => ?_) (fun e h₁' s'' hlen k'' hx go'' gf'' hd'' ho'' => ?_)
  · show A.depth + 1 < 590; omega
  · show A.units + 3 < 4900; omega
  · obtain ⟨h'', g'', d'', t'', os''⟩ := s''
    dsimp only at hd'' ho'' k'' go''
    subst hd'' ho''
    have F'' : FS h'' h.objs.size m' [] (fun _ => none) := ⟨F'.ns.at' fun o e => k'' _ o hLL e, (fun _ _ e => by cases e), List.Pairwise.nil⟩
    have kG'' : Ext hG h'' := fun b o e => k'' b o (by rintro rfl; rw [ap.hL] at e; cases e) (kG' b o e)
    have I'' := I'.keeps (fun o e => k'' _ o ap.XL e) (fun o e => k'' _ o ap.dL e)
    refine st_loc F'' (fun h5 F5 s5 => ?_)
    have kG5 : Ext hG h5 := ext_same kG'' s5 hLG0
    have W5 := WG.keeps kG5
    have I5 := I''.keeps (fun o e => s5.extBut _ o (Ne.symm hLX) e) (fun o e => s5.extBut _ o (Ne.symm hLd) e)
    repeat (walk_at "e")
    refine e_get W5.X I5 (by k_is) (by k_is) (by k_is) (by k_is) (by k_is) (by k_is) (by rfl) (by rfl) ?_
    repeat (walk_at "e")
    refine e_set W5.X F5.ns I5 (Ne.symm hLd) (by k_is) (by k_is) (by k_is) (by k_is) (by k_is) (by decide) (fun h6 hn6 I6 k6 => ?_)
    rw [sp0] at I6
    have kG6 := nxt kG5 fun b o h1 _ h3 e => k6 b o h1 h3 e
    have W6 := WG.keeps kG6
    repeat (walk_at "e")
    have F6 : FS h6 h.objs.size _ [] (fun _ => none) := ⟨hn6, (fun _ _ e => by cases e), List.Pairwise.nil⟩
    refine e_get W6.X I6 (by k_is) (by k_is) (by k_is) (by k_is) (by k_is) (by k_is) (by rfl) (by rfl) ?_
    repeat (walk_at "e")
    refine e_get W6.X I6 (by k_is) (by k_is) (by k_is) (by k_is) (by k_is) (by k_is) (by rfl) (by rfl) ?_
    repeat (walk_at "e")
    refine e_set W6.X hn6 I6 (Ne.symm hLd) (by k_is) (by k_is) (by k_is) (by k_is) (by k_is) (by decide) (fun h7 hn7 I7 k7 => ?_)
    rw [sq2] at I7
    have kG7 := nxt kG6 fun b o h1 _ h3 e => k7 b o h1 h3 e
    repeat (walk_at "e")
    have GA7 : ∀ t', GAt w hG G gi Lg xs (max 1 j + 1) ⟨h7, g'', d'', t', os''⟩ := fun t' => GA''.keeps (s' := ⟨h7, g'', d'', t', os''⟩)
      (fun o e => k7 _ o (Ne.symm ap.XG) (Ne.symm hLG') (k6 _ o (Ne.symm ap.XG) (Ne.symm hLG') (s5.extBut _ o (Ne.symm hLG') e)))
      (fun o e => k7 _ o (Ne.symm ap.XL) (Ne.symm hLL) (k6 _ o (Ne.symm ap.XL) (Ne.symm hLL) (s5.extBut _ o (Ne.symm hLL) e))) rfl
    refine hQ y ty _ hy ⟨⟨_, _, _, _, I7⟩, GA7 _, kG7⟩ (fun b o h1 h2 e => ?_) (hgo.trans go'') rfl rfl
    have h3 : b ≠ h.objs.size := by rintro rfl; rw [hLn] at e; cases e
    exact k7 b o h1 h3 (k6 b o h1 h3 (s5.extBut b o h3 (k'' b o h2 (hrel b o h1 h2 h3 (k₃ b o e)))))
  · obtain ⟨h'', g'', d'', t'', os''⟩ := s''
    dsimp only at hd'' ho'' k'' go'' gf'' hx
    subst hd'' ho''
    obtain ⟨outer, hfr, hof, hoe⟩ := S.fr
    have hXf : X ∉ fs := SG.new ap.hX
    have hLgf : Lg ∉ fs := SG.new ap.hL
    have hdf : dx ∉ fs := SG.new ap.hd
    have hLf : h.objs.size ∉ fs := S.ok.new hLn
    have hLL : h.objs.size ≠ Lg := hLL
    obtain ⟨base, hbase⟩ : ∃ b, b = hideAll h₁' (X :: h.objs.size :: fs) := ⟨_, rfl⟩
    have bget : ∀ {b o}, h₁'.get? b = some o → b ≠ X → b ≠ h.objs.size → b ∉ fs → base.get? b = some o := fun e h1 h2 h3 => by
      rw [hbase]; exact hideAll_get _ e (by simp [h1, h2, h3])
    have bnone : ∀ {b}, b = X ∨ b = h.objs.size ∨ b ∈ fs → base.get? b = none := fun q => by
      rw [hbase]; exact hideAll_none _ (by rcases q with rfl | rfl | q <;> simp [*])
    have bof : ∀ b o, base.get? b = some o → h₁'.get? b = some o := fun b o e => by rw [hbase] at e; exact of_hideAll _ e
    have toH1 : ∀ b o, b ≠ X → b ≠ Lg → h.get? b = some o → h₁'.get? b = some o := fun b o h1 h2 e => by
      have h3 : b ≠ h.objs.size := by rintro rfl; rw [hLn] at e; cases e
      exact k'' b o h2 (hrel b o h1 h2 h3 (k₃ b o e))
    have hns₁ : h₁'.Ns h.objs.size m' := F'.ns.at' fun o e => k'' _ o hLL e
    have SGf : ∀ b ∈ fs, b ≠ X ∧ b ≠ Lg ∧ b ≠ h.objs.size := fun b hb => ⟨fun q => hXf (q ▸ hb), fun q => hLgf (q ▸ hb), fun q => hLf (q ▸ hb)⟩
    have toH2 : ∀ b o, b ≠ X → b ≠ Lg → h.get? b = some o → h''.get? b = some o := fun b o h1 h2 e => hx.keeps b o (toH1 b o h1 h2 e)
    refine note_new (base := base) (outer := outer) (L := h.objs.size) (Around.frames_deeper hfr) ?_ rfl hx bof (fun ha fa ua => ?_)
    · refine funFrames_mk (fun env he => ?_) (fun b hb => ?_)
      · rcases List.mem_cons.mp he with rfl | he
        · exact ⟨by show ScopeKind.function ≠ ScopeKind.module; decide, _, rfl⟩
        · exact hoe env he
      · have hb' : b = h.objs.size ∨ b ∈ fs := by
          rw [List.filterMap_cons] at hb
          rcases List.mem_cons.mp hb with rfl | hb
          · exact .inl rfl
          · exact .inr (hof ▸ hb)
        refine ⟨bnone (.inr hb'), ?_⟩
        rcases hb' with rfl | hb'
        · obtain ⟨o, es, ep, ho, hd, _⟩ := hns₁
          exact ⟨o, hx.keeps _ _ ho, fun vs q => by rw [hd] at q; cases q⟩
        · obtain ⟨o, ho, es, ep, hd⟩ := S.ok b hb'
          have := SGf b hb'
          exact ⟨o, toH2 b o this.1 this.2.1 ho, fun vs q => by rw [hd] at q; cases q⟩
    refine fly_land fa (fun hb fb ub => ?_)
    have uab := ua.trans ub
    have kBb : Ext hB hb := fun b o e => by
      have eG := ap.BG b o e
      have hbX : b ≠ X := by rintro rfl; rw [ap.hX] at eG; cases eG
      have hbL : b ≠ Lg := by rintro rfl; rw [ap.hL] at eG; cases eG
      have hbf : b ∉ fs := fun q => by rw [S.new b q] at e; cases e
      have hbl : b ≠ h.objs.size := by rintro rfl; rw [hLG0] at eG; cases eG
      exact fb.1 b o (bget (toH1 b o hbX hbL (kB b o e)) hbX hbl hbf)
    have Wb := W₀.keeps kBb
    refine wpAny_handleBy_builtin (X := "StopIteration") (T := "BaseException") (b := true) be_sub be_nt si_sub ?_
    refine n_blt Wb (by k_is) (v := .type "BaseException") (by rfl) ?_
    have fb' := fb
    obtain ⟨_, _, _, a0, oe, vs, T, oT, ts, heb, hclb, hdb, h1b, _⟩ := fb'
    refine ⟨rfl, ⟨_, heb, hclb.1⟩, ?_⟩
    rw [if_pos rfl]
    refine fly_land fb (fun hc fc uc => ?_)
    have kBc : Ext hB hc := fun b o e => by
      have eG := ap.BG b o e
      have hbX : b ≠ X := by rintro rfl; rw [ap.hX] at eG; cases eG
      have hbL : b ≠ Lg := by rintro rfl; rw [ap.hL] at eG; cases eG
      have hbf : b ∉ fs := fun q => by rw [S.new b q] at e; cases e
      have hbl : b ≠ h.objs.size := by rintro rfl; rw [hLG0] at eG; cases eG
      exact fc.1 b o (bget (toH1 b o hbX hbL (kB b o e)) hbX hbl hbf)
    have Wc := W₀.keeps kBc
    have uac := uab.trans uc
    have nsc : hc.Ns h.objs.size m' := uac.ns (hns₁.at' fun o e => hx.keeps _ o e)
    have I₁' := I'.keeps (fun o e => k'' _ o ap.XL e) (fun o e => k'' _ o ap.dL e)
    obtain ⟨slc, hXc⟩ := uac X _ (hx.keeps _ _ I₁'.obj) (fun _ q => by cases q)
    have Ic : InstIs hc X dx 68 slc := ⟨hXc, fc.1 _ _ (bget I₁'.dict I'.ne (Ne.symm hLd) hdf)⟩
    have Fc : FS hc h.objs.size m' [] (fun _ => none) := ⟨nsc, (fun _ _ e => by cases e), List.Pairwise.nil⟩
    repeat (walk_at "e")
    refine e_none ?_
    repeat (walk_at "e")
    refine e_set Wc.X nsc Ic (Ne.symm hLd) (by k_is) (by k_is) (by k_is) (by k_is) (by k_is) (by decide) (fun hd hnd Id kd => ?_)
    have fd := fc.move (bnone (.inl rfl)) (bnone (.inr (.inl rfl))) hXc rfl ⟨_, Id.obj, rfl⟩ nsc hnd kd
    repeat (walk_at "e")
    refine raise_bare (L := h.objs.size) rfl rfl fd (fun he fe ue => ?_)
    unfold notedBy
    refine note_again rfl fe ?_
    refine fly_back (L := h.objs.size) rfl fe (fun hf ff uf => ?_)
    refine fly_leaves (L := h.objs.size) (outer := outer) rfl ff (fun hz fz uz => ?_)
    refine hE e base outer _ hlen (fun b o h1 h2 h3 e' => ?_) (fun b hb o ho => ?_) fz (hgo.trans go'') gf'' rfl rfl
    · exact fz.1 b o (bget (toH1 b o h1 h2 e') h1 (by rintro rfl; rw [hLn] at e'; cases e') h3)
    · obtain ⟨o', ho', es, ep, hd'⟩ := S.ok b hb
      rw [ho] at ho'; cases ho'
      have sg := SGf b hb
      obtain ⟨sl1, e1⟩ := uac b o (toH2 b o sg.1 sg.2.1 ho) (fun vs q => by rw [hd'] at q; cases q)
      have e2 := kd b _ sg.1 sg.2.2 e1
      obtain ⟨sl3, e3⟩ := ((ue.trans uf).trans uz) b _ e2 (fun vs q => by rw [show ({ o with slots := sl1 } : Obj).data = o.data from rfl, hd'] at q; cases q)
      exact ⟨⟨sl3, e3⟩, fun hnd => absurd hd' (hnd _ _)⟩
structure Rl (wr : List Addr) (Gr : Array GenState → Array GenState → Prop) (s s' : Shared) : Prop where
  heap : ∀ b o, b ∉ wr → s.heap.get? b = some o → s'.heap.get? b = some o
  gens : Gr s.gens s'.gens
  drawn : s'.drawn = s.drawn
  os : s'.os = s.os
structure RlE (wr fs : List Addr) (Gr : Array GenState → Array GenState → Prop) (s s' : Shared) : Prop where
  heap : ∀ b o, b ∉ wr → b ∉ fs → s.heap.get? b = some o → s'.heap.get? b = some o
  up : ∀ b ∈ fs, UpAt s.heap s'.heap b
  gens : Gr s.gens s'.gens
  drawn : s'.drawn = s.drawn
  os : s'.os = s.os
/-- an iterator of the program's own, told turn by turn -/
structure Own (prog : Program) (w : World) (A : Around) (K : Frag) (X : Addr) (C : Addr) (wr fs : List Addr) (Gr GrE : Array GenState → Array GenState → Prop) (n : Nat) (P : Nat → Value → Prop) (St : Nat → Shared → Prop) : Prop where
  grefl : ∀ a, Gr a a
  gtrans : ∀ a b c, Gr a b → Gr b c → Gr a c
  gend : ∀ a b c, Gr a b → GrE b c → GrE a c
  typ : ∀ i s, St i s → Looks (model prog w) s.heap (typeOf (.ref X)) (.ref C)
  len : ∀ i s, St i s → Looks (model prog w) s.heap (specialOf (.ref X) "__len__") none
  hint : ∀ i s, St i s → Looks (model prog w) s.heap (specialOf (.ref X) "__length_hint__") none
  iter : ∀ s (Q : Value → Shared → Prop) (E : Value → Shared → Prop), St 0 s → (∀ s', St 0 s' → Rl wr Gr s s' → Q (.ref X) s') → wpAny (model prog w) A (pyIter (.ref X)) Q E s
  next : ∀ i s (Q : Option Value → Shared → Prop) (E : Value → Shared → Prop), i < n → St i s → (∀ v s', P i v → St (i + 1) s' → Rl wr Gr s s' → Q (some v) s') → wpAny (model prog w) A (pyNext (.ref X)) Q E s
  done : ∀ s (Q : Option Value → Shared → Prop) (E : Value → Shared → Prop), St n s → (∀ s', RlE wr fs GrE s s' → Q none s') → wpAny (model prog w) A (pyNext (.ref X)) Q E s
section
variable {prog : Program} {w : World} {A : Around} {K : Frag} {X C : Addr} {wr fs : List Addr} {Gr GrE : Array GenState → Array GenState → Prop} {n : Nat} {P : Nat → Value → Prop} {St : Nat → Shared → Prop} {R : Result → Shared → Prop} {E : Value → Shared → Prop}
theorem own_loop (W : Own prog w A.in1 K X C wr fs Gr GrE n P St) (hn : n ≤ 1000) (S : Addr) (hSw : S ∉ wr) (hSf : S ∉ fs) (hwf : ∀ b ∈ wr, b ∉ fs) (res : Value)
    (hfr : ∀ i s h', St i s → (∀ b o, b ≠ S → s.heap.get? b = some o → h'.get? b = some o) → St i { s with heap := h' }) :
    ∀ (k i : Nat) (s : Shared) (acc : Array Value) (c : Nat), n - i = k → i ≤ n → St i s → s.heap.get? S = some { cls := .type "list", dict := none, data := .seq acc c, slots := #[] } → ItemsOf P acc i →
    (∀ s' acc' c', RlE (S :: wr) fs GrE s s' → s'.heap.get? S = some { cls := .type "list", dict := none, data := .seq acc' c', slots := #[] } → ItemsOf P acc' n → R (.ok (.ret res)) s') →
    codeAny (model prog w) A (.builtin "list.extend.loop" ⟨[.ref S, .ref X, res], []⟩) R s := by
  intro k
  induction k with
  | zero =>
    intro i s acc c hk hi hst hS hacc hR
    have hin : i = n := by omega
    subst hin
    refine codeAny_builtin F.entry_extend_loop ?_
    rw [Around.under_plainId F.plain_extend_loop _]
    show wpAny _ A.in1 (pyNext (.ref X) >>= _) _ _ s
    refine wpAny_bind (W.done s _ _ hst fun s' hm => ?_)
    refine wpAny_pure (hR s' acc c ⟨fun b o hb hf e => hm.heap b o (fun q => hb (.tail _ q)) hf e, hm.up, hm.gens, hm.drawn, hm.os⟩ (hm.heap S _ hSw hSf hS) hacc)
  | succ k ih =>
    intro i s acc c hk hi hst hS hacc hR
    have hlt : i < n := by omega
    refine codeAny_builtin F.entry_extend_loop ?_
    rw [Around.under_plainId F.plain_extend_loop _]
    show wpAny _ A.in1 (pyNext (.ref X) >>= _) _ _ s
    refine wpAny_bind (W.next i s _ _ hlt hst fun v s' hP hst' hm => ?_)
    have hS' := hm.heap S _ hSw hS
    show wpAny _ A.in1 (updateSeq S (·.push v) >>= _) _ _ _
    refine wpAny_bind ?_
    have oth : ∀ b o, b ≠ S → s'.heap.get? b = some o → (s'.heap.update S (Obj.mapSeq (·.push v))).get? b = some o := fun b o hb e => (Heap.get?_update_other _ _ (Ne.symm hb)).trans e
    refine wpAny_updateSeq hS' rfl (wpAny_pure ⟨plainId_quiet F.plain_extend_loop _, ih (i + 1) { s' with heap := s'.heap.update S (Obj.mapSeq (·.push v)) } (acc.push v) _ (by omega) hlt (hfr _ s' _ hst' oth) (Heap.get?_update_self _ hS' rfl) (hacc.push hP) fun s'' acc' c' hm'' hS'' hacc' => ?_⟩)
      (by rw [hacc.1]; simp [sizeLine]; omega) (by show (acc.push v).size ≤ sizeLine + 1; rw [Array.size_push, hacc.1]; simp [sizeLine]; omega)
    refine hR s'' acc' c' ⟨fun b o hb hf e => ?_, fun b hb o e => ?_, W.gend _ _ _ hm.gens hm''.gens, hm''.drawn.trans hm.drawn, hm''.os.trans hm.os⟩ hS'' hacc'
    · have h1 : b ≠ S := fun q => hb (q ▸ .head _)
      exact hm''.heap b o hb hf (oth b o h1 (hm.heap b o (fun q => hb (.tail _ q)) e))
    · have h1 : b ≠ S := fun q => hSf (q ▸ hb)
      by_cases hbw : b ∈ wr
      · exact absurd hb (hwf b hbw)
      · exact hm''.up b hb o (oth b o h1 (hm.heap b o hbw e))
theorem own_extend (W : Own prog w A.in1 K X C wr fs Gr GrE n P St) (hn : n ≤ 1000) (S : Addr) (hSX : S ≠ X) (hSw : S ∉ wr) (hSf : S ∉ fs) (hwf : ∀ b ∈ wr, b ∉ fs) (res : Value) (c₀ : Nat) {s : Shared} (hst : St 0 s)
    (hfr : ∀ i s h', St i s → (∀ b o, b ≠ S → s.heap.get? b = some o → h'.get? b = some o) → St i { s with heap := h' })
    (hS : s.heap.get? S = some { cls := .type "list", data := .seq #[] c₀ })
    (hR : ∀ s' acc' c', RlE (S :: wr) fs GrE s s' → s'.heap.get? S = some { cls := .type "list", dict := none, data := .seq acc' c', slots := #[] } → ItemsOf P acc' n → R (.ok (.ret res)) s') :
    wpAny (model prog w) A.in1 (Builtin.List.listExtendWith (.ref S) (.ref X) res)
      (fun fin s' => match fin with | .done f => R (.ok f) s' | .again c' => c'.quiet = true ∧ codeAny (model prog w) A c' R s') (fun e s' => R (.error e) s') s := by
  unfold Builtin.List.listExtendWith
  refine wpAny_bind ((W.typ 0 _ hst).here ?_)
  have h1 : Builtin.List.listSameRef (.ref S) (.ref X) = false := by simp [Builtin.List.listSameRef, hSX]
  have h2 : (Value.ref C == Value.type "list") = false := rfl
  have h3 : (Value.ref C == Value.type "tuple") = false := rfl
  simp only [h1, h2, h3, Bool.or_false, Bool.false_eq_true, if_false]
  refine wpAny_bind (W.iter _ _ _ hst fun s₁ hst₁ r₁ => ?_)
  refine wpAny_bind (wpAny_holding ?_)
  have hS₁ := r₁.heap S _ hSw hS
  unfold Builtin.List.listLengthHint
  refine wpAny_bind ((W.len 0 _ hst₁).here ?_)
  show wpAny _ A.in1 (specialOf (Value.ref X) (Str.ofString "__length_hint__") >>= _) _ _ _
  refine wpAny_bind ((W.hint 0 _ hst₁).here ?_)
  refine wpAny_pure ?_
  show wpAny _ A.in1 (rule "list.extend.makes-room" >>= fun _ => Builtin.List.listTouch (.ref S) >>= fun _ =>
    again (.builtin "list.extend.loop" ⟨[.ref S, .ref X, res], []⟩)) _ _ _
  refine wpAny_bind (wpAny_rule ?_)
  refine wpAny_bind ?_
  show wpAny _ A.in1 (updateSeq S (·.push .none) >>= fun _ => updateSeq S (·.pop)) _ _ _
  refine wpAny_bind (wpAny_updateSeq hS₁ rfl ?_)
  have hS₂ := Heap.get?_update_self (Obj.mapSeq (·.push Value.none)) hS₁ rfl
  refine wpAny_updateSeq (hz := by seq_fits) hS₂ rfl ?_
  have hS₃ := Heap.get?_update_self (Obj.mapSeq (·.pop)) hS₂ rfl
  have oth : ∀ b o, b ≠ S → s₁.heap.get? b = some o → ((s₁.heap.update S (Obj.mapSeq (·.push Value.none))).update S (Obj.mapSeq (·.pop))).get? b = some o :=
    fun b o hb e => (Heap.get?_update_other _ _ (Ne.symm hb)).trans ((Heap.get?_update_other _ _ (Ne.symm hb)).trans e)
  refine wpAny_pure ⟨plainId_quiet F.plain_extend_loop _, own_loop W hn S hSw hSf hwf res hfr n 0 _ _ _ rfl (Nat.zero_le _) (hfr 0 s₁ _ hst₁ oth) hS₃ (ItemsOf.nil P) fun s' acc' c' hm hS' hacc => ?_⟩
  refine hR s' acc' c' ⟨fun b o hb hf e => hm.heap b o hb hf (oth b o (fun q => hb (q ▸ .head _)) (r₁.heap b o (fun q => hb (.tail _ q)) e)), fun b hb o e => hm.up b hb o (oth b o (fun q => hSf (q ▸ hb)) (r₁.heap b o (fun q => hwf b q hb) e)),
    W.gend _ _ _ r₁.gens hm.gens, hm.drawn.trans r₁.drawn, hm.os.trans r₁.os⟩ hS' hacc
theorem list_own {s : Shared} {Q : Value → Shared → Prop} (W : Own prog w A.in1.in1 K X C wr fs Gr GrE n P St) (hn : n ≤ 1000) (hX : ∃ o, s.heap.get? X = some o) (hw : ∀ b ∈ wr, ∃ o, s.heap.get? b = some o) (hf : FrOk fs s.heap) (hwf : ∀ b ∈ wr, b ∉ fs)
    (hst : St 0 { s with heap := s.heap.push { cls := .type "list", data := .seq #[] } })
    (hfr : ∀ i s₁ h', St i s₁ → (∀ b o, b ≠ s.heap.objs.size → s₁.heap.get? b = some o → h'.get? b = some o) → St i { s₁ with heap := h' })
    (hQ : ∀ s' acc c, RlE (s.heap.objs.size :: wr) fs GrE s s' → s'.heap.get? s.heap.objs.size = some { cls := .type "list", data := .seq acc c } → ItemsOf P acc n → Q (.ref s.heap.objs.size) s') :
    wpAny (model prog w) A (call (.type "list") [.ref X]) Q E s := by
  have hnew : s.heap.get? s.heap.objs.size = none := none_ge (Nat.le_refl _)
  have hSX : s.heap.objs.size ≠ X := by rintro e; obtain ⟨o, ho⟩ := hX; rw [← e, hnew] at ho; cases ho
  have hSw : s.heap.objs.size ∉ wr := fun q => by obtain ⟨o, ho⟩ := hw _ q; rw [hnew] at ho; cases ho
  have hSf : s.heap.objs.size ∉ fs := hf.new hnew
  refine callType_codes (Q₁ := fun obj s₁ => obj = .ref s.heap.objs.size ∧ s₁ = { s with heap := s.heap.push { cls := .type "list", data := .seq #[] } }) F.called_list (F.typeCall_list_1 _) F.entry_list_init
    (code_list_new _ ⟨rfl, rfl⟩) fun obj s₁ h₁ => ?_
  obtain ⟨rfl, rfl⟩ := h₁
  have hS : (s.heap.push { cls := .type "list", data := .seq #[] }).get? s.heap.objs.size = some { cls := .type "list", data := .seq #[] } := Heap.get?_push_size _ rfl
  refine ⟨⟨_, hS, rfl⟩, F.args_list_init_2 _ _, ?_⟩
  show wpAny _ A.in1.in1 (do let old ← Builtin.List.listItems (.ref s.heap.objs.size); Builtin.List.listUpdate (.ref s.heap.objs.size) (fun _ => #[]); letGo old.toList.reverse; Builtin.List.listExtendWith (.ref s.heap.objs.size) (.ref X) .none) _ _ _
  refine wpAny_bind ?_
  unfold Builtin.List.listItems
  refine wpAny_bind (wpAny_seqItems hS rfl (wpAny_pure ?_))
  show wpAny _ A.in1.in1 (updateSeq s.heap.objs.size (fun _ => #[]) >>= fun _ => letGo (#[] : Array Value).toList.reverse >>= fun _ => Builtin.List.listExtendWith (.ref s.heap.objs.size) (.ref X) .none) _ _ _
  refine wpAny_bind (wpAny_updateSeq hS rfl ?_)
  have hS₂ := Heap.get?_update_self (Obj.mapSeq (fun _ => (#[] : Array Value))) hS rfl
  have oth : ∀ b o, b ≠ s.heap.objs.size → (s.heap.push { cls := .type "list", data := .seq #[] }).get? b = some o → ((s.heap.push { cls := .type "list", data := .seq #[] }).update s.heap.objs.size (Obj.mapSeq (fun _ => (#[] : Array Value)))).get? b = some o :=
    fun b o hb e => (Heap.get?_update_other _ _ (Ne.symm hb)).trans e
  have hne : ∀ {b o}, s.heap.get? b = some o → b ≠ s.heap.objs.size := by rintro b o e rfl; rw [hnew] at e; cases e
  refine wpAny_bind (wpAny_letGo ?_)
  refine own_extend W hn _ hSX hSw hSf hwf .none _ (hfr 0 _ _ hst oth) hfr hS₂ fun s' acc' c' hm hS' hacc => ?_
  exact ⟨rfl, hQ s' acc' c' ⟨fun b o hb hf' e => hm.heap b o hb hf' (oth b o (hne e) (Heap.get?_push_of_some _ e)), fun b hb o e => hm.up b hb o (oth b o (hne e) (Heap.get?_push_of_some _ e)), hm.gens, hm.drawn, hm.os⟩ hS' hacc⟩
end
set_option maxRecDepth 100000 in
set_option maxHeartbeats 1000000 in
theorem parents_spec {w mg mb A E} {h : Heap} {g : Array GenState} {d : Drawn} {t : Nat} {os : OsState} {Q : Value → Shared → Prop} {p : Str} {xs : List Str} {t1 : Tok}
    (W : Wd w mg mb h) (hd : A.depth < 600) (hh : A.handled = none) (hp : p.length ≤ 900) (ha : Anc (PySem.Txt.rstripChars p (Str.ofString "/")) xs)
    (hQ : ∀ hG h' t' X dx G Lg gs, Ext h h' → Ext h hG → hG.get? X = none → hG.get? Lg = none → hG.get? dx = none → X ≠ Lg → dx ≠ Lg → X ≠ G → Isl w hG X dx G g.size Lg xs 0 1 0 ⟨h', g.push gs, d, t', os⟩ → Q (.ref X) ⟨h', g.push gs, d, t', os⟩) :
    wpAny (model PG w) A (call (.ref 119) [.str p t1]) Q E ⟨h, g, d, t, os⟩ := by
  refine enter W (by k_is) (by k_is) (by omega) (by rfl) (locs rfl) (fun h₁ t₁ F => ?_) rfl rfl rfl (by decide)
  have F₁ := FS.of_fr F
  have W₁ := W.keeps F.keep
  repeat (walk_at "e")
  refine c_fn (a := 68) W₁ (by k_is) (by k_is) ?_
  refine spliced_more ?_ (by rfl)
  refine c_fn W₁ (by k_is) (by k_is) ?_
  repeat (walk_at "e")
  refine ⟨W₁.X, ?_⟩
  refine anc_spec W₁ ?_ hp ha (fun h₂ t₂ G L gs k₂ hL hG GA => ?_)
  · show A.depth + 1 < 850; omega
  repeat (walk_at "e")
  refine e_none ?_
  repeat (walk_at "e")
  have W₂ := W₁.keeps k₂
  refine ⟨W₂.X, ?_⟩
  refine wpAny_call (make_core (makes_of W₂.X (by k_is)) (looks_findIn W₂.X (r := some (.ref 50)) (by k_is)) (fun self => bind_fn W₂.X self (by k_is)) (.inl rfl) ?_)
  have k₃ : Ext h₂ ((h₂.push emptyDict).push (instObj 68 h₂.objs.size)) := fun b o e => Heap.get?_push_of_some _ (Heap.get?_push_of_some _ e)
  have hdx : h₂.get? h₂.objs.size = none := none_ge (Nat.le_refl _)
  have hX : h₂.get? (h₂.objs.size + 1) = none := none_ge (Nat.le_succ _)
  have none₁ : ∀ {b}, h₂.get? b = none → h₁.get? b = none := fun {b} q => by
    rcases get_none_or h₁ b with z | ⟨o, z⟩
    · exact z
    · rw [k₂ _ _ z] at q; cases q
  have IX : InstIs ((h₂.push emptyDict).push (instObj 68 h₂.objs.size)) (h₂.objs.size + 1) h₂.objs.size 68 #[] := by
    refine ⟨?_, ?_⟩
    · have := Heap.get?_push_size (h₂.push emptyDict) (o := instObj 68 h₂.objs.size) rfl
      rw [Heap.size_push] at this; exact this
    · exact Heap.get?_push_of_some _ (Heap.get?_push_size h₂ rfl)
  refine islinit_spec (h₀ := h₁) W₁ (Ext.trans k₂ k₃) (none₁ hX) ?_ hh IX (GA.gen.keeps k₃) (fun h₄ t₄ a b c e k₄ I₄ => ?_)
  · show A.depth + 1 + 1 < 700; omega
  have kk : Ext h₂ h₄ := fun b o e => k₄ b o (by rintro rfl; rw [hX] at e; cases e) (k₃ b o e)
  obtain ⟨oL, hoL⟩ := GA.live
  obtain ⟨oG, _, _, hoG, _⟩ := GA.gen
  have nX : ∀ {b o}, h₂.get? b = some o → h₂.objs.size + 1 ≠ b := by rintro b o e rfl; rw [hX] at e; cases e
  refine ⟨rfl, ?_⟩
  refine hQ h₁ h₄ t₄ (h₂.objs.size + 1) h₂.objs.size G L gs (Ext.trans F.keep (Ext.trans k₂ kk)) F.keep (none₁ hX) hL (none₁ hdx) (nX hoL) (by rintro rfl; rw [show (⟨h₂, _, _, _, _⟩ : Shared).heap = h₂ from rfl, hdx] at hoL; cases hoL) (nX hoG) ⟨⟨a, b, c, e, I₄⟩, GA.keeps (fun o e => kk _ _ e) (fun o e => kk _ _ e) rfl, Ext.trans k₂ kk⟩
section
variable {M : Model} {A : Around} {E : Value → Shared → Prop} {s : Shared} {K : Frag} {x C f : Addr} {ox : Obj} {od : Option Obj}
theorem own_pyNext {Q : Option Value → Shared → Prop} (X : K.In s.heap) (I : InstAt s.heap x ox C od) (hs : findIn K (.ref C) "__next__" = some (some (.ref f))) (hf : typeIn K (.ref f) = some (.type "function"))
    (h : wpAny M A (call (.ref f) [.ref x]) (fun v s' => Q (some v) s') (fun e s' => wpAny M A (isInstance e (.type "StopIteration")) (fun b s₂ => if b = true then Q none s₂ else E e s₂) E s') s) : wpAny M A (pyNext (.ref x)) Q E s := by
  unfold pyNext
  refine wpAny_bind (wpAny_attempt (special_fn (name := "__next__") (args := []) X I hs hf (wpAny_mono h (fun v s' hq => wpAny_pure hq) fun e s' he => ?_)))
  refine wpAny_bind (wpAny_mono he (fun b s₂ hb => ?_) fun _ _ z => z)
  cases b with
  | true => exact wpAny_pure hb
  | false => exact wpAny_throw hb
theorem own_pyIter {Q : Value → Shared → Prop} (X : K.In s.heap) (I : InstAt s.heap x ox C od) (hs : findIn K (.ref C) "__iter__" = some (some (.ref f))) (hf : typeIn K (.ref f) = some (.type "function"))
    (h : wpAny M A (call (.ref f) [.ref x]) (fun it s' => wpAny M A (specialOf it "__next__") (fun r s₂ => r ≠ none ∧ Q it s₂) E s') E s) : wpAny M A (pyIter (.ref x)) Q E s := by
  have fin : wpAny M A (call (.ref f) [.ref x] >>= fun v => pure (some v)) (fun r s' => ∃ v, r = some v ∧ wpAny M A (specialOf v "__next__") (fun r s₂ => r ≠ none ∧ Q v s₂) E s') E s :=
    wpAny_bind (wpAny_mono h (fun v s' h' => wpAny_pure ⟨v, rfl, h'⟩) fun _ _ z => z)
  have one : ∀ refuse : Sem Value, wpAny M A (callSpecialIfBoundUnlessNone? (.ref x) "__iter__" refuse) (fun r s' => ∃ v, r = some v ∧ wpAny M A (specialOf v "__next__") (fun r s₂ => r ≠ none ∧ Q v s₂) E s') E s := by
    intro refuse
    simp only [callSpecialIfBoundUnlessNone?, bindSpecialIfBound?]
    refine wpAny_holding (wpAny_bind (wpAny_bind (wpAny_bind (I.type.here ((looks_findIn X hs).here ?_)))))
    refine wpAny_bind (wpAny_askSetting (wpAny_ite ?_))
    have fin2 : wpAny M A (if (Value.ref f == Value.none) = true then (refuse >>= fun v => pure (some v)) else (call (.ref f) [.ref x] >>= fun v => pure (some v))) (fun r s' => ∃ v, r = some v ∧ wpAny M A (specialOf v "__next__") (fun r s₂ => r ≠ none ∧ Q v s₂) E s') E s := by
      rw [if_neg (show ¬ ((Value.ref f == Value.none) = true) from Bool.false_ne_true)]
      exact fin
    split
    · exact wpAny_bind ((bind_fn X _ hf).here (wpAny_pure (by exact fin2)))
    · exact wpAny_tryCatch (wpAny_bind ((bind_fn X _ hf).here (wpAny_pure (by exact fin2))))
  unfold pyIter
  refine wpAny_bind (wpAny_bind (I.type.here ((looks_findIn X hs).here ?_)))
  show wpAny M A (callSpecialIfBoundUnlessNone? (.ref x) "__iter__" _ >>= _) Q E s
  refine wpAny_bind (wpAny_mono (one _) (fun r s' hr => ?_) fun _ _ z => z)
  obtain ⟨v, rfl, hv⟩ := hr
  refine wpAny_bind (wpAny_mono hv (fun r s₂ hr => ?_) fun _ _ z => z)
  cases r with
  | none => exact (hr.1 rfl).elim
  | some g => exact wpAny_pure hr.2
end
set_option maxRecDepth 100000 in
set_option maxHeartbeats 1000000 in
theorem self_spec {w mg mb A E} {h : Heap} {g : Array GenState} {d : Drawn} {t : Nat} {os : OsState} {Q : Value → Shared → Prop} {X : Addr}
    (W : Wd w mg mb h) (hd : A.depth < 800) (x : ∀ h' t', Ext h h' → Q (.ref X) ⟨h', g, d, t', os⟩) :
    wpAny (model PG w) A (call (.ref 57) [.ref X]) Q E ⟨h, g, d, t, os⟩ := by
  refine enter W (by k_is) (by k_is) (by omega) (by rfl) (locs rfl) (fun h₁ t₁ F => ?_) rfl rfl rfl (by decide)
  repeat (walk_at "e")
  exact x _ _ F.keep
theorem isl_at {i j : Nat} {c n : Int} {len : Nat} (hx : 1 ≤ len) (hc : (i = 0 ∧ c = 0 ∧ n = 1 ∧ j = 0) ∨ (1 ≤ i ∧ c = (i + 1 : Nat) ∧ n = (i + 1 : Nat) ∧ j = i + 1)) : max 1 j = i + 1 ∧ ((c = 0 ∧ n = 1 ∧ j = 0 ∧ 1 ≤ len) ∨ (c = j ∧ n = j ∧ 1 ≤ j)) := by
  rcases hc with ⟨rfl, rfl, rfl, rfl⟩ | ⟨h1, rfl, rfl, rfl⟩
  · exact ⟨rfl, .inl ⟨rfl, rfl, rfl, hx⟩⟩
  · exact ⟨Nat.max_eq_right (Nat.le_add_left 1 i), .inr ⟨rfl, rfl, Nat.le_add_left 1 i⟩⟩
/-- the islice as an iterator told turn by turn -/
theorem isl_own {w mg mb A} {hB hG : Heap} {fs : List Addr} {X dx G gi Lg : Nat} {xs : List Str} (W₀ : Wd w mg mb hB) (ap : Apart hB hG X dx G Lg) (SG : FrOk fs hG)
    (hdp : A.depth < 500) (hu : A.units < 4000) (hh : A.handled = none) (hx : 1 ≤ xs.length) :
    Own PG w A (hd.heap_39 w.params) X 68 [X, Lg] fs (GenOnly gi) (fun a b => GenOnly gi a b ∧ b[gi]? = some .finished) (xs.length - 1) (fun i v => ∃ t y, xs[i + 1]? = some y ∧ v = .str y t)
      (fun i s => (∃ c n j, Isl w hG X dx G gi Lg xs c n j s ∧ ((i = 0 ∧ c = 0 ∧ n = 1 ∧ j = 0) ∨ (1 ≤ i ∧ c = (i + 1 : Nat) ∧ n = (i + 1 : Nat) ∧ j = i + 1))) ∧ Stk A fs hB s.heap) := by
  have kIn : ∀ i s, ((∃ c n j, Isl w hG X dx G gi Lg xs c n j s ∧ ((i = 0 ∧ c = 0 ∧ n = 1 ∧ j = 0) ∨ (1 ≤ i ∧ c = (i + 1 : Nat) ∧ n = (i + 1 : Nat) ∧ j = i + 1))) ∧ Stk A fs hB s.heap) →
      ∃ sl, InstIs s.heap X dx 68 sl ∧ Wd w mg mb s.heap := by
    rintro i s ⟨⟨c, n, j, ⟨⟨a, b, e, f, I⟩, GA, kG⟩, _⟩, _⟩
    exact ⟨_, I, W₀.keeps (Ext.trans ap.BG kG)⟩
  refine ⟨fun a => ⟨rfl, fun _ _ => rfl⟩, fun a b c x y => x.trans y, fun a b c x y => ⟨x.trans y.1, y.2⟩, fun i s st => ?_, fun i s st => ?_, fun i s st => ?_, fun s Q E st hQ => ?_, fun i s Q E hi st hQ => ?_, fun s Q E st hQ => ?_⟩
  · obtain ⟨sl, I, W⟩ := kIn i s st
    exact I.at_.type
  · obtain ⟨sl, I, W⟩ := kIn i s st
    exact I.at_.type.andThen (looks_findIn W.X (by k_is))
  · obtain ⟨sl, I, W⟩ := kIn i s st
    exact I.at_.type.andThen (looks_findIn W.X (by k_is))
  · obtain ⟨sl, I, W⟩ := kIn 0 s st
    refine own_pyIter W.X I.at_ (by k_is) (by k_is) ?_
    obtain ⟨h, g, d, t, os⟩ := s
    refine self_spec W (by omega) (fun h' t' k => ?_)
    have I' := I.keeps (fun o e => k _ _ e) (fun o e => k _ _ e)
    have W' := W.keeps k
    refine wpAny_bind (I'.at_.type.here ((looks_findIn W'.X (r := some (.ref 64)) (by k_is)).here ?_))
    refine ⟨by simp, hQ _ ?_ ⟨fun b o _ e => k b o e, ⟨rfl, fun _ _ => rfl⟩, rfl, rfl⟩⟩
    obtain ⟨⟨c, n, j, ⟨⟨a, b, e, f, I⟩, GA, kG⟩, hc⟩, S⟩ := st
    exact ⟨⟨c, n, j, ⟨⟨a, b, e, f, I.keeps (fun o e => k _ _ e) (fun o e => k _ _ e)⟩, GA.keeps (fun o e => k _ _ e) (fun o e => k _ _ e) rfl, Ext.trans (show Ext hG h from kG) k⟩, hc⟩, S.keeps k.up⟩
  · obtain ⟨sl, I, W⟩ := kIn i s st
    refine own_pyNext W.X I.at_ (by k_is) (by k_is) ?_
    obtain ⟨h, g, d, t, os⟩ := s
    obtain ⟨⟨c, n, j, x, hc⟩, S⟩ := st
    have hj := (isl_at hx hc).1
    refine islnext_spec W₀ ap S SG hdp hu hh x (isl_at hx hc).2 (fun y t' s' hy x' hk hg h1 h2 => ?_) (fun e base l s' hlen _ _ _ _ _ _ _ => ?_)
    · rw [hj] at hy x'
      refine hQ _ s' ⟨t', y, hy, rfl⟩ ⟨⟨_, _, _, x', .inr ⟨by omega, rfl, rfl, rfl⟩⟩, ?_⟩ ⟨fun b o hb e => hk b o (fun q => hb (q ▸ .head _)) (fun q => hb (q ▸ .tail _ (.head _))) e, hg, h1, h2⟩
      refine ⟨S.fr, fun b hb => ?_, S.new⟩
      obtain ⟨o, ho, r⟩ := S.ok b hb
      exact ⟨o, hk b o (fun q => SG.new ap.hX (q ▸ hb)) (fun q => SG.new ap.hL (q ▸ hb)) ho, r⟩
    · omega
  · obtain ⟨sl, I, W⟩ := kIn _ s st
    refine own_pyNext W.X I.at_ (by k_is) (by k_is) ?_
    obtain ⟨h, g, d, t, os⟩ := s
    obtain ⟨⟨c, n, j, x, hc⟩, S⟩ := st
    have hj := (isl_at hx hc).1.trans (Nat.sub_add_cancel hx)
    refine islnext_spec W₀ ap S SG hdp hu hh x (isl_at hx hc).2 (fun y t' s' hy _ _ _ _ _ => ?_) (fun e base l s' hlen hk hup hfl hg hf h1 h2 => ?_)
    · rw [hj] at hy; simp at hy
    · obtain ⟨h', g', d', t', os'⟩ := s'
      refine fly_stop hfl ?_
      rw [if_pos rfl]
      exact hQ _ ⟨fun b o hb hf' e => hk b o (fun q => hb (q ▸ .head _)) (fun q => hb (q ▸ .tail _ (.head _))) hf' e, hup, ⟨hg, hf⟩, h1, h2⟩
theorem strs_all {P : Addr → Prop} {h : Heap} : ∀ (ys : List Str) (vs : List Value), vs.length = ys.length → (∀ (j : Nat) (v : Value), vs[j]? = some v → ∃ t y, ys[j]? = some y ∧ v = .str y t) → IsAll P h (ys.map .str) vs
  | [], vs, hl, _ => by
    have : vs = [] := List.length_eq_zero_iff.mp hl
    subst this; exact .nil
  | y :: ys, vs, hl, hv => by
    cases vs with
    | nil => simp at hl
    | cons v vs =>
      obtain ⟨t, y', e, rfl⟩ := hv 0 v rfl
      simp at e; subst e
      simp only [List.map_cons, IsAll]
      refine ⟨_, _, rfl, by simp only [Is]; exact ⟨_, rfl⟩, strs_all ys vs (by simpa using hl) fun j v hj => ?_⟩
      obtain ⟨t, y', e, r⟩ := hv (j + 1) v (by simpa using hj)
      exact ⟨t, y', by simpa using e, r⟩
theorem bare_push {g g' : Array GenState} {gs : GenState} (hg : GenOnly g.size (g.push gs) g') (hf : g'[g.size]? = some .finished) : GK g g' := by
  intro ha y hy
  obtain ⟨i, hi, rfl⟩ := Array.mem_iff_getElem.mp hy
  have e0 : g'[i]? = some g'[i] := Array.getElem?_eq_getElem hi
  by_cases e : i = g.size
  · subst e
    rw [hf] at e0
    rw [← Option.some.inj e0]; rfl
  · rw [hg.2 i e, Array.getElem?_push, if_neg e] at e0
    obtain ⟨hi', e1⟩ := Array.getElem?_eq_some_iff.mp e0
    exact e1 ▸ ha _ (Array.getElem_mem hi')
theorem IsGen_keeps {h h' : Heap} {G gi : Nat} (x : h.IsGen G gi) (k : ∀ o, h.get? G = some o → h'.get? G = some o) : h'.IsGen G gi := let ⟨o, nm, qn, ho, r⟩ := x; ⟨o, nm, qn, k o ho, r⟩
theorem ways_spec {w mg mb A E} {hB h : Heap} {g : Array GenState} {d : Drawn} {t : Nat} {os : OsState} {Q : Value → Shared → Prop} {fs : List Addr} {p : Str} {xs : List Str} {t1 : Tok}
    (W₀ : Wd w mg mb hB) (kB : Ext hB h) (S : Stk A fs hB h) (hdp : A.depth < 480) (hu : A.units < 3900) (hh : A.handled = none) (hp : p.length ≤ 900) (ha : Anc (PySem.Txt.rstripChars p (Str.ofString "/")) xs) (hx : 1 ≤ xs.length) (hxl : xs.length ≤ 900)
    (hQ : ∀ h' g' t' v, Stays fs h h' → GK g g' → Is (New h) h' (strsD xs.tail) v → Q v ⟨h', g', d, t', os⟩) :
    wpAny (model PG w) A (call (.ref 119) [.str p t1]) (fun v s => wpAny (model PG w) A (call (.type "list") [v]) Q E s) E ⟨h, g, d, t, os⟩ := by
  refine parents_spec (W₀.keeps kB) (by omega) hh hp ha (fun hG h' t' X dx G Lg gs k kG hX hL hdx h1 h2 h3 x => ?_)
  have ap : Apart hB hG X dx G Lg := ⟨Ext.trans kB kG, hX, hL, hdx, h1, h2, h3⟩
  have SG : FrOk fs hG := S.ok.up kG.up
  have S' := S.keeps k.up
  have x' := x
  obtain ⟨⟨a, b, e, f, I⟩, GA, kGh⟩ := x'
  have kGh : Ext hG h' := kGh
  obtain ⟨oL, hoL⟩ := GA.live
  have hoL : h'.get? Lg = some oL := hoL
  obtain ⟨oG, nm, qn, hoG, rG⟩ := GA.gen
  have hoG : h'.get? G = some oG := hoG
  have hnew : h'.get? h'.objs.size = none := none_ge (Nat.le_refl _)
  have nS : ∀ {b o}, h'.get? b = some o → b ≠ h'.objs.size := by rintro b o e rfl; rw [hnew] at e; cases e
  have W := isl_own (A := A.in1.in1) (fs := fs) (gi := g.size) (xs := xs) W₀ ap SG (by show A.depth < 500; omega) (by show A.units + 1 + 1 < 4000; omega) hh hx
  refine list_own (s := ⟨h', g.push gs, d, t', os⟩) W (by omega) ⟨_, I.obj⟩ ?_ S'.ok ?_ ?_ ?_ ?_
  · intro b hb
    rcases List.mem_cons.mp hb with rfl | hb
    · exact ⟨_, I.obj⟩
    · rw [List.mem_singleton.mp hb]; exact ⟨_, hoL⟩
  · intro b hb
    rcases List.mem_cons.mp hb with rfl | hb
    · exact SG.new hX
    · rw [List.mem_singleton.mp hb]; exact SG.new hL
  · have kp : Ext h' (h'.push { cls := .type "list", data := .seq #[] }) := ext_push _
    exact ⟨⟨0, 1, 0, ⟨⟨a, b, e, f, I.keeps (fun o e => kp _ _ e) (fun o e => kp _ _ e)⟩, GA.keeps (fun o e => kp _ _ e) (fun o e => kp _ _ e) rfl, Ext.trans kGh kp⟩, .inl ⟨rfl, rfl, rfl, rfl⟩⟩, ⟨S.fr, S'.ok.up kp.up, S.new⟩⟩
  · rintro i s₁ h₂ ⟨⟨c, n, j, ⟨⟨a', b', e', f', I'⟩, GA', kG'⟩, hc⟩, S₁⟩ hk
    refine ⟨⟨c, n, j, ⟨⟨a', b', e', f', I'.keeps (fun o e => hk _ o (nS I.obj) e) (fun o e => hk _ o (nS I.dict) e)⟩, GA'.keeps (fun o e => hk _ o (nS hoG) e) (fun o e => hk _ o (nS hoL) e) rfl, fun b o e => hk b o (nS (kGh b o e)) (kG' b o e)⟩, hc⟩, ⟨S.fr, fun b hb => ?_, S.new⟩⟩
    obtain ⟨o, ho, r⟩ := S₁.ok b hb
    obtain ⟨o', ho', _⟩ := S'.ok b hb
    exact ⟨o, hk b o (nS ho') ho, r⟩
  · intro s' acc c hm hS hacc
    obtain ⟨h₃, g₃, d₃, t₃, os₃⟩ := s'
    obtain ⟨m1, m2, ⟨m3, m3'⟩, m4, m5⟩ := hm
    dsimp only at m1 m2 m3 m3' m4 m5 hS
    subst m4 m5
    have hS0 : New h h'.objs.size := new_top k
    have nX : ∀ {b o}, h.get? b = some o → b ≠ X ∧ b ≠ Lg := fun {b o} e => ⟨(by rintro rfl; rw [kG _ _ e] at hX; cases hX), (by rintro rfl; rw [kG _ _ e] at hL; cases hL)⟩
    have ex : ∀ b o, b ∉ fs → h.get? b = some o → h₃.get? b = some o := fun b o hb e => by
      have := nX e
      exact m1 b o (by simp [this.1, this.2]; exact nS (k _ _ e)) hb (k _ _ e)
    refine hQ h₃ g₃ t₃ _ ⟨ex, fun b o e => ?_⟩ (bare_push m3 m3') ?_
    · by_cases hb : b ∈ fs
      · exact m2 b hb o (k _ _ e)
      · exact upr (ex b o hb e)
    · simp only [strsD, Is]
      refine ⟨_, acc.toList, c, rfl, hS0, by simpa using hS, strs_all _ _ ?_ fun j v hj => ?_⟩
      · have := hacc.1
        simp [this]
      · obtain ⟨t, y, e1, e2⟩ := hacc.2 j v (by simpa using hj)
        exact ⟨t, y, by rw [List.getElem?_tail]; exact e1, e2⟩
section
variable {prog : Program} {w : World} {A : Around} {E : Value → Shared → Prop} {K : Type} [DecidableEq K] {knd : KeyKind prog w K} {mk : K → Tok → Value} {g : Array GenState} {d : Drawn} {os : OsState}
/-- what has been taken in -/
noncomputable def took (ys : List K) (i : Nat) : K → Bool := fun k => (ys.take i).any fun y => decide (y = k)
theorem took_succ {ys : List K} {i : Nat} {y : K} (h : ys[i]? = some y) : (fun k => took ys i k || decide (k = y)) = took ys (i + 1) := by
  funext k
  unfold took
  have e : ys.take (i + 1) = ys.take i ++ [y] := by
    rw [List.take_add_one, h]; rfl
  rw [e, List.any_append]
  congr 1
  simp only [List.any_cons, List.any_nil, Bool.or_false]
  by_cases q : k = y
  · subst q; rfl
  · rw [decide_eq_false q, decide_eq_false (Ne.symm q)]
theorem SetAt_cong {h : Heap} {a : Addr} {S S' : K → Bool} {n : Nat} (x : h.SetOf knd a S n) (e : S = S') : h.SetOf knd a S' n := e ▸ x
theorem SetAt_keeps {h h' : Heap} {a : Addr} {S : K → Bool} {n : Nat} (x : h.SetOf knd a S n) (k : ∀ o, h.get? a = some o → h'.get? a = some o) : h'.SetOf knd a S n :=
  let ⟨o, es, ep, t, ho, r⟩ := x; ⟨o, es, ep, t, k o ho, r⟩
theorem set_fill {R : Result → Shared → Prop} {ys : List K} {I : Addr} {fp wr : List Addr} {P : Nat → Value → Prop} {St : Nat → Heap → Prop} (W : Walks prog w A.in1 I fp wr ys.length P St) (S : Addr) (hSf : S ∉ fp)
    (hP : ∀ i v, P i v → ∃ k t, ys[i]? = some k ∧ v = mk k t) (his : ∀ k t, knd.is k (mk k t) = true) (hsc : ∀ k t, (mk k t).scannable = true) (hb : ys.length < 1000) :
    ∀ (k i : Nat) (h : Heap) (t : Nat) (n : Nat), ys.length - i = k → i ≤ ys.length → St i h → h.SetOf knd S (took ys i) n → n ≤ i →
      (∀ h' t' n, (∀ b o, b ∉ S :: wr → h.get? b = some o → h'.get? b = some o) → h'.SetOf knd S (took ys ys.length) n → R (.ok (.ret .none)) ⟨h', g, d, t', os⟩) →
      codeAny (model prog w) A (.builtin "set.update.loop" ⟨[.ref S, .ref I], []⟩) R ⟨h, g, d, t, os⟩ := by
  have hSw : S ∉ wr := fun q => hSf (W.sub _ q)
  intro k
  induction k with
  | zero =>
    intro i h t n hk hi hst hS hn hR
    have hin : i = ys.length := by omega
    subst hin
    refine codeAny_builtin PyProof.Rows.F.entry_set_update_loop ?_
    rw [Around.under_plainId PyProof.Rows.F.plain_set_update_loop _]
    show wpAny _ A.in1 (pyNext (.ref I) >>= _) _ _ _
    refine wpAny_bind (W.done _ _ _ hst fun h' t' hm => ?_)
    show wpAny _ A.in1 (ret Value.none) _ _ _
    exact wpAny_pure (hR h' t' n (fun b o hb e => hm b o (fun q => hb (.tail _ q)) e) (SetAt_keeps hS fun o e => hm S o hSw e))
  | succ k ih =>
    intro i h t n hk hi hst hS hn hR
    have hlt : i < ys.length := by omega
    refine codeAny_builtin PyProof.Rows.F.entry_set_update_loop ?_
    rw [Around.under_plainId PyProof.Rows.F.plain_set_update_loop _]
    show wpAny _ A.in1 (pyNext (.ref I) >>= _) _ _ _
    refine wpAny_bind (W.item i _ _ _ hlt hst fun v h₁ t₁ hPv hst₁ hk₁ => ?_)
    obtain ⟨y, ty, hy, rfl⟩ := hP i v hPv
    have hS₁ := SetAt_keeps hS fun o e => hk₁ S o hSw e
    show wpAny _ A.in1 (holding [mk y ty] (setAdd S (mk y ty)) >>= _) _ _ _
    refine wpAny_bind (wpAny_holding ?_)
    unfold setAdd
    refine wpAny_holding ?_
    refine wpAny_bind (knd.pyHash (k := y) (his y ty) ?_)
    refine wpAny_setAddHashed_of (s := ⟨h₁, g, d, t₁ + 1, os⟩) (his y ty) (hsc y ty) hS₁ (by unfold scanBound; omega) fun h₂ hsb hS₂ => ?_
    have hS₂' := SetAt_cong hS₂ (took_succ hy)
    refine wpAny_pure ⟨plainId_quiet PyProof.Rows.F.plain_set_update_loop _, ih (i + 1) h₂ (t₁ + 1) _ (by omega) hlt (W.frame _ _ _ hst₁ fun b hb o e => hsb.extBut b o (fun q => hSf (q ▸ hb)) e) hS₂' (by split <;> omega) fun h' t' n' hk' hS' => ?_⟩
    refine hR h' t' n' (fun b o hb e => hk' b o hb (hsb.extBut b o (fun q => hb (q ▸ .head _)) (hk₁ b o (fun q => hb (.tail _ q)) e))) hS'
set_option maxRecDepth 100000 in
set_option maxHeartbeats 3200000 in
theorem call_setL {l : Addr} {items : Array Value} {ys : List K} {h : Heap} {t : Nat} {Q : Value → Shared → Prop} (hh : A.handled = none) (hl : h.IsList l items) (hsz : items.size = ys.length)
    (hi : ∀ (i : Nat) (v : Value), items[i]? = some v → ∃ k t, ys[i]? = some k ∧ v = mk k t) (his : ∀ k t, knd.is k (mk k t) = true) (hsc : ∀ k t, (mk k t).scannable = true) (hb : ys.length < 1000)
    (q : ∀ h' t' n, Ext h h' → h'.SetOf knd h.objs.size (took ys ys.length) n → Q (.ref h.objs.size) ⟨h', g, d, t', os⟩) :
    wpAny (model prog w) A (call (.type "set") [.ref l]) Q E ⟨h, g, d, t, os⟩ := by
  obtain ⟨c, tl, hmro⟩ := F.called_set.mro
  have hmade := F.called_set.made
  have hsub := F.called_set.sub
  refine wpAny_call (codeAny_of_tree ?_)
  show wpAny _ _ (callAny (.type "set") _) _ _ _
  refine wpAny_pure ⟨Code.quiet_builtin _ (by decide +kernel), codeAny_builtin F.entry_type_call ?_⟩
  rw [Around.under_plain (weight_type_call_type "set" [.ref l] []) rfl]
  have h1 := F.called_set.notType
  have h2 := F.called_set.canCreate
  have hct := F.typeCall_set_1 (.ref l)
  repeat (any_goals (first | assumption | wp_step))
  refine codeAny_mono (code_set_new_1 (s := ⟨h, g, d, t, os⟩) (.ref l) (E := E) (Q₁ := fun obj s₁ => ∃ led : Bool, obj = .ref h.objs.size ∧ s₁ = ⟨h.push { cls := .type "set", dict := none, data := .set #[] 0 (.fresh 0 0 led) }, g, d, t, os⟩) fun led => ⟨led, rfl, rfl⟩) fun r s₁ hr => ?_
  cases r with
  | error e => exact hr
  | ok fl =>
    cases fl with
    | ret obj =>
      obtain ⟨led, rfl, rfl⟩ := hr
      have hS : (h.push { cls := .type "set", dict := none, data := .set #[] 0 (.fresh 0 0 led) }).get? h.objs.size = some { cls := .type "set", dict := none, data := .set #[] 0 (.fresh 0 0 led) } := Heap.get?_push_size _ rfl
      have hT : Shared.TypeIs ⟨h.push { cls := .type "set", dict := none, data := .set #[] 0 (.fresh 0 0 led) }, g, d, t, os⟩ (.ref h.objs.size) "set" := ⟨_, hS, rfl⟩
      have hli := F.called_set.init.lookup
      have hbi := F.called_set.init.bind (.ref h.objs.size)
      repeat (any_goals (first | assumption | wp_step))
      refine codeAny_mono (codeAny_call_builtin (R := wants (fun r s₂ => r = .none ∧ ∃ h' t' n, s₂ = ⟨h', g, d, t', os⟩ ∧ Ext h h' ∧ h'.SetOf knd h.objs.size (took ys ys.length) n) E) F.called_set.init.plain F.entry_set_init (check_set_init_1 hT ?_)) fun r₂ s₂ hr₂ => ?_
      · obtain ⟨ol, hol, hcl, nl, hdl⟩ := hl
        obtain ⟨ocls, odict, odata, oslots⟩ := ol
        simp only at hcl hdl
        subst hcl; subst hdl
        have hol' : (h.push { cls := .type "set", dict := none, data := .set #[] 0 (.fresh 0 0 led) }).get? l = some { cls := .type "list", dict := odict, data := .seq items nl, slots := oslots } := Heap.get?_push_of_some _ hol
        have hsls := F.sub_list_set
        have hslf := F.sub_list_frozenset
        have hne : (Value.type "list" == Value.type "dict") = false := by decide
        have hl1 : (h.push { cls := .type "set", dict := none, data := .set #[] 0 (.fresh 0 0 led) }).IsList l items := ⟨_, hol', rfl, nl, rfl⟩
        unfold Builtin.«set.__init__» noKeywords Builtin.Frozenset.updateFrom
        generalize hPI : pyIter = PI
        wp_walk
        subst hPI
        refine wpAny_pyIter_list (s := ⟨_, g, d, t, os⟩) hl1 ?_
        refine wpAny_bind (wpAny_runValue ?_)
        have hlS : l < h.objs.size := Heap.lt_size hol
        have hneI : l ≠ (h.push { cls := .type "set", dict := none, data := .set #[] 0 (.fresh 0 0 led) }).objs.size := by
          rw [Heap.size_push]; exact Nat.ne_of_lt (Nat.lt_succ_of_lt hlS)
        have hSf : h.objs.size ∉ [(h.push { cls := .type "set", dict := none, data := .set #[] 0 (.fresh 0 0 led) }).objs.size, l] := by
          rw [Heap.size_push]; simp only [List.mem_cons, List.mem_singleton, List.not_mem_nil, or_false, not_or]
          exact ⟨Nat.ne_of_lt (Nat.lt_succ_self _), Nat.ne_of_gt hlS⟩
        have hW := Walks.list (prog := prog) (w := w) (A := A.in1.in1.in1) (by simp [hh]) (h.push { cls := .type "set", dict := none, data := .set #[] 0 (.fresh 0 0 led) }).objs.size l hneI items
        rw [hsz] at hW
        have hst : ((h.push { cls := .type "set", dict := none, data := .set #[] 0 (.fresh 0 0 led) }).push { cls := .type "list_iterator", data := .fields #[.ref l, .int 0 0] }).IsListIter (h.push { cls := .type "set", dict := none, data := .set #[] 0 (.fresh 0 0 led) }).objs.size l 0 := ⟨_, Heap.get?_push_size _ rfl, rfl, rfl⟩
        refine set_fill (knd := knd) (mk := mk) hW h.objs.size hSf hi his hsc hb ys.length 0 _ t 0 rfl (Nat.zero_le _) ⟨hst, hl1.push _⟩ ?_ (Nat.le_refl _) ?_
        · have hget : ((h.push { cls := .type "set", dict := none, data := .set #[] 0 (.fresh 0 0 led) }).push { cls := .type "list_iterator", data := .fields #[.ref l, .int 0 0] }).get? h.objs.size
              = some { cls := .type "set", dict := none, data := .set #[] 0 (.fresh 0 0 led) } := Heap.get?_push_of_some _ hS
          exact SetAt_cong ((PyProof.Rows.setObjOf_fresh (knd := knd) led).setOf hget (by unfold scanBound; omega)) (by funext k; simp [took])
        · intro h' t' n hk hS'
          refine wpAny_pure ?_
          show wpAny _ _ (ret Value.none) _ _ _
          refine wpAny_pure ⟨rfl, h', t', n, rfl, fun b o e => ?_, hS'⟩
          have hb := Heap.lt_size e
          have hb1 : b ≠ h.objs.size := Nat.ne_of_lt hb
          have hb2 : b ≠ (h.push { cls := .type "set", dict := none, data := .set #[] 0 (.fresh 0 0 led) }).objs.size := by
            rw [Heap.size_push]; exact Nat.ne_of_lt (Nat.lt_succ_of_lt hb)
          exact hk b o (by simp only [List.mem_cons, List.mem_singleton, List.not_mem_nil, or_false, not_or]; exact ⟨hb1, hb2⟩) (Heap.get?_push_of_some _ (Heap.get?_push_of_some _ e))
      · cases r₂ with
        | error e => exact hr₂
        | ok fl₂ =>
          cases fl₂ with
          | ret r =>
            obtain ⟨rfl, h', t', n, rfl, hk', hS'⟩ := hr₂
            repeat (any_goals (first | assumption | wp_step))
            exact q _ _ _ hk' hS'
          | _ => exact hr₂.elim
    | _ => exact hr.elim
end
theorem canon_set_ga : typeLookup (.type "set") "__getattribute__" = pure (some (.builtin "set.__getattribute__")) := by rw [typeLookup_type, builtinLookup_eq_fast]; kernel_rfl
theorem entry_set_ga : entryFor table "set.__getattribute__" = some Builtin.«object.__getattribute__» :=
  entryFor_alias (id' := "object.__getattribute__") (by kernel_rfl) (by first | rfl | decide +kernel) (by decide +kernel) (by kernel_rfl)
theorem slot_set_ga : Slot "set" "__getattribute__" "set.__getattribute__" :=
  .of (owner := "set") (n := "__getattribute__") (by rw [typeLookup_type, builtinLookup_eq_fast]; kernel_rfl) (by decide +kernel) (by decide +kernel) (by decide +kernel)
    (by first | exact .inl (by decide +kernel) | exact .inr (by decide +kernel)) (by rw [isSubtype_type]; kernel_rfl)
theorem args_set_ga (a b : Value) : argsOk "set.__getattribute__" ⟨[a, b], []⟩ := by unfold argsOk; kernel_rfl
theorem lk_contains : typeLookup (.type "set") "__contains__" = pure (some (.builtin "set.__contains__")) := by rw [typeLookup_type, builtinLookup_eq_fast]; kernel_rfl
theorem md_get : typeLookup (.type "method_descriptor") "__get__" = pure (some (.builtin "method_descriptor.__get__")) := by rw [typeLookup_type, builtinLookup_eq_fast]; kernel_rfl
theorem md_set : typeLookup (.type "method_descriptor") "__set__" = pure none := by rw [typeLookup_type, builtinLookup_eq_fast]; kernel_rfl
theorem md_del : typeLookup (.type "method_descriptor") "__delete__" = pure none := by rw [typeLookup_type, builtinLookup_eq_fast]; kernel_rfl
theorem owner_contains : (".".intercalate ("set.__contains__".cutAt '.').dropLast) = "set" := by
  have e0 : "set.__contains__".cutAt '.' = ["set", "__contains__"] := by first | rfl | decide +kernel
  rw [e0]; decide +kernel
theorem slot_md_get : Slot "method_descriptor" "__get__" "method_descriptor.__get__" :=
  .of (owner := "method_descriptor") (n := "__get__") (by rw [typeLookup_type, builtinLookup_eq_fast]; kernel_rfl) (by decide +kernel) (by decide +kernel) (by decide +kernel)
    (by first | exact .inl (by decide +kernel) | exact .inr (by decide +kernel)) (by rw [isSubtype_type]; kernel_rfl)
theorem entry_md_get : entryFor table "method_descriptor.__get__" = some Builtin.«method_descriptor.__get__» := entryFor_of_tree (by kernel_rfl)
theorem args_md_get (a b c : Value) : argsOk "method_descriptor.__get__" ⟨[a, b, c], []⟩ := by unfold argsOk; kernel_rfl
section
variable {prog : Program} {w : World} {A : Around} {E : Value → Shared → Prop} {h : Heap} {g : Array GenState} {d : Drawn} {t : Nat} {os : OsState} {a : Addr} {o : Obj}
set_option maxHeartbeats 1600000 in
theorem bound_get {R : Result → Shared → Prop} {es : Array (Int × Value)} {ep : Nat} {tb : SetTable} {sl : Array (Option Value)} (hx : h.get? a = some { cls := .type "set", dict := none, data := .set es ep tb, slots := sl })
    (hq : R (.ok (.ret (.ref h.objs.size))) ⟨h.push { cls := .type "builtin_function_or_method", data := .fields #[.builtin "set.__contains__", .ref a] }, g, d, t, os⟩) :
    codeAny (model prog w) A (.call (.builtin "method_descriptor.__get__") ⟨[.builtin "set.__contains__", .ref a, .type "set"], []⟩) R ⟨h, g, d, t, os⟩ := by
  have hT : (⟨h, g, d, t, os⟩ : Shared).TypeIs (.ref a) "set" := ⟨_, hx, rfl⟩
  have hT5 : (⟨h, g, d, t, os⟩ : Shared).TypeIs (.builtin "set.__contains__") "method_descriptor" := F.type_set_contains
  have f8 : isSubtype (.type "set") (.type (".".intercalate ("set.__contains__".cutAt '.').dropLast)) = pure true := by rw [owner_contains]; exact sub_set_self
  have f9 : Manifest.toldItsClass.contains "set.__contains__" = false := by decide +kernel
  refine codeAny_call_builtin slot_md_get.plain entry_md_get (slot_md_get.check _ _ _ _ _ _ _ _ hT5 (args_md_get _ _ _) ?_)
  unfold Builtin.«method_descriptor.__get__»
  repeat (any_goals (first | assumption | wp_step))
theorem bound_entry {tk : Tok} {Q : Fin → Shared → Prop} {es : Array (Int × Value)} {ep : Nat} {tb : SetTable} {sl : Array (Option Value)} (hx : h.get? a = some { cls := .type "set", dict := none, data := .set es ep tb, slots := sl })
    (hq : Q (.done (.ret (.ref h.objs.size))) ⟨h.push { cls := .type "builtin_function_or_method", data := .fields #[.builtin "set.__contains__", .ref a] }, g, d, t, os⟩) : wpAny (model prog w) A (Builtin.«object.__getattribute__» ⟨[.ref a, .str "__contains__" tk], []⟩) Q E ⟨h, g, d, t, os⟩ := by
  have hT : (⟨h, g, d, t, os⟩ : Shared).TypeIs (.ref a) "set" := ⟨_, hx, rfl⟩
  have f4 := lk_contains
  have f5 : typeOf (.builtin "set.__contains__") = pure (.type "method_descriptor") := F.type_set_contains
  have f6 := md_get
  have f7 := md_set
  have f8 := md_del
  repeat (any_goals (first | assumption | wp_step))
  all_goals (first | refine bound_get hx ?_ | skip)
  repeat (any_goals (first | assumption | wp_step))
set_option maxHeartbeats 1600000 in
theorem bound_attr {expr : Bool} {Q : Value → Shared → Prop} {es : Array (Int × Value)} {ep : Nat} {tb : SetTable} {sl : Array (Option Value)} (hx : h.get? a = some { cls := .type "set", dict := none, data := .set es ep tb, slots := sl })
    (hq : Q (.ref h.objs.size) ⟨h.push { cls := .type "builtin_function_or_method", data := .fields #[.builtin "set.__contains__", .ref a] }, g, d, t + 1, os⟩) : wpAny (model prog w) A (getAttr (.ref a) "__contains__" expr) Q E ⟨h, g, d, t, os⟩ := by
  have hT : (⟨h, g, d, t + 1, os⟩ : Shared).TypeIs (.ref a) "set" := ⟨_, hx, rfl⟩
  have f2 := slot_set_ga.lookup
  have f3 := slot_set_ga.bind (.ref a)
  have hx0 : (expr && onTheHeap (Value.builtin "set.__getattribute__")) = false := by cases expr <;> rfl
  unfold getAttr
  repeat (any_goals (first | assumption | wp_step))
  refine codeAny_call_builtin slot_set_ga.plain entry_set_ga (slot_set_ga.check _ _ _ _ _ _ _ _ hT (args_set_ga _ _) (bound_entry hx ?_))
  repeat (any_goals (first | assumption | wp_step))
end
section
variable {prog : Program} {w : World} {A : Around} {E : Value → Shared → Prop} {K : Type} [DecidableEq K] {knd : KeyKind prog w K} {h : Heap} {g : Array GenState} {d : Drawn} {t : Nat} {os : OsState} {a M : Addr} {k : K} {key : Value}
noncomputable abbrev boundObj (a : Addr) : Obj := { cls := .type "builtin_function_or_method", data := .fields #[.builtin "set.__contains__", .ref a] }
theorem contains_run {S : K → Bool} {n : Nat} {R : Result → Shared → Prop} (hS : h.SetOf knd a S n) (hkey : knd.is k key = true) (hsc : key.scannable = true) (q : ∀ t', R (.ok (.ret (.bool (S k)))) ⟨h, g, d, t', os⟩) :
    codeAny (model prog w) A (.builtin "set.__contains__" ⟨[.ref a, key], []⟩) R ⟨h, g, d, t, os⟩ := by
  refine codeAny_builtin entry_set_contains ?_
  unfold Builtin.«frozenset.__contains__» Builtin.Frozenset.oneOther
  simp only [List.isEmpty_nil, bind_assoc]
  unfold Builtin.Frozenset.addrOf Builtin.Frozenset.withSetAsKey setContains
  refine wpAny_bind (wpAny_pure ?_)
  try dsimp only
  refine wpAny_bind (wpAny_pure ?_)
  try dsimp only
  refine wpAny_bind (wpAny_tryCatch ?_)
  refine wpAny_holding ?_
  refine wpAny_bind (knd.pyHash hkey ?_)
  refine wpAny_bind (wpAny_setFind_of (s := ⟨h, g, d, t + 1, os⟩) hkey hsc hS fun r hr => ?_)
  refine wpAny_pure ?_
  show wpAny _ _ (ret (Value.bool r.isSome)) _ _ _
  rw [hr]
  exact wpAny_pure (q _)
theorem bc_plain : plainId "set.__contains__" = true := by decide +kernel
theorem bc_kind : builtinKind "set.__contains__" = some .method := by kernel_rfl
theorem bc_va : Manifest.varargsMethods.contains "set.__contains__" = false := by decide +kernel
theorem bc_sub : isSubtype (.type "set") (.type "module") = pure false := by rw [isSubtype_type]; kernel_rfl
theorem bc_ty : isSubtype (.type "set") (.type "type") = pure false := by rw [isSubtype_type]; kernel_rfl
theorem bc_all (a b : Value) : (match Manifest.signature? "set.__contains__" with
    | none => pure ()
    | some sig => Bind.checkArgs "set.__contains__" { sig with full := s!"{Bind.lastOf "set"}.{Bind.lastOf "set.__contains__"}" } ⟨[a, b], []⟩) = (pure () : Sem Unit) := by
  rw [signature?_of (id := "set.__contains__") (n := ['_', '_', 's', 'n', 'i', 'a', 't', 'n', 'o', 'c', '_', '_']) (o := ['t', 'e', 's']) (by kernel_rfl) F.owner_set]; kernel_rfl
theorem bc_check (a b : Value) : ∀ sig, Manifest.signature? "set.__contains__" = some sig → Bind.checkArgs "set.__contains__" { sig with full := s!"{Bind.lastOf "set"}.{Bind.lastOf "set.__contains__"}" } ⟨[a, b], []⟩ = pure () := by
  intro sig hs
  have := bc_all a b
  rw [hs] at this
  exact this
theorem bound_check {M : Model} {Q : Unit → Shared → Prop} {o : Obj} {es : Array (Int × Value)} {ep : Nat} {tb : SetTable} (hx : h.get? a = some o) (hdt : o.data = .set es ep tb) (hT : (⟨h, g, d, t, os⟩ : Shared).TypeIs (.ref a) "set") (q : Q () ⟨h, g, d, t, os⟩) : wpAny M A (checkBoundCall "set.__contains__" ⟨[.ref a, key], []⟩) Q E ⟨h, g, d, t, os⟩ := by
  unfold checkBoundCall
  cases hs : Manifest.signature? "set.__contains__" with
  | none => exact wpAny_pure q
  | some sig =>
    dsimp only
    rw [bc_kind]
    dsimp only
    rw [if_neg (by decide)]
    refine wpAny_bind (wpAny_isInstance hT bc_sub ?_)
    rw [bc_va]
    rw [if_neg (by decide)]
    refine wpAny_bind ?_
    unfold isType
    refine wpAny_bind (wpAny_bind (wpAny_loadPart hx (wpAny_pure ?_)))
    rw [hdt]
    dsimp only
    refine wpAny_pure ?_
    rw [if_neg (by decide)]
    refine wpAny_bind (wpAny_typeOf hT ?_)
    dsimp only
    exact wpAny_of_eq (bc_check _ _ _ hs) q
set_option maxHeartbeats 1600000 in
theorem bound_call {S : K → Bool} {n : Nat} {Q : Value → Shared → Prop} (hM : h.get? M = some (boundObj a)) (hS : h.SetOf knd a S n) (hkey : knd.is k key = true) (hsc : key.scannable = true)
    (q : ∀ t', Q (.bool (S k)) ⟨h, g, d, t', os⟩) : wpAny (model prog w) A (call (.ref M) [key]) Q E ⟨h, g, d, t, os⟩ := by
  have hS' := hS
  obtain ⟨o, es, ep, tb, ho, hc, hdt, _⟩ := hS'
  have hT : (⟨h, g, d, t, os⟩ : Shared).TypeIs (.ref a) "set" := ⟨o, ho, hc.1⟩
  refine wpAny_call (codeAny_of_tree ?_)
  show wpAny _ _ (callAny (.ref M) _) _ _ _
  simp only [callAny]
  refine wpAny_bind (wpAny_load hM ?_)
  dsimp only
  rw [if_pos (by rfl)]
  show wpAny _ _ (checkBoundCall "set.__contains__" ⟨[.ref a, key], []⟩ >>= fun _ => again (.builtin "set.__contains__" ⟨[.ref a, key], []⟩) >>= fun x => pure x) _ _ _
  refine wpAny_bind (bound_check ho hdt hT ?_)
  refine wpAny_bind (wpAny_pure ?_)
  refine wpAny_pure ⟨plainId_quiet bc_plain _, contains_run hS hkey hsc q⟩
end
section
variable {w : World} {A : Around} {h : Heap} {g : Array GenState} {d : Drawn} {t : Nat} {os : OsState} {R : Result → Shared → Prop}
theorem enterK {mg mb : Str → Option Value} {name qual : Str} {params : Arguments} {body : List Stmt} {scope : Scope} {dV kV doc pm cdv ct oc : Value} {an od : Option Addr} {osl : Array (Option Value)} {f : Addr} {args : List Value} {binds : List (Str × Value)}
    (W : Wd w mg mb h)
    (ho : (hd.heap_39 w.params).lookup f = some ⟨oc, od, .func (fnOf name qual params body scope dV kV doc pm an cdv ct), osl⟩) (hcd : codeIn (hd.heap_39 w.params) cdv qual = true) (hroom : A.depth < 900)
    (hbind : bindArgs (fnOf name qual params body scope dV kV doc pm an cdv ct) ⟨args, []⟩ = pure binds) (hloc : ∀ y ∈ binds, scope.names.lookup y.1 = some .local)
    (x : ∀ h₁ t₁, Fr h h.objs.size h₁ (fun y => binds.reverse.lookup y) →
      wpAny (model PG w) (A.deeper (envOf qual scope h.objs.size f cdv)) (execs body (envOf qual scope h.objs.size f cdv))
        (fun fl s' => R (.ok (.ret (match fl with | .ret v => v | _ => .none))) s') (fun _ _ => False)
        ⟨h₁, g, d, t₁, os⟩)
    (hco : scope.isCoroutine = false) (hgen : scope.isGenerator = false) (hk : scope.kind = .function)
    (hcell : ∀ x ∈ scope.names, x.2 ≠ .cell) : codeAny (model PG w) A (.call (.ref f) ⟨args, []⟩) R ⟨h, g, d, t, os⟩ := by
  refine codeAny_call_def (fd := fnOf name qual params body scope dV kV doc pm an cdv ct) (body := body) (binds := binds) (show _ < 1000 by omega) (W.X _ _ ho) rfl W.T.nolimit (codeRec_of W.X hcd) rfl (.of_eq hbind) hcell hloc (fun h₁ hns hk₁ => ?_) hco hgen hk
  exact wpAny_mono (x h₁ _ ⟨hns, hk₁, Nat.le_refl _⟩) (fun _ _ x => x) (fun _ _ x => x.elim)
end
theorem fp1 (v : Value) : slotPut #[] 1 v = #[none, some v] := rfl
theorem fp0 (a b : Option Value) (v : Value) : slotPut #[a, b] 0 v = #[some v, b] := rfl
set_option maxRecDepth 100000 in
set_option maxHeartbeats 1000000 in
theorem ffinit_spec {w mg mb A} {h h₀ : Heap} {g : Array GenState} {d : Drawn} {t : Nat} {os : OsState} {R : Result → Shared → Prop} {X dx l : Nat} {items : Array Value} {fv : Value}
    (W₀ : Wd w mg mb h₀) (k₀ : Ext h₀ h) (hX0 : h₀.get? X = none) (hdp : A.depth < 700) (I : InstIs h X dx 108 #[]) (hl : h.IsList l items)
    (x : ∀ h' t' It, (∀ b o, b ≠ X → h.get? b = some o → h'.get? b = some o) → h.get? It = none → h'.IsListIter It l 0 → InstIs h' X dx 108 #[some fv, some (.ref It)] → R (.ok (.ret .none)) ⟨h', g, d, t', os⟩) :
    codeAny (model PG w) A (.call (.ref 90) ⟨[.ref X, fv, .ref l], []⟩) R ⟨h, g, d, t, os⟩ := by
  have W := W₀.keeps k₀
  refine enterK W (by k_is) (by k_is) (by omega) (by rfl) (locs rfl) (fun h₁ t₁ F => ?_) rfl rfl rfl (by decide)
  have hLn : h.get? h.objs.size = none := none_ge (Nat.le_refl _)
  have F₁ := FS.of_fr F
  have W₁ := W.keeps F.keep
  have hdL : dx ≠ h.objs.size := by rintro rfl; have := I.dict; rw [hLn] at this; cases this
  have hXL : X ≠ h.objs.size := by rintro rfl; have := I.obj; rw [hLn] at this; cases this
  repeat (walk_at "e")
  refine c_blt1 W₁ (by k_is) (by rfl) ?_
  repeat (walk_at "e")
  refine e_iter (wpAny_pyIter_list (s := ⟨h₁, g, d, _, os⟩) (isL_ext hl F.keep) ?_)
  have kp : Ext h₁ (h₁.push { cls := .type "list_iterator", data := .fields #[.ref l, .int 0 0] }) := ext_push _
  have F₂ := F₁.up kp.up
  have k₂ : Ext h (h₁.push { cls := .type "list_iterator", data := .fields #[.ref l, .int 0 0] }) := Ext.trans F.keep kp
  have W₂ := W.keeps k₂
  have I₂ := I.keeps (fun o e => k₂ _ _ e) (fun o e => k₂ _ _ e)
  have hIt : h.get? h₁.objs.size = none := new_top F.keep
  have hItL : h₁.objs.size ≠ h.objs.size := by
    obtain ⟨o, ho⟩ := F₁.live
    exact fun q => absurd (Heap.lt_size ho) (by rw [q]; exact Nat.lt_irrefl _)
  have hItX : h₁.objs.size ≠ X := by rintro q; have := I.obj; rw [← q, hIt] at this; cases this
  have hL0 : h₀.get? h.objs.size = none := by
    rcases get_none_or h₀ h.objs.size with q | ⟨o, q⟩
    · exact q
    · rw [k₀ _ _ q] at hLn; cases hLn
  repeat (walk_at "e")
  refine e_set W₂.X F₂.ns I₂ hdL (by k_is) (by k_is) (by k_is) (by k_is) (by k_is) (by decide) (fun h₃ hn₃ I₃ k₃ => ?_)
  rw [fp1] at I₃
  have z₃ : Ext h₀ h₃ := fun b o e => k₃ b o (by rintro rfl; rw [hX0] at e; cases e) (by rintro rfl; rw [hL0] at e; cases e) (k₂ b o (k₀ b o e))
  repeat (walk_at "e")
  refine e_set (W₀.keeps z₃).X hn₃ I₃ hdL (by k_is) (by k_is) (by k_is) (by k_is) (by k_is) (by decide) (fun h₄ hn₄ I₄ k₄ => ?_)
  rw [fp0] at I₄
  repeat (walk_at "e")
  refine x h₄ _ h₁.objs.size (fun b o hb e => ?_) hIt ⟨_, k₄ _ _ hItX hItL (k₃ _ _ hItX hItL (Heap.get?_push_size _ rfl)), rfl, rfl⟩ I₄
  have hbL : b ≠ h.objs.size := by rintro rfl; rw [hLn] at e; cases e
  exact k₄ b o hb hbL (k₃ b o hb hbL (k₂ b o e))
section
variable {prog : Program} {w : World} {A : Around} {E : Value → Shared → Prop} {Q : Value → Shared → Prop} {h : Heap} {g : Array GenState} {d : Drawn} {t : Nat} {os : OsState} {It l : Addr} {i : Nat} {items : Array Value}
/-- the built-in next of a list's iterator -/
theorem list_next (hh : A.handled = none) (hit : h.IsListIter It l i) (hl : h.IsList l items)
    (hQ : ∀ x h' t', items[i]? = some x → h'.IsListIter It l (i + 1) → Heap.SameBut It h h' → Q x ⟨h', g, d, t', os⟩)
    (hE : ∀ e h₁ h' t', items[i]? = none → Heap.ExtBut It h h₁ → Heap.NewExc h₁ h' e "StopIteration" → E (.ref e) ⟨h', g, d, t', os⟩) :
    wpAny (model prog w) A (call (.builtin "next") [.ref It]) Q E ⟨h, g, d, t, os⟩ := by
  obtain ⟨o, ho, hc, hd⟩ := id hit
  obtain ⟨ol, hol, _, nl, hdl⟩ := hl
  have hT : (⟨h, g, d, t, os⟩ : Shared).TypeIs (.ref It) "list_iterator" := ⟨o, ho, hc⟩
  refine Calls.call_function_entry (by decide +kernel) (by decide +kernel) kdk_entry_next (kdk_args_next _) ?_
  unfold Builtin.«next»
  refine wpAny_bind (m := someArgs "next" 1 2 _) (wpAny_of_eq (a := [Value.ref It]) (by first | rfl | kernel_rfl!) ?_)
  dsimp only
  refine wpAny_bind (wpAny_specialOf (name := Str.ofString "__next__") hT slot_listiter_next.lookup ?_)
  refine wpAny_ite_split (fun hab => absurd hab (by decide)) (fun _ => ?_)
  refine wpAny_bind (wpAny_callSpecial?_slot (name := Str.ofString "__next__") hT slot_listiter_next (wpAny_call_entry slot_listiter_next hT entry_listiter_next ?_ (args_listiter_next _)))
  show wpAny _ _ (field (.ref It) 0 >>= _) _ _ _
  refine wpAny_bind (wpAny_field ho hd (x := .ref l) rfl ?_)
  show wpAny _ _ (if (Value.ref l == Value.none) = true then _ else _) _ _ _
  rw [if_neg (show ¬ ((Value.ref l == Value.none) = true) from Bool.false_ne_true)]
  show wpAny _ _ (field (.ref It) 1 >>= _) _ _ _
  refine wpAny_bind (wpAny_field ho hd (x := .int i 0) rfl ?_)
  show wpAny _ _ (seqItems? (.ref l) >>= _) _ _ _
  refine wpAny_bind (wpAny_seqItems hol hdl ?_)
  cases hx : items[i]? with
  | some x =>
    simp only [Int.toNat_natCast, hx]
    refine wpAny_bind (wpAny_setField ho hd (by simp) (wpAny_pure ⟨x, rfl, wpAny_pure ⟨_, rfl, hQ x _ _ hx ?_ (Heap.SameBut.update ..)⟩⟩))
    exact ⟨_, Heap.get?_update_self _ ho (Obj.isFreed_of_fields (Obj.data_mapFields hd _)), (Obj.cls_mapFields ..).trans hc, by
      rw [Obj.data_mapFields hd]; simp [rawInt]⟩
  | none =>
    simp only [Int.toNat_natCast, hx]
    refine wpAny_bind (wpAny_rule (wpAny_bind (wpAny_setField ho hd (by simp) ?_)))
    show wpAny _ _ (newExc (.type "StopIteration") [] >>= _) _ _ _
    refine wpAny_bind ?_
    simp only [newExc, newTuple]
    refine wpAny_bind (wpAny_newObj_type ?_ (by size_fits))
    refine wpAny_bind (m := firstArgMember _ _) (wpAny_of_eq (a := Value.none) (by first | rfl | (simp only [firstArgMember]; rfl)) ?_)
    refine wpAny_newObj_type ?_ (by size_fits)
    simp only [raiseNew]
    refine wpAny_bind (wpAny_handled ?_)
    rw [show A.in1.in1.handled = none from hh]
    refine wpAny_bind (wpAny_pure (wpAny_throw ?_))
    refine hE _ _ _ _ hx (Heap.SameBut.update ..).extBut ⟨fun b o hb => Heap.get?_push_of_some _ (Heap.get?_push_of_some _ hb), Heap.get?_none_of_le ?_, _, _, Heap.get?_push_size _ rfl, rfl, rfl⟩
    show _ ≤ (Heap.push _ _).objs.size
    rw [Heap.size_push]; exact Nat.le_succ _
end
section
variable {prog : Program} {w : World} {A : Around} {E : Value → Shared → Prop} {Q : Value → Shared → Prop} {h : Heap} {g : Array GenState} {d : Drawn} {t : Nat} {os : OsState} {a M : Addr}
theorem keeps_bound {MM : Model} {M a : Addr} (h : Heap) (x : h.get? M = some (boundObj a)) : ∃ k, (k = Keeper.frame ∨ k = Keeper.machine ∨ k = Keeper.boundFrame) ∧ Looks MM h (keeperOf (.ref M)) k :=
  ⟨.machine, .inr (.inl rfl), (Looks.ld x).andThen .now⟩
/-- a call of a bound method that a name bears -/
theorem c_bound {MM : Model} {x : Str} {p pos : Pos} {e₁ : Expr} {env : Env} {L : Addr} {m : Str → Option Value} {s : Shared} (hn : s.heap.Ns L m) (hL : env.locals = L) (hv : m x = some (.ref M))
    (q : wpAny MM A (eval e₁ env) (fun v s₁ => s₁.heap.get? M = some (boundObj a) ∧ wpAny MM A (call (.ref M) [v]) Q E s₁) E s)
    (hk : env.scope.kind = .function := by rfl) (hl : env.kindOf x = some .local := by rfl) (hd : (x == ("__debug__" : Str)) = false := by decide) (he : starEach [e₁] env = (false, eval e₁ env) :: starEach [] env := by rfl) :
    wpAny MM A (eval (.Call (.Name x p) [e₁] [] pos) env) Q E s := by
  refine wpAny_Call_Name_kw (n_loc hn hL hv ?_ hk hl hd)
  rw [he]
  exact callWith_of (P := fun h => h.get? M = some (boundObj a)) (first := []) rfl (fun h x => keeps_bound h x) (Calls.evalArgs_plain (Calls.spliced_cons (wpAny_mono q (fun v s₁ h₁ => spliced_none h₁) fun _ _ z => z)))
end
/-- where the walk over the minuend stands -/
structure Ff (prog : Program) (w : World) {K : Type} [DecidableEq K] (knd : KeyKind prog w K) (X dx M It l a : Nat) (items : Array Value) (S : K → Bool) (i : Nat) (h : Heap) : Prop where
  inst : InstIs h X dx 108 #[some (.ref M), some (.ref It)]
  iter : h.IsListIter It l i
  list : h.IsList l items
  bnd : h.get? M = some (boundObj a)
  set : ∃ n, h.SetOf knd a S n
theorem Ff.keeps {prog : Program} {w : World} {K : Type} [DecidableEq K] {knd : KeyKind prog w K} {X dx M It l a : Nat} {items : Array Value} {S : K → Bool} {i : Nat} {h h' : Heap} (x : Ff prog w knd X dx M It l a items S i h) (k : Ext h h') : Ff prog w knd X dx M It l a items S i h' :=
  ⟨x.inst.keeps (fun o e => k _ _ e) (fun o e => k _ _ e), x.iter.at fun o e => k _ _ e, isL_ext x.list k, k _ _ x.bnd, let ⟨n, s⟩ := x.set; ⟨n, SetAt_keeps s fun o e => k _ _ e⟩⟩
set_option maxRecDepth 100000 in
set_option maxHeartbeats 1000000 in
theorem ffnext_spec {w mg mb A E} {K : Type} [DecidableEq K] {knd : KeyKind PG w K} {hB h : Heap} {g : Array GenState} {d : Drawn} {t : Nat} {os : OsState} {Q : Value → Shared → Prop} {fs : List Addr} {X dx M It l a : Nat} {items : Array Value} {S : K → Bool} {i : Nat} {mk : K → Tok → Value} {ys : List K}
    (W₀ : Wd w mg mb hB) (kB : Ext hB h) (Sk : Stk A fs hB h) (hIf : It ∉ fs) (hIB : hB.get? It = none) (hdp : A.depth < 500) (hu : A.units < 4000) (hh : A.handled = none)
    (hi : ∀ (i : Nat) (v : Value), items[i]? = some v → ∃ k t, ys[i]? = some k ∧ v = mk k t) (his : ∀ k t, knd.is k (mk k t) = true) (hsc : ∀ k t, (mk k t).scannable = true)
    (x : Ff PG w knd X dx M It l a items S i h) (hil : i ≤ items.size)
    (hQ : ∀ j v y h' t', i ≤ j → (∀ m, i ≤ m → m < j → ∀ y, ys[m]? = some y → S y = true) → ys[j]? = some y → S y = false → items[j]? = some v → Ff PG w knd X dx M It l a items S (j + 1) h' → (∀ b o, b ≠ It → h.get? b = some o → h'.get? b = some o) → Q v ⟨h', g, d, t', os⟩)
    (hE : ∀ e base l h' t', (∀ m, i ≤ m → ∀ y, ys[m]? = some y → m < items.size → S y = true) → (∀ b o, b ≠ It → b ∉ fs → h.get? b = some o → h'.get? b = some o) → (∀ b ∈ fs, UpAt h h' b) → Fly base l e .none h' → E (.ref e) ⟨h', g, d, t', os⟩) :
    wpAny (model PG w) A (call (.ref 104) [.ref X]) Q E ⟨h, g, d, t, os⟩ := by
  refine enterE (W₀.keeps kB) (by k_is) (by k_is) (by omega) (by rfl) (locs rfl) (fun h₁ t₁ F => ?_) rfl rfl rfl (by decide)
  have hLn : h.get? h.objs.size = none := none_ge (Nat.le_refl _)
  have F₁ := FS.of_fr F
  have W₁ := W₀.keeps (Ext.trans kB F.keep)
  have x₁ := x.keeps F.keep
  repeat (walk_at "e")
  refine e_get W₁.X x₁.inst (by k_is) (by k_is) (by k_is) (by k_is) (by k_is) (by k_is) (by rfl) (by rfl) ?_
  refine st_loc F₁ (fun h₂ F₂ s₂ => ?_)
  refine wpAny_execs_cons ?_
  have k₂ : Ext h h₂ := ext_same F.keep s₂ hLn
  have x₂ := x.keeps k₂
  have hLI : h.objs.size ≠ It := by rintro e; obtain ⟨o, ho, _⟩ := x.iter; rw [← e, hLn] at ho; cases ho
  have hLX : h.objs.size ≠ X := by rintro e; have := x.inst.obj; rw [← e, hLn] at this; cases this
  have hLd : h.objs.size ≠ dx := by rintro e; have := x.inst.dict; rw [← e, hLn] at this; cases this
  have hLl : h.objs.size ≠ l := by rintro e; obtain ⟨o, ho, _⟩ := x.list; rw [← e, hLn] at ho; cases ho
  have hLM : h.objs.size ≠ M := by rintro e; have := x.bnd; rw [← e, hLn] at this; cases this
  have hLa : h.objs.size ≠ a := by rintro e; obtain ⟨n, o, _, _, _, ho, _⟩ := x.set; rw [← e, hLn] at ho; cases ho
  have moved : ∀ {j : Nat} {ha hb : Heap}, Ff PG w knd X dx M It l a items S j ha → Heap.SameBut h.objs.size ha hb → Ff PG w knd X dx M It l a items S j hb := fun y sb =>
    ⟨y.inst.keeps (fun o e => sb.extBut _ o (Ne.symm hLX) e) (fun o e => sb.extBut _ o (Ne.symm hLd) e), y.iter.at fun o e => sb.extBut _ o (Ne.symm hLI) e, y.list.at fun o e => sb.extBut _ o (Ne.symm hLl) e, sb.extBut _ _ (Ne.symm hLM) y.bnd, let ⟨n, z⟩ := y.set; ⟨n, SetAt_keeps z fun o e => sb.extBut _ o (Ne.symm hLa) e⟩⟩
  refine wpAny_While (codeAny_whileLoop (fun k s' => ∃ j h' t' m', s' = ⟨h', g, d, t', os⟩ ∧ FS h' h.objs.size m' [] (fun _ => none) ∧ m' (Str.ofString "self") = some (.ref X) ∧ m' (Str.ofString "func") = some (.ref M) ∧ Ff PG w knd X dx M It l a items S j h'
    ∧ (∀ b o, b ≠ It → b ≠ h.objs.size → h₂.get? b = some o → h'.get? b = some o) ∧ i ≤ j ∧ j ≤ items.size ∧ (∀ m, i ≤ m → m < j → ∀ y, ys[m]? = some y → S y = true) ∧ k = items.size - j) ?_ (items.size - i) ⟨i, h₂, _, _, rfl, F₂, rfl, rfl, x₂, (fun _ _ _ _ e => e), Nat.le_refl _, hil, (fun m h1 h2 => by omega), rfl⟩)
  rintro k s' ⟨j, h', t', m', rfl, F', hm1, hm2, x', hrel, hij, hjl, hsk, rfl⟩
  have toh : ∀ b o, b ≠ It → h.get? b = some o → h'.get? b = some o := fun b o h1 e => hrel b o h1 (by rintro rfl; rw [hLn] at e; cases e) (k₂ b o e)
  have W' : Wd w mg mb h' := W₀.keeps fun b o e => toh b o (by rintro rfl; rw [hIB] at e; cases e) (kB b o e)
  have nI : ∀ {b o}, h'.get? b = some o → (∀ vs, o.data ≠ .fields vs) → b ≠ It := by
    rintro b o e hnf rfl; obtain ⟨o', e', _, hd'⟩ := x'.iter; rw [e] at e'; cases e'; exact hnf _ hd'
  have hXI : X ≠ It := nI x'.inst.obj (fun _ q => by cases q)
  have hdI : dx ≠ It := nI x'.inst.dict (fun _ q => by cases q)
  have hlI : l ≠ It := by obtain ⟨o, e, _, n, hd'⟩ := x'.list; exact nI e (fun _ q => by rw [hd'] at q; cases q)
  have haI : a ≠ It := by obtain ⟨n, o, es, ep, tb, e, _, hd', _⟩ := x'.set; exact nI e (fun _ q => by rw [hd'] at q; cases q)
  have hMI : M ≠ It := by
    rintro rfl; obtain ⟨o', e', hc', _⟩ := x'.iter; rw [x'.bnd] at e'; cases e'; simp at hc'
  refine isTrue_plain ?_ (by rfl)
  repeat (walk_at "e")
  refine c_blt1 W' (by k_is) (by rfl) ?_
  repeat (walk_at "e")
  refine e_get W'.X x'.inst (by k_is) (by k_is) (by k_is) (by k_is) (by k_is) (by k_is) (by rfl) (by rfl) ?_
  refine list_next hh x'.iter x'.list (fun v h5 t5 hv hit5 s5 => ?_) (fun e h6 h7 t7 hnone k6 hx7 => ?_)
  · have F5 : FS h5 h.objs.size m' [] (fun _ => none) := ⟨F'.ns.sameBut s5 hLI, (fun _ _ e => by cases e), List.Pairwise.nil⟩
    have x5 : Ff PG w knd X dx M It l a items S (j + 1) h5 := ⟨x'.inst.keeps (fun o e => s5.extBut _ o hXI e) (fun o e => s5.extBut _ o hdI e), hit5, x'.list.at fun o e => s5.extBut _ o hlI e, s5.extBut _ _ hMI x'.bnd, let ⟨n, z⟩ := x'.set; ⟨n, SetAt_keeps z fun o e => s5.extBut _ o haI e⟩⟩
    obtain ⟨y, ty, hy, rfl⟩ := hi j v hv
    refine st_loc F5 (fun h8 F8 s8 => ?_)
    have x8 := moved x5 s8
    have hjs : j < items.size := (Array.getElem?_eq_some_iff.mp hv).1
    have W8 : Wd w mg mb h8 := W₀.keeps fun b o e => s8.extBut b o (by rintro rfl; have := kB _ _ e; rw [hLn] at this; cases this) (s5.extBut b o (by rintro rfl; rw [hIB] at e; cases e) (toh b o (by rintro rfl; rw [hIB] at e; cases e) (kB b o e)))
    repeat (walk_at "e")
    refine e_none ?_
    refine is_ref_none ?_
    repeat (walk_at "e")
    refine n_blt W8 (by k_is) (v := .type "bool") (by rfl) ?_
    refine wpAny_is_plain (by rfl) ?_
    repeat (walk_at "e")
    rw [if_neg (show ¬ ((Value.ref M == Value.type "bool") = true) from Bool.false_ne_true)]
    repeat (walk_at "e")
    refine isTrue_plain ?_ (by rfl)
    refine c_bound (a := a) F8.ns (by rfl) hm2 ?_
    repeat (walk_at "e")
    refine ⟨x8.bnd, ?_⟩
    obtain ⟨n8, hS8⟩ := x8.set
    refine bound_call x8.bnd hS8 (his y ty) (hsc y ty) (fun t9 => ?_)
    repeat (walk_at "e")
    cases hSy : S y with
    | true =>
      repeat (walk_at "e")
      refine ⟨items.size - (j + 1), by omega, j + 1, h8, _, _, rfl, F8, hm1, hm2, x8, fun b o h1 h2 e => s8.extBut b o h2 (s5.extBut b o h1 (hrel b o h1 h2 e)), by omega, hjs, fun m h1 h2 z hz => ?_, rfl⟩
      by_cases hmj : m = j
      · subst hmj; rw [hy] at hz; cases hz; exact hSy
      · exact hsk m h1 (by omega) z hz
    | false =>
      repeat (walk_at "e")
      exact hQ j _ y h8 _ hij hsk hy hSy hv x8 (fun b o h1 e => s8.extBut b o (by rintro rfl; rw [hLn] at e; cases e) (s5.extBut b o h1 (toh b o h1 e)))
  · obtain ⟨outer, hfr, hof, hoe⟩ := Sk.fr
    have hLf : h.objs.size ∉ fs := Sk.ok.new hLn
    obtain ⟨base, hbase⟩ : ∃ b, b = hideAll h6 (h.objs.size :: fs) := ⟨_, rfl⟩
    have bget : ∀ {b o}, h6.get? b = some o → b ≠ h.objs.size → b ∉ fs → base.get? b = some o := fun e h2 h3 => by
      rw [hbase]; exact hideAll_get _ e (by simp [h2, h3])
    have bnone : ∀ {b}, b = h.objs.size ∨ b ∈ fs → base.get? b = none := fun q => by
      rw [hbase]; exact hideAll_none _ (by rcases q with rfl | q <;> simp [*])
    have bof : ∀ b o, base.get? b = some o → h6.get? b = some o := fun b o e => by rw [hbase] at e; exact of_hideAll _ e
    have toH6 : ∀ b o, b ≠ It → h.get? b = some o → h6.get? b = some o := fun b o h1 e => k6 b o h1 (toh b o h1 e)
    have fI : ∀ b ∈ fs, b ≠ It := fun b hb q => hIf (q ▸ hb)
    have hns6 : h6.Ns h.objs.size m' := F'.ns.at' fun o e => k6 _ o hLI e
    unfold notedBy
    refine note_new (base := base) (outer := outer) (L := h.objs.size) (Around.frames_deeper hfr) ?_ rfl hx7 bof (fun ha fa ua => ?_)
    · refine funFrames_mk (fun env he => ?_) (fun b hb => ?_)
      · rcases List.mem_cons.mp he with rfl | he
        · exact ⟨by show ScopeKind.function ≠ ScopeKind.module; decide, _, rfl⟩
        · exact hoe env he
      · have hb' : b = h.objs.size ∨ b ∈ fs := by
          rw [List.filterMap_cons] at hb
          rcases List.mem_cons.mp hb with rfl | hb
          · exact .inl rfl
          · exact .inr (hof ▸ hb)
        refine ⟨bnone hb', ?_⟩
        rcases hb' with rfl | hb'
        · obtain ⟨o, es, ep, ho, hd, _⟩ := hns6
          exact ⟨o, hx7.keeps _ _ ho, fun vs q => by rw [hd] at q; cases q⟩
        · obtain ⟨o, ho, es, ep, hd⟩ := Sk.ok b hb'
          exact ⟨o, hx7.keeps _ _ (toH6 b o (fI b hb') ho), fun vs q => by rw [hd] at q; cases q⟩
    refine fly_back (L := h.objs.size) rfl fa (fun hb fb ub => ?_)
    refine fly_leaves (L := h.objs.size) (outer := outer) rfl fb (fun hz fz uz => ?_)
    refine hE e base outer _ _ (fun m h1 z hz' hm => ?_) (fun b o h1 h2 e' => ?_) (fun b hb o ho => ?_) fz
    · have hjn : j = items.size := by
        have := Array.getElem?_eq_none_iff.mp hnone
        omega
      exact hsk m h1 (by omega) z hz'
    · exact fz.1 b o (bget (toH6 b o h1 e') (by rintro rfl; rw [hLn] at e'; cases e') h2)
    · obtain ⟨o', ho', es, ep, hd'⟩ := Sk.ok b hb
      rw [ho] at ho'; cases ho'
      obtain ⟨sl3, e3⟩ := ((ua.trans ub).trans uz) b _ (hx7.keeps _ _ (toH6 b o (fI b hb) ho)) (fun vs q => by rw [hd'] at q; cases q)
      exact ⟨⟨sl3, e3⟩, fun hnd => absurd hd' (hnd _ _)⟩
-- difference
set_option maxRecDepth 100000 in
set_option maxHeartbeats 1000000 in
theorem diff_spec {w mg mb A E} {K : Type} [DecidableEq K] {knd : KeyKind PG w K} {h : Heap} {g : Array GenState} {d : Drawn} {t : Nat} {os : OsState} {Q : Value → Shared → Prop} {l l2 : Addr} {items items2 : Array Value} {mk : K → Tok → Value} {ys2 : List K}
    (W : Wd w mg mb h) (hdp : A.depth < 600) (hh : A.handled = none) (hl : h.IsList l items) (hl2 : h.IsList l2 items2) (hsz : items2.size = ys2.length)
    (hi : ∀ (i : Nat) (v : Value), items2[i]? = some v → ∃ k t, ys2[i]? = some k ∧ v = mk k t) (his : ∀ k t, knd.is k (mk k t) = true) (hsc : ∀ k t, (mk k t).scannable = true) (hb : ys2.length < 1000)
    (hQ : ∀ h' t' X dx M It a, Ext h h' → h.get? X = none → h.get? It = none → Ff PG w knd X dx M It l a items (took ys2 ys2.length) 0 h' → Q (.ref X) ⟨h', g, d, t', os⟩) :
    wpAny (model PG w) A (call (.ref 154) [.ref l, .ref l2]) Q E ⟨h, g, d, t, os⟩ := by
  refine enter W (by k_is) (by k_is) (by omega) (by rfl) (locs rfl) (fun h₁ t₁ F => ?_) rfl rfl rfl (by decide)
  have F₁ := FS.of_fr F
  have W₁ := W.keeps F.keep
  repeat (walk_at "e")
  refine c_fn (a := 108) W₁ (by k_is) (by k_is) ?_
  refine spliced_more ?_ (by rfl)
  refine Attribute_any_ ?_
  refine c_type1 W₁ (by k_is) (by rfl) ?_
  repeat (walk_at "e")
  refine call_setL (knd := knd) (mk := mk) hh (isL_ext hl2 F.keep) hsz hi his hsc hb (fun h₂ t₂ n k₂ hS => ?_)
  have hS' := hS
  obtain ⟨o, es, ep, tb, ho, ⟨hc1, hc2, hc3⟩, hdt, _⟩ := hS'
  obtain ⟨oc, od, odt, osl⟩ := o
  dsimp only at hc1 hc2 hc3 hdt
  subst hc1 hc2 hdt
  refine bound_attr ho ?_
  have kM : Ext h₂ (h₂.push (boundObj h₁.objs.size)) := ext_push _
  have F₃ := (F₁.up k₂.up).up kM.up
  have kk : Ext h₁ (h₂.push (boundObj h₁.objs.size)) := Ext.trans k₂ kM
  have W₃ := W₁.keeps kk
  repeat (walk_at "e")
  refine ⟨W₃.X, ?_⟩
  generalize hh3 : h₂.push (boundObj h₁.objs.size) = h₃ at kM F₃ kk W₃ ⊢
  have hM : h₃.get? h₂.objs.size = some (boundObj h₁.objs.size) := by rw [← hh3]; exact Heap.get?_push_size _ rfl
  refine wpAny_call (make_core (makes_of W₃.X (by k_is)) (looks_findIn W₃.X (r := some (.ref 90)) (by k_is)) (fun self => bind_fn W₃.X self (by k_is)) (.inl rfl) ?_)
  have k₄ : Ext h₃ ((h₃.push emptyDict).push (instObj 108 h₃.objs.size)) := fun b o e => Heap.get?_push_of_some _ (Heap.get?_push_of_some _ e)
  have hX : h₃.get? (h₃.objs.size + 1) = none := none_ge (Nat.le_succ _)
  have none₁ : ∀ {b}, h₃.get? b = none → h₁.get? b = none := fun {b} q => by
    rcases get_none_or h₁ b with z | ⟨o, z⟩
    · exact z
    · rw [kk _ _ z] at q; cases q
  have IX : InstIs ((h₃.push emptyDict).push (instObj 108 h₃.objs.size)) (h₃.objs.size + 1) h₃.objs.size 108 #[] := by
    refine ⟨?_, ?_⟩
    · have := Heap.get?_push_size (h₃.push emptyDict) (o := instObj 108 h₃.objs.size) rfl
      rw [Heap.size_push] at this; exact this
    · exact Heap.get?_push_of_some _ (Heap.get?_push_size h₃ rfl)
  refine ffinit_spec (h₀ := h₁) W₁ (Ext.trans kk k₄) (none₁ hX) ?_ IX (isL_ext hl (Ext.trans F.keep (Ext.trans kk k₄))) (fun h₅ t₅ It k₅ hIt hit I₅ => ?_)
  · show A.depth + 1 + 1 < 700; omega
  have k35 : Ext h₃ h₅ := fun b o e => k₅ b o (by rintro rfl; rw [hX] at e; cases e) (k₄ b o e)
  have up0 : ∀ {b}, h₁.get? b = none → h.get? b = none := fun {b} q => by
    rcases get_none_or h b with z | ⟨o, z⟩
    · exact z
    · rw [F.keep _ _ z] at q; cases q
  have k05 : Ext h h₅ := Ext.trans F.keep (Ext.trans kk k35)
  refine ⟨rfl, ?_⟩
  refine hQ h₅ t₅ (h₃.objs.size + 1) h₃.objs.size h₂.objs.size It h₁.objs.size k05 (up0 (none₁ hX)) ?_ ⟨I₅, hit, isL_ext hl k05, k35 _ _ hM, n, SetAt_keeps hS fun o e => k35 _ _ (kM _ _ e)⟩
  rcases get_none_or h It with z | ⟨o, z⟩
  · exact z
  · rw [k₄ _ _ (kk _ _ (F.keep _ _ z))] at hIt; cases hIt
theorem filt_skip (q : Nat → Bool) (j : Nat) : ∀ (n : Nat), (∀ m, j ≤ m → m < j + n → q m = false) → (List.range (j + n)).filter q = (List.range j).filter q
  | 0, _ => rfl
  | n + 1, h => by
    rw [show j + (n + 1) = (j + n) + 1 from rfl, List.range_succ, List.filter_append, filt_skip q j n fun m h1 h2 => h m h1 (by omega)]
    have : q (j + n) = false := h _ (by omega) (by omega)
    simp [this]
theorem filt_prefix (q : Nat → Bool) (j : Nat) : ∀ (n : Nat), ∃ r, (List.range (j + n)).filter q = (List.range j).filter q ++ r
  | 0 => ⟨[], by simp⟩
  | n + 1 => by
    obtain ⟨r, e⟩ := filt_prefix q j n
    rw [show j + (n + 1) = (j + n) + 1 from rfl, List.range_succ, List.filter_append, e]
    exact ⟨r ++ [j + n].filter q, by rw [List.append_assoc]⟩
/-- the next one told -/
theorem filt_next (q : Nat → Bool) {j j' N i : Nat} (hi : ((List.range j).filter q).length = i) (hj : j ≤ j') (hs : ∀ m, j ≤ m → m < j' → q m = false) (hq : q j' = true) (hN : j' < N) :
    ((List.range (j' + 1)).filter q).length = i + 1 ∧ ((List.range N).filter q)[i]? = some j' := by
  have e1 : (List.range j').filter q = (List.range j).filter q := by
    have := filt_skip q j (j' - j) fun m h1 h2 => hs m h1 (by omega)
    rwa [show j + (j' - j) = j' by omega] at this
  have e2 : (List.range (j' + 1)).filter q = (List.range j).filter q ++ [j'] := by
    rw [List.range_succ, List.filter_append, e1]; simp [hq]
  refine ⟨by rw [e2, List.length_append, hi]; rfl, ?_⟩
  obtain ⟨r, e3⟩ := filt_prefix q (j' + 1) (N - (j' + 1))
  rw [show j' + 1 + (N - (j' + 1)) = N by omega] at e3
  rw [e3, e2, List.append_assoc, List.getElem?_append_right (by omega), hi]
  simp
-- the filterfalse as an iterator
set_option maxRecDepth 100000 in
set_option maxHeartbeats 1000000 in
theorem self2_spec {w mg mb A E} {h : Heap} {g : Array GenState} {d : Drawn} {t : Nat} {os : OsState} {Q : Value → Shared → Prop} {X : Addr}
    (W : Wd w mg mb h) (hd : A.depth < 800) (x : ∀ h' t', Ext h h' → Q (.ref X) ⟨h', g, d, t', os⟩) :
    wpAny (model PG w) A (call (.ref 97) [.ref X]) Q E ⟨h, g, d, t, os⟩ := by
  refine enter W (by k_is) (by k_is) (by omega) (by rfl) (locs rfl) (fun h₁ t₁ F => ?_) rfl rfl rfl (by decide)
  repeat (walk_at "e")
  exact x _ _ F.keep
theorem ff_own {w mg mb A} {K : Type} [DecidableEq K] {knd : KeyKind PG w K} {hB : Heap} {fs : List Addr} {X dx M It l a : Nat} {items : Array Value} {S : K → Bool} {mk : K → Tok → Value} {ys : List K} {q : Nat → Bool}
    (W₀ : Wd w mg mb hB) (hIf : It ∉ fs) (hIB : hB.get? It = none) (hdp : A.depth < 500) (hu : A.units < 4000) (hh : A.handled = none)
    (hi : ∀ (i : Nat) (v : Value), items[i]? = some v → ∃ k t, ys[i]? = some k ∧ v = mk k t) (his : ∀ k t, knd.is k (mk k t) = true) (hsc : ∀ k t, (mk k t).scannable = true)
    (hq : ∀ (m : Nat) (y : K), ys[m]? = some y → q m = !S y) (hsz : items.size = ys.length) :
    Own PG w A (hd.heap_39 w.params) X 108 [It] fs (fun a b => b = a) (fun a b => b = a) ((List.range items.size).filter q).length (fun i v => ∃ m, ((List.range items.size).filter q)[i]? = some m ∧ items[m]? = some v)
      (fun i s => (∃ j, Ff PG w knd X dx M It l a items S j s.heap ∧ j ≤ items.size ∧ ((List.range j).filter q).length = i) ∧ Ext hB s.heap ∧ Stk A fs hB s.heap) := by
  refine ⟨fun a => rfl, fun a b c x y => y.trans x, fun a b c x y => y.trans x, fun i s st => ?_, fun i s st => ?_, fun i s st => ?_, fun s Q E st hQ => ?_, fun i s Q E hlt st hQ => ?_, fun s Q E st hQ => ?_⟩
  · obtain ⟨⟨j, x, _⟩, kB, _⟩ := st
    exact x.inst.at_.type
  · obtain ⟨⟨j, x, _⟩, kB, _⟩ := st
    exact x.inst.at_.type.andThen (looks_findIn (W₀.keeps kB).X (by k_is))
  · obtain ⟨⟨j, x, _⟩, kB, _⟩ := st
    exact x.inst.at_.type.andThen (looks_findIn (W₀.keeps kB).X (by k_is))
  · obtain ⟨⟨j, x, hj, hl⟩, kB, Sk⟩ := st
    have W := W₀.keeps kB
    refine own_pyIter W.X x.inst.at_ (by k_is) (by k_is) ?_
    obtain ⟨h, g, d, t, os⟩ := s
    refine self2_spec W (by omega) (fun h' t' k => ?_)
    have x' := x.keeps k
    have W' := W.keeps k
    refine wpAny_bind (x'.inst.at_.type.here ((looks_findIn W'.X (r := some (.ref 104)) (by k_is)).here ?_))
    exact ⟨by simp, hQ _ ⟨⟨j, x', hj, hl⟩, Ext.trans kB k, Sk.keeps k.up⟩ ⟨fun b o _ e => k b o e, rfl, rfl, rfl⟩⟩
  · obtain ⟨⟨j, x, hj, hl⟩, kB, Sk⟩ := st
    have W := W₀.keeps kB
    refine own_pyNext W.X x.inst.at_ (by k_is) (by k_is) ?_
    obtain ⟨h, g, d, t, os⟩ := s
    refine ffnext_spec W₀ kB Sk hIf hIB hdp hu hh hi his hsc x hj (fun j' v y h' t' h1 hsk hy hSy hv x' hk => ?_) (fun e base l h' t' hsk hk hup hf => ?_)
    · have hj' : j' < items.size := (Array.getElem?_eq_some_iff.mp hv).1
      have fn := filt_next q (N := items.size) hl h1 (fun m a1 a2 => by
        obtain ⟨y', hy'⟩ : ∃ y', ys[m]? = some y' := ⟨_, List.getElem?_eq_getElem (by omega)⟩
        rw [hq m y' hy', hsk m a1 a2 y' hy']; rfl) (by rw [hq j' y hy, hSy]; rfl) hj'
      refine hQ v _ ⟨j', fn.2, hv⟩ ⟨⟨j' + 1, x', hj', fn.1⟩, fun b o e => hk b o (by rintro rfl; rw [hIB] at e; cases e) (kB b o e), ⟨Sk.fr, fun b hb => ?_, Sk.new⟩⟩ ⟨fun b o hb e => hk b o (by simpa using hb) e, rfl, rfl, rfl⟩
      obtain ⟨o, ho, r⟩ := Sk.ok b hb
      exact ⟨o, hk b o (fun z => hIf (z ▸ hb)) ho, r⟩
    · exfalso
      have e2 := filt_skip q j (items.size - j) fun m a1 a2 => by
        obtain ⟨y', hy'⟩ : ∃ y', ys[m]? = some y' := ⟨_, List.getElem?_eq_getElem (by omega)⟩
        rw [hq m y' hy', hsk m a1 y' hy' (by omega)]; rfl
      rw [show j + (items.size - j) = items.size by omega] at e2
      rw [e2, hl] at hlt
      exact Nat.lt_irrefl _ hlt
  · obtain ⟨⟨j, x, hj, hl⟩, kB, Sk⟩ := st
    have W := W₀.keeps kB
    refine own_pyNext W.X x.inst.at_ (by k_is) (by k_is) ?_
    obtain ⟨h, g, d, t, os⟩ := s
    refine ffnext_spec W₀ kB Sk hIf hIB hdp hu hh hi his hsc x hj (fun j' v y h' t' h1 hsk hy hSy hv x' hk => ?_) (fun e base l h' t' hsk hk hup hf => ?_)
    · exfalso
      have hj' : j' < items.size := (Array.getElem?_eq_some_iff.mp hv).1
      have fn := filt_next q (N := items.size) hl h1 (fun m a1 a2 => by
        obtain ⟨y', hy'⟩ : ∃ y', ys[m]? = some y' := ⟨_, List.getElem?_eq_getElem (by omega)⟩
        rw [hq m y' hy', hsk m a1 a2 y' hy']; rfl) (by rw [hq j' y hy, hSy]; rfl) hj'
      have := fn.2
      simp at this
    · refine fly_stop hf ?_
      rw [if_pos rfl]
      exact hQ _ ⟨fun b o hb hf' e => hk b o (by simpa using hb) hf' e, hup, rfl, rfl, rfl⟩
theorem filt_list {K : Type} (p : K → Bool) (ys : List K) : ((List.range ys.length).filter (fun m => (ys[m]?.map p).getD false)).map (fun m => ys[m]?) = (ys.filter p).map some := by
  have e : ys.map some = (List.range ys.length).map (fun m => ys[m]?) := by
    apply List.ext_getElem?
    intro i
    by_cases h : i < ys.length
    · simp [h]
    · simp [Nat.le_of_not_lt h, List.getElem?_eq_none]
  have h1 := List.filter_map (f := fun m => ys[m]?) (l := List.range ys.length) (p := fun (o : Option K) => (o.map p).getD false)
  have h2 := List.filter_map (f := (some : K → Option K)) (l := ys) (p := fun (o : Option K) => (o.map p).getD false)
  rw [← e, h2] at h1
  simpa [Function.comp_def] using h1.symm
theorem filt_item {K : Type} (p : K → Bool) (ys : List K) {i m : Nat} (h : ((List.range ys.length).filter (fun m => (ys[m]?.map p).getD false))[i]? = some m) : (ys.filter p)[i]? = ys[m]? := by
  have := congrArg (fun l => l[i]?) (filt_list p ys)
  simp only [List.getElem?_map, h, Option.map_some] at this
  cases e : (ys.filter p)[i]? with
  | none => rw [e] at this; simp at this
  | some y => rw [e] at this; simpa using this.symm
theorem filt_len {K : Type} (p : K → Bool) (ys : List K) : ((List.range ys.length).filter (fun m => (ys[m]?.map p).getD false)).length = (ys.filter p).length := by
  have := congrArg List.length (filt_list p ys)
  simpa using this
theorem took_all {K : Type} [DecidableEq K] (ys : List K) : took ys ys.length = fun k => decide (k ∈ ys) := by
  funext k
  unfold took
  rw [List.take_length, Bool.eq_iff_iff]
  simp only [List.any_eq_true, decide_eq_true_eq]
  exact ⟨fun ⟨y, h, e⟩ => e ▸ h, fun h => ⟨k, h, rfl⟩⟩
theorem ldiff_spec {w mg mb A E} {K : Type} [DecidableEq K] {knd : KeyKind PG w K} {hB h : Heap} {g : Array GenState} {d : Drawn} {t : Nat} {os : OsState} {Q : Value → Shared → Prop} {fs : List Addr} {l l2 : Addr} {items items2 : Array Value} {mk : K → Tok → Value} {ys ys2 : List K}
    (W₀ : Wd w mg mb hB) (kB : Ext hB h) (Sk : Stk A fs hB h) (hdp : A.depth < 480) (hu : A.units < 3900) (hh : A.handled = none) (hl : h.IsList l items) (hl2 : h.IsList l2 items2) (hsz : items.size = ys.length) (hsz2 : items2.size = ys2.length)
    (hi : ∀ (i : Nat) (v : Value), items[i]? = some v → ∃ k t, ys[i]? = some k ∧ v = mk k t) (hi2 : ∀ (i : Nat) (v : Value), items2[i]? = some v → ∃ k t, ys2[i]? = some k ∧ v = mk k t)
    (his : ∀ k t, knd.is k (mk k t) = true) (hsc : ∀ k t, (mk k t).scannable = true) (hb : ys.length < 1000) (hb2 : ys2.length < 1000)
    (hQ : ∀ h' t' S vs c, Stays fs h h' → h.get? S = none → h'.get? S = some { cls := .type "list", data := .seq vs c } → vs.size = (ys.filter fun k => !decide (k ∈ ys2)).length →
      (∀ (i : Nat) (v : Value), vs[i]? = some v → ∃ k t, (ys.filter fun k => !decide (k ∈ ys2))[i]? = some k ∧ v = mk k t) → Q (.ref S) ⟨h', g, d, t', os⟩) :
    wpAny (model PG w) A (call (.ref 154) [.ref l, .ref l2]) (fun v s => wpAny (model PG w) A (call (.type "list") [v]) Q E s) E ⟨h, g, d, t, os⟩ := by
  refine diff_spec (knd := knd) (mk := mk) (W₀.keeps kB) (by omega) hh hl hl2 hsz2 hi2 his hsc hb2 (fun h' t' X dx M It a k hX hIt x => ?_)
  rw [took_all] at x
  have hIB : hB.get? It = none := by
    rcases get_none_or hB It with z | ⟨o, z⟩
    · exact z
    · rw [kB _ _ z] at hIt; cases hIt
  have hIf : It ∉ fs := Sk.ok.new hIt
  have S' := Sk.keeps k.up
  have hnew : h'.get? h'.objs.size = none := none_ge (Nat.le_refl _)
  have nS : ∀ {b o}, h'.get? b = some o → b ≠ h'.objs.size := by rintro b o e rfl; rw [hnew] at e; cases e
  have hq : ∀ (m : Nat) (y : K), ys[m]? = some y → (fun m => (ys[m]?.map fun k => !decide (k ∈ ys2)).getD false) m = !(decide (y ∈ ys2)) := fun m y e => by simp [e]
  have W := ff_own (A := A.in1.in1) (knd := knd) (fs := fs) (X := X) (dx := dx) (M := M) (It := It) (l := l) (a := a) (items := items) (S := fun k => decide (k ∈ ys2)) (mk := mk) (ys := ys) (q := fun m => (ys[m]?.map fun k => !decide (k ∈ ys2)).getD false)
    W₀ hIf hIB (by show A.depth < 500; omega) (by show A.units + 1 + 1 < 4000; omega) hh hi his hsc hq hsz
  rw [hsz] at W
  obtain ⟨oI, hoI, _⟩ := x.iter
  obtain ⟨ol, hol, _⟩ := x.list
  obtain ⟨ns, os', _, _, _, hos, _⟩ := x.set
  refine list_own (s := ⟨h', g, d, t', os⟩) W (by rw [filt_len]; exact Nat.le_trans (List.length_filter_le _ _) (by omega)) ⟨_, x.inst.obj⟩ ?_ S'.ok ?_ ?_ ?_ ?_
  · intro b hb
    rw [List.mem_singleton.mp hb]; exact ⟨_, hoI⟩
  · intro b hb
    rw [List.mem_singleton.mp hb]; exact hIf
  · have kp : Ext h' (h'.push { cls := .type "list", data := .seq #[] }) := ext_push _
    exact ⟨⟨0, x.keeps kp, Nat.zero_le _, rfl⟩, Ext.trans kB (Ext.trans k kp), ⟨Sk.fr, S'.ok.up kp.up, Sk.new⟩⟩
  · rintro i s₁ h₂ ⟨⟨j, x', hj, hlj⟩, kB', S₁⟩ hk
    refine ⟨⟨j, ⟨x'.inst.keeps (fun o e => hk _ o (nS x.inst.obj) e) (fun o e => hk _ o (nS x.inst.dict) e), x'.iter.at fun o e => hk _ o (nS hoI) e, x'.list.at fun o e => hk _ o (nS hol) e, hk _ _ (nS x.bnd) x'.bnd, let ⟨n, z⟩ := x'.set; ⟨n, SetAt_keeps z fun o e => hk _ o (nS hos) e⟩⟩, hj, hlj⟩,
      fun b o e => hk b o (nS (k _ _ (kB _ _ e))) (kB' b o e), ⟨Sk.fr, fun b hb => ?_, Sk.new⟩⟩
    obtain ⟨o, ho, r⟩ := S₁.ok b hb
    obtain ⟨o', ho', _⟩ := S'.ok b hb
    exact ⟨o, hk b o (nS ho') ho, r⟩
  · intro s' acc c hm hS hacc
    obtain ⟨h₃, g₃, d₃, t₃, os₃⟩ := s'
    obtain ⟨m1, m2, m3, m4, m5⟩ := hm
    dsimp only at m1 m2 m3 m4 m5 hS
    subst m3 m4 m5
    have hS0 : New h h'.objs.size := new_top k
    have ex : ∀ b o, b ∉ fs → h.get? b = some o → h₃.get? b = some o := fun b o hb e => by
      have n1 : b ≠ It := by rintro rfl; rw [hIt] at e; cases e
      exact m1 b o (by simp [n1]; exact nS (k _ _ e)) hb (k _ _ e)
    refine hQ h₃ t₃ _ acc c ⟨ex, fun b o e => ?_⟩ hS0 hS ?_ ?_
    · by_cases hb : b ∈ fs
      · exact m2 b hb o (k _ _ e)
      · exact upr (ex b o hb e)
    · rw [hacc.1, filt_len]
    · intro i v hv
      obtain ⟨m, hm1, hm2⟩ := hacc.2 i v hv
      obtain ⟨y, ty, hy, rfl⟩ := hi m v hm2
      exact ⟨y, ty, by rw [filt_item _ _ hm1, hy], rfl⟩
theorem isall_map {P : Addr → Prop} {h : Heap} {K : Type} {mk : K → Tok → Value} {mkD : K → D} (hm : ∀ (P : Addr → Prop) (h : Heap) k v, Is P h (mkD k) v ↔ ∃ t, v = mk k t) : ∀ (ys : List K) (vs : List Value), vs.length = ys.length → (∀ (j : Nat) (v : Value), vs[j]? = some v → ∃ k t, ys[j]? = some k ∧ v = mk k t) → IsAll P h (ys.map mkD) vs
  | [], vs, hl, _ => by
    have : vs = [] := List.length_eq_zero_iff.mp hl
    subst this; exact .nil
  | y :: ys, vs, hl, hv => by
    cases vs with
    | nil => simp at hl
    | cons v vs =>
      obtain ⟨k, t, e, rfl⟩ := hv 0 v rfl
      simp at e; subst e
      simp only [List.map_cons, IsAll]
      refine ⟨_, _, rfl, (hm _ _ _ _).mpr ⟨_, rfl⟩, isall_map hm ys vs (by simpa using hl) fun j v hj => ?_⟩
      obtain ⟨k, t, e, r⟩ := hv (j + 1) v (by simpa using hj)
      exact ⟨k, t, by simpa using e, r⟩
theorem is_keys {P : Addr → Prop} {h : Heap} {K : Type} {mk : K → Tok → Value} {mkD : K → D} (hm : ∀ (P : Addr → Prop) (h : Heap) k v, Is P h (mkD k) v ↔ ∃ t, v = mk k t) {ys : List K} {v : Value} (x : Is P h (.list (ys.map mkD)) v) :
    ∃ l items, v = .ref l ∧ h.IsList l items ∧ items.size = ys.length ∧ ∀ (j : Nat) (v : Value), items[j]? = some v → ∃ k t, ys[j]? = some k ∧ v = mk k t := by
  simp only [Is] at x
  obtain ⟨a, vs, n, e, p, hl, y⟩ := x
  refine ⟨a, vs.toArray, e, ⟨_, hl, rfl, n, rfl⟩, by simpa using y.length, fun j v hj => ?_⟩
  obtain ⟨d, hd, hi⟩ := y.get' j v (by simpa using hj)
  rw [List.getElem?_map] at hd
  cases e : ys[j]? with
  | none => rw [e] at hd; simp at hd
  | some k =>
    rw [e] at hd; simp at hd; subst hd
    obtain ⟨t, r⟩ := (hm _ _ _ _).mp hi
    exact ⟨k, t, rfl, r⟩
theorem ldiffD {w mg mb A E} {K : Type} [DecidableEq K] {knd : KeyKind PG w K} {hB h : Heap} {g : Array GenState} {d : Drawn} {t : Nat} {os : OsState} {Q : Value → Shared → Prop} {fs : List Addr} {v1 v2 : Value} {mk : K → Tok → Value} {mkD : K → D} {ys ys2 : List K} {P1 P2 : Addr → Prop}
    (hm : ∀ (P : Addr → Prop) (h : Heap) k v, Is P h (mkD k) v ↔ ∃ t, v = mk k t) (his : ∀ k t, knd.is k (mk k t) = true) (hsc : ∀ k t, (mk k t).scannable = true)
    (W₀ : Wd w mg mb hB) (kB : Ext hB h) (Sk : Stk A fs hB h) (hdp : A.depth < 480) (hu : A.units < 3900) (hh : A.handled = none) (hl : Is P1 h (.list (ys.map mkD)) v1) (hl2 : Is P2 h (.list (ys2.map mkD)) v2) (hb : ys.length < 1000) (hb2 : ys2.length < 1000)
    (hQ : ∀ h' t' v, Stays fs h h' → Is (New h) h' (.list ((ys.filter fun k => !decide (k ∈ ys2)).map mkD)) v → Q v ⟨h', g, d, t', os⟩) :
    wpAny (model PG w) A (call (.ref 154) [v1, v2]) (fun v s => wpAny (model PG w) A (call (.type "list") [v]) Q E s) E ⟨h, g, d, t, os⟩ := by
  obtain ⟨l, items, rfl, hL, hs, hi⟩ := is_keys hm hl
  obtain ⟨l2, items2, rfl, hL2, hs2, hi2⟩ := is_keys hm hl2
  refine ldiff_spec (knd := knd) (mk := mk) W₀ kB Sk hdp hu hh hL hL2 hs hs2 hi hi2 his hsc hb hb2 (fun h' t' S vs c k hS hS' hsz hv => hQ h' t' _ k ?_)
  simp only [Is]
  exact ⟨S, vs.toList, c, rfl, hS, by simpa using hS', isall_map hm _ _ (by simpa using hsz) fun j v hj => hv j v (by simpa using hj)⟩
theorem ldiffS {w mg mb A E} {hB h : Heap} {g : Array GenState} {d : Drawn} {t : Nat} {os : OsState} {Q : Value → Shared → Prop} {fs : List Addr} {v1 v2 : Value} {ys ys2 : List Str} {P1 P2 : Addr → Prop}
    (W₀ : Wd w mg mb hB) (kB : Ext hB h) (Sk : Stk A fs hB h) (hdp : A.depth < 480) (hu : A.units < 3900) (hh : A.handled = none) (hl : Is P1 h (.list (ys.map .str)) v1) (hl2 : Is P2 h (.list (ys2.map .str)) v2) (hb : ys.length < 1000) (hb2 : ys2.length < 1000)
    (hQ : ∀ h' t' v, Stays fs h h' → Is (New h) h' (.list ((ys.filter fun k => !decide (k ∈ ys2)).map .str)) v → Q v ⟨h', g, d, t', os⟩) :
    wpAny (model PG w) A (call (.ref 154) [v1, v2]) (fun v s => wpAny (model PG w) A (call (.type "list") [v]) Q E s) E ⟨h, g, d, t, os⟩ :=
  ldiffD (knd := strKind PG w) (mk := .str) (fun _ _ _ _ => by simp only [Is]) (fun k t => strKind_is _ _ _ _) (fun _ _ => rfl) W₀ kB Sk hdp hu hh hl hl2 hb hb2 hQ
theorem ldiffI {w mg mb A E} {hB h : Heap} {g : Array GenState} {d : Drawn} {t : Nat} {os : OsState} {Q : Value → Shared → Prop} {fs : List Addr} {v1 v2 : Value} {ys ys2 : List Int} {P1 P2 : Addr → Prop}
    (W₀ : Wd w mg mb hB) (kB : Ext hB h) (Sk : Stk A fs hB h) (hdp : A.depth < 480) (hu : A.units < 3900) (hh : A.handled = none) (hl : Is P1 h (.list (ys.map .int)) v1) (hl2 : Is P2 h (.list (ys2.map .int)) v2) (hb : ys.length < 1000) (hb2 : ys2.length < 1000)
    (hQ : ∀ h' t' v, Stays fs h h' → Is (New h) h' (.list ((ys.filter fun k => !decide (k ∈ ys2)).map .int)) v → Q v ⟨h', g, d, t', os⟩) :
    wpAny (model PG w) A (call (.ref 154) [v1, v2]) (fun v s => wpAny (model PG w) A (call (.type "list") [v]) Q E s) E ⟨h, g, d, t, os⟩ :=
  ldiffD (knd := intKind PG w) (mk := .int) (fun _ _ _ _ => by simp only [Is]) (fun k t => intKind_is _ _ _ _) (fun _ _ => rfl) W₀ kB Sk hdp hu hh hl hl2 hb hb2 hQ
-- enumerate over a tuple
section
open Builtin
variable {prog : Program} {w : World} {A : Around} {E : Value → Shared → Prop} {s : Shared}
theorem nextT_item {it T : Addr} {i : Nat} {items : Array Value} {x : Value} {Q : Value → Shared → Prop} (hit : s.heap.IsTupleIter it T i) (ht : s.heap.IsTuple T items) (hx : items[i]? = some x)
    (q : ∀ h', h'.IsTupleIter it T (i + 1) → Heap.SameBut it s.heap h' → Q x { s with heap := h' }) : wpAny (model prog w) A (Builtin.SmallTypes.nextOf (.ref it)) Q E s := by
  obtain ⟨o, ho, hc, hd⟩ := id hit
  obtain ⟨oT, hoT, _, nT, hdT⟩ := ht
  unfold Builtin.SmallTypes.nextOf
  refine wpAny_bind (wpAny_callSpecial?_slot (name := Str.ofString "__next__") hit.typeIs F.slot_tuple_iterator_next
    (wpAny_call_entry F.slot_tuple_iterator_next hit.typeIs F.entry_tuple_iterator_next ?_ (F.args_tuple_iterator_next_1 _)))
  show wpAny _ _ (field (.ref it) 0 >>= _) _ _ s
  refine wpAny_bind (wpAny_field ho hd (x := .ref T) rfl ?_)
  show wpAny _ _ (if (Value.ref T == Value.none) = true then _ else _) _ _ s
  rw [if_neg (show ¬ ((Value.ref T == Value.none) = true) from Bool.false_ne_true)]
  show wpAny _ _ (field (.ref it) 1 >>= _) _ _ s
  refine wpAny_bind (wpAny_field ho hd (x := .int i 0) rfl ?_)
  show wpAny _ _ (seqItems? (.ref T) >>= _) _ _ s
  refine wpAny_bind (wpAny_seqItems hoT hdT ?_)
  simp only [Int.toNat_natCast, hx]
  refine wpAny_bind (wpAny_setField ho hd (by simp) (wpAny_pure ⟨x, rfl, wpAny_pure (q _ ?_ (Heap.SameBut.update ..))⟩))
  exact ⟨_, Heap.get?_update_self _ ho (Obj.isFreed_of_fields (Obj.data_mapFields hd _)), (Obj.cls_mapFields ..).trans hc, by rw [Obj.data_mapFields hd]; simp [rawInt]⟩
theorem nextT_end {it T : Addr} {i : Nat} {items : Array Value} {Q : Value → Shared → Prop} (hh : A.handled = none) (hit : s.heap.IsTupleIter it T i) (ht : s.heap.IsTuple T items) (hx : items[i]? = none)
    (q : ∀ h' e, Heap.ExtBut it s.heap h' → (∃ o, h'.get? e = some o ∧ o.cls = .type "StopIteration") → E (.ref e) { s with heap := h' }) : wpAny (model prog w) A (Builtin.SmallTypes.nextOf (.ref it)) Q E s := by
  obtain ⟨o, ho, hc, hd⟩ := id hit
  obtain ⟨oT, hoT, _, nT, hdT⟩ := ht
  unfold Builtin.SmallTypes.nextOf
  refine wpAny_bind (wpAny_callSpecial?_slot (name := Str.ofString "__next__") hit.typeIs F.slot_tuple_iterator_next
    (wpAny_call_entry F.slot_tuple_iterator_next hit.typeIs F.entry_tuple_iterator_next ?_ (F.args_tuple_iterator_next_1 _)))
  show wpAny _ _ (field (.ref it) 0 >>= _) _ _ s
  refine wpAny_bind (wpAny_field ho hd (x := .ref T) rfl ?_)
  show wpAny _ _ (if (Value.ref T == Value.none) = true then _ else _) _ _ s
  rw [if_neg (show ¬ ((Value.ref T == Value.none) = true) from Bool.false_ne_true)]
  show wpAny _ _ (field (.ref it) 1 >>= _) _ _ s
  refine wpAny_bind (wpAny_field ho hd (x := .int i 0) rfl ?_)
  show wpAny _ _ (seqItems? (.ref T) >>= _) _ _ s
  refine wpAny_bind (wpAny_seqItems hoT hdT ?_)
  simp only [Int.toNat_natCast, hx]
  refine wpAny_bind (wpAny_rule (wpAny_bind (wpAny_setField ho hd (by simp) ?_)))
  show wpAny _ _ (newExc (.type "StopIteration") [] >>= _) _ _ _
  refine wpAny_bind ?_
  simp only [newExc, newTuple]
  refine wpAny_bind (wpAny_newObj_type ?_ (by size_fits))
  refine wpAny_bind (m := firstArgMember _ _) (wpAny_of_eq (a := Value.none) (by first | rfl | (simp only [firstArgMember]; rfl)) ?_)
  refine wpAny_newObj_type ?_ (by size_fits)
  simp only [raiseNew]
  refine wpAny_bind (wpAny_handled ?_)
  first | rw [show A.in1.handled = none from hh] | rw [hh]
  refine wpAny_bind (wpAny_pure (wpAny_throw ?_))
  exact q _ _ (((Heap.SameBut.update ..).extBut.push _).push _) ⟨_, Heap.get?_push_size _ rfl, rfl⟩
theorem drawsT (hh : A.handled = none) (it T : Addr) (hne : T ≠ it) (items : Array Value) :
    Draws prog w A it [it, T] items.size (fun i v => items[i]? = some v) (fun i h => h.IsTupleIter it T i ∧ h.IsTuple T items) where
  live := fun _ _ st => let ⟨o, ho, _⟩ := st.1; ⟨o, ho⟩
  frame := fun _ _ _ st hk => ⟨(let ⟨o, ho, r⟩ := st.1; ⟨o, hk it (by simp) o ho, r⟩), (let ⟨o, ho, r⟩ := st.2; ⟨o, hk T (by simp) o ho, r⟩)⟩
  item := fun i s Q E hi st hQ => by
    refine nextT_item st.1 st.2 (x := items[i]) (by simp [hi]) fun h' hit' hs' => ?_
    exact hQ _ h' s.toks (by simp [hi]) ⟨hit', st.2.extBut hs'.extBut hne⟩ hs'
  done := fun s Q E st hE => nextT_end hh st.1 st.2 (by simp) hE
theorem meets_enumT (l : Addr) (items : Array Value) (n : Nat) (dct : Option Addr) (sl : Array (Option Value)) :
    Meets (Builtin.«enumerate.__new__» ⟨[.type "enumerate", .ref l], []⟩) (fun _ R s => s.heap.get? l = some { cls := .type "tuple", dict := dct, data := .seq items n, slots := sl } ∧
      R (.ok (.ret (.ref (s.heap.push { cls := .type "tuple_iterator", data := .fields #[.ref l, .int 0 0] }).objs.size)))
        { s with heap := (s.heap.push { cls := .type "tuple_iterator", data := .fields #[.ref l, .int 0 0] }).push { cls := .type "enumerate", data := .fields #[.none, .bool false, .ref s.heap.objs.size, rawInt 0, .none, .none] } }) :=
  .of_wp fun prog w A R s h => by
    obtain ⟨hp, g, d, tk, os⟩ := s; obtain ⟨hl, h⟩ := h
    have hsub := sub_enumerate
    have hL : Heap.IsTuple (Shared.heap ⟨hp, g, d, tk, os⟩) l items := ⟨_, hl, rfl, n, rfl⟩
    wp_walk using AutoSeq1.wpAny_loadPart' hl
    refine wpAny_stack_any fun st => wpAny_pure ?_
    split
    · rename_i c _ _ _ _ _
      cases (c == Value.type "enumerate")
      · wp_walk using AutoSeq1.wpAny_loadPart' hl, wpAny_pyIter_tuple hL
        exact ⟨_, rfl, h⟩
      · wp_walk using AutoSeq1.wpAny_loadPart' hl, wpAny_pyIter_tuple hL
        exact ⟨_, rfl, h⟩
    · wp_walk using AutoSeq1.wpAny_loadPart' hl, wpAny_pyIter_tuple hL
      exact ⟨_, rfl, h⟩
theorem call_enumT {l : Addr} {items : Array Value} {Q : Value → Shared → Prop} (hL : IsTup s.heap l items)
    (q : ∀ h', IsEnum h' (s.heap.objs.size + 1) s.heap.objs.size 0 .none → h'.IsTupleIter s.heap.objs.size l 0 → Ext s.heap h' → Q (.ref (s.heap.objs.size + 1)) { s with heap := h' }) :
    wpAny (model prog w) A (call (.type "enumerate") [.ref l]) Q E s := by
  obtain ⟨⟨c, dct, dt, sl⟩, hl, hc, n, hd⟩ := hL
  replace hc : c = .type "tuple" := hc
  replace hd : dt = .seq items n := hd
  subst hc hd
  refine callType_new F.called_enumerate (by decide) (F.typeCall_enumerate_1 _) (F.newCall_enumerate_1 _) (fun obj => F.args_object_init_2 obj _) F.entry_enumerate_new (meets_enumT l items n dct sl) ⟨hl, ?_⟩
  have hz : (s.heap.push { cls := .type "tuple_iterator", data := .fields #[.ref l, .int 0 0] }).objs.size = s.heap.objs.size + 1 := Heap.size_push ..
  show _ ∧ _
  rw [hz]
  have he : IsEnum ((s.heap.push { cls := .type "tuple_iterator", data := .fields #[.ref l, .int 0 0] }).push
      { cls := .type "enumerate", data := .fields #[.none, .bool false, .ref s.heap.objs.size, rawInt 0, .none, .none] }) (s.heap.objs.size + 1) s.heap.objs.size 0 .none := by
    have := Heap.get?_push_size (s.heap.push { cls := .type "tuple_iterator", data := .fields #[.ref l, .int 0 0] })
      (o := { cls := .type "enumerate", data := .fields #[.none, .bool false, .ref s.heap.objs.size, rawInt 0, .none, .none] }) rfl
    rw [hz] at this; exact this
  exact ⟨⟨_, he, rfl⟩, q _ he ⟨_, Heap.get?_push_of_some _ (Heap.get?_push_size _ rfl), rfl, rfl⟩ fun b o x => Heap.get?_push_of_some _ (Heap.get?_push_of_some _ x)⟩
end
section
variable {prog : Program} {w : World} {A : Around} {E : Value → Shared → Prop} {g : Array GenState} {d : Drawn} {os : OsState}
inductive EnumHit (prog : Program) (w : World) (A : Around) (env : Env) (xi xv : Str) (pi pv : Pos) (body : List Stmt) (g : Array GenState) (d : Drawn) (os : OsState) (Q : Flow → Shared → Prop) : Value → Shared → Prop where
  | mk (h : Heap) (t : Nat) (T it e : Addr) (items : Array Value) (J : Nat → Heap → Prop) (he : IsEnum h e it 0 .none) (hI : h.IsTupleIter it T 0) (hT : IsTup h T items) (hei : e ≠ it) (hTe : T ≠ e) (hTi : T ≠ it)
      (hJ : ∀ i h₁ h₂, J i h₁ → (∀ b o, b ≠ e → b ≠ it → h₁.get? b = some o → h₂.get? b = some o) → J i h₂) (h0 : J 0 h)
      (step : ∀ i v tk h₁ t₁, items[i]? = some v → J i h₁ → (∃ o, h₁.get? e = some o) → (∃ o, h₁.get? it = some o) → IsTup h₁ T items → wpAny (model prog w) A (assign (.Name xi pi) env (.int i tk)) (fun _ s₂ => wpAny (model prog w) A (assign (.Name xv pv) env v) (fun _ s₂ => wpAny (model prog w) A (execs body env) (fun f s₃ =>
        f = .next ∧ ∃ h₃ t₃, s₃ = ⟨h₃, g, d, t₃, os⟩ ∧ (∀ b o, b = e ∨ b = it ∨ b = T → h₁.get? b = some o → h₃.get? b = some o) ∧ J (i + 1) h₃) (fun _ _ => False) s₂) (fun _ _ => False) s₂) (fun _ _ => False) ⟨h₁, g, d, t₁, os⟩)
      (done : ∀ h₁ t₁, J items.size h₁ → Q .next ⟨h₁, g, d, t₁, os⟩) : EnumHit prog w A env xi xv pi pv body g d os Q (.ref e) ⟨h, g, d, t, os⟩
/-- for index, item in enumerate(a tuple): ..: no break; the places e, it are the two iterators' -/
theorem for_enumT {iter : Expr} {xi xv : Str} {pi pv pt pos : Pos} {k : Nat} {body : List Stmt} {env : Env} {s : Shared} {Q : Flow → Shared → Prop} (hh : A.handled = none)
    (hit : wpAny (model prog w) A (eval iter env) (EnumHit prog w A env xi xv pi pv body g d os Q) E s)
    (hs : ∀ x, foldedSetIterable iter env x = pure x := by intro _; rfl) :
    wpAny (model prog w) A (exec (.For (.Tuple [.Name xi pi, .Name xv pv] k pt) iter body [] pos) env) Q E s := by
  refine wpAny_For (wpAny_mono hit (fun v s₁ h₁ => ?_) fun _ _ e => e) hs
  obtain ⟨h, t, T, it, e, items, J, he, hI, hT, hei, hTe, hTi, hJ, h0, step, done⟩ := h₁
  have W := WalksT.enumerateD (prog := prog) (w := w) (A := A) (drawsT (A := A.in1) hh it T hTi items) e hei (by simp [hei]; exact fun q => hTe q.symm) (by simp)
  refine wpAny_pyIter_enum he ?_
  refine codeAny_forLoop_any (fun n s' => ∃ (i : Nat) (h' : Heap) (t' : Nat), s' = ⟨h', g, d, t', os⟩ ∧ ((∃ old, IsEnum h' e it (i : Int) old) ∧ h'.IsTupleIter it T i ∧ h'.IsTuple T items) ∧ J i h' ∧ i ≤ items.size ∧ n = items.size + 1 - i) ?_ (items.size + 1) ⟨0, h, t, rfl, ⟨⟨_, he⟩, hI, hT⟩, h0, Nat.zero_le _, rfl⟩
  rintro n s' ⟨i, h', t', rfl, hst, hJ', hi, rfl⟩
  by_cases hlt : i < items.size
  · have hsz : ∀ {b o}, h'.get? b = some o → b < h'.objs.size := fun e => Heap.lt_size e
    refine W.item i _ _ _ hlt hst fun T' vals h₁ tk₁ hP hge hT' hM hk₁ => ?_
    obtain ⟨tk, x, hx, rfl⟩ := hP
    have hap := W.apart _ _ _ hM
    refine W.go _ _ _ _ _ _ _ _ hM fun h₂ hst₂ hk₂ => ?_
    have hT₂ : h₂.IsTuple T' #[.int i tk, x] := let ⟨o, ho, r⟩ := hT'; ⟨o, hk₂ _ o hap ho, r⟩
    obtain ⟨_, hoT', _⟩ := id hT₂
    refine wpAny_assign_Tuple hh hT₂ rfl rfl fun h₃ hx₃ => ?_
    have k₃ : Ext h₂ h₃ := fun b o z => hx₃ b o (Nat.ne_of_lt (Heap.lt_size z)) z
    have kk : ∀ b o, b ≠ e → b ≠ it → h'.get? b = some o → h₃.get? b = some o := fun b o h1 h2 z => k₃ _ _ (hk₂ b o (by simp [h1, h2]) (hk₁ b o (by simp [h1, h2]) z))
    have J₃ := hJ _ _ _ hJ' kk
    obtain ⟨⟨old, he₂⟩, hI₂, hTt₂⟩ := hst₂
    obtain ⟨oI, hoI, rI⟩ := id hI₂
    obtain ⟨oT, hoT, rT⟩ := id hTt₂
    show wpAny _ A (do holding [x] (assign (.Name xi pi) env (.int i tk)); do holding [] (assign (.Name xv pv) env x); pure ()) _ _ _
    refine wpAny_bind (wpAny_holding ?_)
    refine wpAny_mono (step i x tk h₃ _ hx J₃ ⟨_, k₃ _ _ he₂⟩ ⟨_, k₃ _ _ hoI⟩ ⟨oT, k₃ _ _ hoT, rT⟩) (fun _ s₄ h₄ => ?_) fun _ _ q => q.elim
    refine wpAny_bind (wpAny_holding ?_)
    refine wpAny_mono h₄ (fun _ s₅ h₅ => wpAny_pure ?_) fun _ _ q => q.elim
    refine wpAny_mono h₅ (fun f s₆ h₆ => ?_) fun _ _ q => q.elim
    obtain ⟨rfl, h₆, t₆, rfl, kx, J₆⟩ := h₆
    refine ⟨items.size + 1 - (i + 1), by omega, i + 1, h₆, t₆, rfl, ⟨⟨old, kx _ _ (.inl rfl) (k₃ _ _ he₂)⟩, ⟨oI, kx _ _ (.inr (.inl rfl)) (k₃ _ _ hoI), rI⟩, ⟨oT, kx _ _ (.inr (.inr rfl)) (k₃ _ _ hoT), rT⟩⟩, J₆, hlt, rfl⟩
  · have hin : i = items.size := by omega
    subst hin
    refine W.done _ _ _ hst fun h₁ tk₁ hk₁ => wpAny_execs_nil ?_
    exact done h₁ tk₁ (hJ _ _ _ hJ' fun b o h1 h2 z => hk₁ b o (by simp [h1, h2]) z)
end
-- filemode
noncomputable def tabN : List (List (Int × Str)) := [[(40960, "l"), (49152, "s"), (32768, "-"), (24576, "b"), (16384, "d"), (8192, "c"), (4096, "p")], [(256, "r")], [(128, "w")], [(2112, "s"), (2048, "S"), (64, "x")], [(32, "r")], [(16, "w")], [(1032, "s"), (1024, "S"), (8, "x")], [(4, "r")], [(2, "w")], [(513, "t"), (512, "T"), (1, "x")]]
noncomputable def pairD (p : Int × Str) : D := .tup [.int p.1, .str p.2]
noncomputable def rowD (t : List (Int × Str)) : D := .tup (t.map pairD)
noncomputable def tabD : D := .tup (tabN.map rowD)
noncomputable def hitN (i : Nat) (m : Int) (p : Int × Str) : Bool := if i = 0 then Builtin.bitAnd m 61440 == p.1 else Builtin.bitAnd m p.1 == p.1
noncomputable def pickN (i : Nat) (m : Int) (ts : List (Int × Str)) : Str := match ts.find? (hitN i m) with
  | some p => p.2
  | none => if i = 0 then Str.ofString "?" else Str.ofString "-"
noncomputable def permN (m : Int) (k : Nat) : List Str := (List.range k).map fun i => pickN i m (tabN.getD i [])
theorem permN_succ (m : Int) (k : Nat) : permN m (k + 1) = permN m k ++ [pickN k m (tabN.getD k [])] := by simp [permN, List.range_succ]
noncomputable def signN (m : Int) : Str := PySem.Txt.join "" (permN m 10)
theorem IsAll.cons {P : Addr → Prop} {h : Heap} {d : D} {ds : List D} {v : Value} {vs : List Value} (x : Is P h d v) (y : IsAll P h ds vs) : IsAll P h (d :: ds) (v :: vs) := by
  simp only [IsAll]; exact ⟨v, vs, rfl, x, y⟩
section
variable {w : World} {mg mb : Str → Option Value} {h : Heap}
theorem pr_is {a : Addr} {i : Int} {s : Str} {t u : Tok} {n : Nat} (W : Wd w mg mb h) (k : (hd.heap_39 w.params).lookup a = some { cls := .type "tuple", data := .seq #[.int i t, .str s u] n }) : Is Any h (pairD (i, s)) (.ref a) := by
  simp only [pairD, Is]
  exact ⟨a, _, n, rfl, trivial, W.X _ _ k, .cons (by simp only [Is]; exact ⟨_, rfl⟩) (.one (by simp only [Is]; exact ⟨_, rfl⟩))⟩
theorem tp_is {a : Addr} {vs : List Value} {ds : List D} {n : Nat} (W : Wd w mg mb h) (k : (hd.heap_39 w.params).lookup a = some { cls := .type "tuple", data := .seq vs.toArray n }) (y : IsAll Any h ds vs) : Is Any h (.tup ds) (.ref a) := by
  simp only [Is]
  exact ⟨a, vs, n, rfl, trivial, W.X _ _ k, y⟩
set_option maxRecDepth 100000 in
theorem tab_is (W : Wd w mg mb h) : Is Any h tabD (.ref 194) := by
  refine tp_is (vs := [.ref 169, .ref 171, .ref 173, .ref 177, .ref 179, .ref 181, .ref 185, .ref 187, .ref 189, .ref 193]) W (by k_is) ?_
  refine .cons (tp_is (vs := [.ref 162, .ref 163, .ref 164, .ref 165, .ref 166, .ref 167, .ref 168]) W (by k_is) (.cons (pr_is W (by k_is)) (.cons (pr_is W (by k_is)) (.cons (pr_is W (by k_is)) (.cons (pr_is W (by k_is)) (.cons (pr_is W (by k_is)) (.cons (pr_is W (by k_is)) (.one (pr_is W (by k_is)))))))))) ?_
  refine .cons (tp_is (vs := [.ref 170]) W (by k_is) (.one (pr_is W (by k_is)))) ?_
  refine .cons (tp_is (vs := [.ref 172]) W (by k_is) (.one (pr_is W (by k_is)))) ?_
  refine .cons (tp_is (vs := [.ref 174, .ref 175, .ref 176]) W (by k_is) (.cons (pr_is W (by k_is)) (.cons (pr_is W (by k_is)) (.one (pr_is W (by k_is)))))) ?_
  refine .cons (tp_is (vs := [.ref 178]) W (by k_is) (.one (pr_is W (by k_is)))) ?_
  refine .cons (tp_is (vs := [.ref 180]) W (by k_is) (.one (pr_is W (by k_is)))) ?_
  refine .cons (tp_is (vs := [.ref 182, .ref 183, .ref 184]) W (by k_is) (.cons (pr_is W (by k_is)) (.cons (pr_is W (by k_is)) (.one (pr_is W (by k_is)))))) ?_
  refine .cons (tp_is (vs := [.ref 186]) W (by k_is) (.one (pr_is W (by k_is)))) ?_
  refine .cons (tp_is (vs := [.ref 188]) W (by k_is) (.one (pr_is W (by k_is)))) ?_
  exact .one (tp_is (vs := [.ref 190, .ref 191, .ref 192]) W (by k_is) (.cons (pr_is W (by k_is)) (.cons (pr_is W (by k_is)) (.one (pr_is W (by k_is))))))
end
/-- a list of strs at D -/
noncomputable def Perm (h : Heap) (D : Addr) (ys : List Str) : Prop := ∃ vs n, h.get? D = some { cls := .type "list", data := .seq vs n } ∧ StrsAre vs.toList ys
theorem Perm.at_ {h h' : Heap} {D : Addr} {ys : List Str} (x : Perm h D ys) (k : ∀ o, h.get? D = some o → h'.get? D = some o) : Perm h' D ys := let ⟨vs, n, e, s⟩ := x; ⟨vs, n, k _ e, s⟩
theorem Perm.live {h : Heap} {D : Addr} {ys : List Str} (x : Perm h D ys) : ∃ o, h.get? D = some o := let ⟨_, _, e, _⟩ := x; ⟨_, e⟩
section
variable {prog : Program} {w : World} {A : Around} {E : Value → Shared → Prop} {h : Heap} {g : Array GenState} {d : Drawn} {t : Nat} {os : OsState} {P P' : Addr → Prop}
theorem assign_pair {x y : D} {v : Value} {env : Env} {xa xb : Str} {pa pb pos : Pos} {k : Nat} {Q : Unit → Shared → Prop} (hh : A.handled = none) (z : Is P h (.tup [x, y]) v)
    (q : ∀ h' a b, Ext h h' → Is P h' x a → Is P h' y b → wpAny (model prog w) A (storeName env xa a) (fun _ s => wpAny (model prog w) A (storeName env xb b) Q E s) E ⟨h', g, d, t, os⟩) :
    wpAny (model prog w) A (assign (.Tuple [.Name xa pa, .Name xb pb] k pos) env v) Q E ⟨h, g, d, t, os⟩ := by
  simp only [Is] at z
  obtain ⟨T, vs, n, rfl, _, ho, y'⟩ := z
  simp only [IsAll] at y'
  obtain ⟨a, r, rfl, ha, b, r', rfl, hb, rfl⟩ := y'
  have e : ∀ h', Heap.ExtBut h.objs.size h h' → Ext h h' := fun h' k b o e => k b o (Nat.ne_of_lt (Heap.lt_size e)) e
  refine wpAny_assign_Tuple (items := #[a, b]) hh ⟨_, ho, rfl, n, rfl⟩ rfl rfl fun h' k' => ?_
  show wpAny _ A (do holding [b] (assign (.Name xa pa) env a); do holding [] (assign (.Name xb pb) env b); pure ()) _ _ _
  have := q h' a b (e h' k') (ha.ups' (e h' k')) (hb.ups' (e h' k'))
  refine wpAny_bind (wpAny_holding (wpAny_assign_Name (wpAny_mono this (fun _ s₁ h₁ => ?_) fun _ _ z => z)))
  refine wpAny_bind (wpAny_holding (wpAny_assign_Name (wpAny_mono h₁ (fun _ s₁ h₁ => ?_) fun _ _ z => z)))
  exact wpAny_pure h₁
theorem perm_append {D : Addr} {ys : List Str} {y : Str} {u : Tok} {Q : Value → Shared → Prop} (x : Perm h D ys) (hy : ys.length ≤ 1000) (q : ∀ h', Heap.SameBut D h h' → Perm h' D (ys ++ [y]) → Q .none ⟨h', g, d, t, os⟩) :
    wpAny (model prog w) A (call (.builtin "list.append") [.ref D, .str y u]) Q E ⟨h, g, d, t, os⟩ := by
  obtain ⟨vs, n, e, s⟩ := x
  refine append_at e (fun h' hs ho' => q h' hs ⟨_, _, ho', ?_⟩) (by have := s.length; simp at this; simp [sizeLine]; omega)
  rw [Array.toList_push]
  exact s.append' (.cons _ _ .nil)
end
theorem pick_hit {i : Nat} {m : Int} {ts : List (Int × Str)} {j : Nat} {p : Int × Str} (hp : ts[j]? = some p) (hh : hitN i m p = true) (hs : ∀ j' p', j' < j → ts[j']? = some p' → hitN i m p' = false) : pickN i m ts = p.2 := by
  have : ts.find? (hitN i m) = some p := by
    have hj := (List.getElem?_eq_some_iff.mp hp)
    obtain ⟨hlt, rfl⟩ := hj
    rw [List.find?_eq_some_iff_getElem]
    refine ⟨hh, j, hlt, rfl, fun j' hj' => ?_⟩
    have := hs j' ts[j'] hj' (List.getElem?_eq_getElem (by omega))
    simp [this]
  rw [pickN, this]
theorem pick_none {i : Nat} {m : Int} {ts : List (Int × Str)} (hs : ∀ j' p', j' < ts.length → ts[j']? = some p' → hitN i m p' = false) : pickN i m ts = if i = 0 then Str.ofString "?" else Str.ofString "-" := by
  have : ts.find? (hitN i m) = none := by
    rw [List.find?_eq_none]
    intro p hp
    obtain ⟨j, hj, rfl⟩ := List.mem_iff_getElem.mp hp
    simp [hs j _ hj (List.getElem?_eq_getElem hj)]
  simp only [pickN, this]
theorem tab_one : ∀ ts ∈ tabN, ∀ p ∈ ts, p.2.length = 1 := by decide
theorem pick_len (i : Nat) (m : Int) : (pickN i m (tabN.getD i [])).length = 1 := by
  have hm : ∀ p ∈ tabN.getD i [], p.2.length = 1 := by
    intro p hp
    rw [List.getD_eq_getElem?_getD] at hp
    cases e : tabN[i]? with
    | none => rw [e] at hp; simp at hp
    | some ts => rw [e] at hp; exact tab_one ts (List.mem_of_getElem? e) p hp
  unfold pickN
  split
  · rename_i p hp
    exact hm p (List.mem_of_find?_eq_some hp)
  · split <;> decide
theorem perm_len (m : Int) (k : Nat) : ((permN m k).map (·.length)).sum = k := by
  induction k with
  | zero => rfl
  | succ k ih => rw [permN_succ, List.map_append, List.sum_append, ih, List.map_singleton, pick_len]; rfl
set_option maxRecDepth 100000 in
set_option maxHeartbeats 1000000 in
theorem ifmt_spec {w mg mb A E} {h : Heap} {g : Array GenState} {d : Drawn} {t : Nat} {os : OsState} {Q : Value → Shared → Prop} {m : Int} {t1 : Tok}
    (W : Wd w mg mb h) (hd : A.depth < 800) (x : ∀ h' t' u, Ext h h' → Q (.int (Builtin.bitAnd m 61440) u) ⟨h', g, d, t', os⟩) :
    wpAny (model PG w) A (call (.ref 161) [.int m t1]) Q E ⟨h, g, d, t, os⟩ := by
  refine enter W (by k_is) (by k_is) (by omega) (by rfl) (locs rfl) (fun h₁ t₁ F => ?_) rfl rfl rfl (by decide)
  have F₁ := FS.of_fr F
  repeat (walk_at "e")
  with_reducible refine e_and ?_
  exact x _ _ _ F.keep
set_option maxRecDepth 100000 in
set_option maxHeartbeats 1000000 in
theorem filemode_spec {w mg mb A E} {h : Heap} {g : Array GenState} {d : Drawn} {t : Nat} {os : OsState} {Q : Value → Shared → Prop} {m : Int} {t1 : Tok}
    (W : Wd w mg mb h) (hd : A.depth < 700) (hh : A.handled = none) (x : ∀ h' t' u, Ext h h' → Q (.str (signN m) u) ⟨h', g, d, t', os⟩) :
    wpAny (model PG w) A (call (.ref 201) [.int m t1]) Q E ⟨h, g, d, t, os⟩ := by
  refine enter W (by k_is) (by k_is) (by omega) (by rfl) (locs rfl) (fun h₁ t₁ F => ?_) rfl rfl rfl (by decide)
  have F₁ := FS.of_fr F
  have hLn : h.get? h.objs.size = none := none_ge (Nat.le_refl _)
  have hh' : (A.deeper (envOf (Str.ofString "filemode") default h.objs.size 201 default)).handled = none := hh
  generalize hL : h.objs.size = L at F F₁ hLn ⊢
  repeat (walk_at "e")
  refine e_newList (P := New h) .nil (new_top F.keep) (by simp) (fun h₂ mv k₂ hmv => ?_)
  obtain ⟨D, dvs, dn, rfl, hDn, hDo⟩ := hmv.listLive
  refine st_loc (F₁.up k₂.up) (fun h₃ F₃ s₃ => ?_)
  have k₃ : Ext h h₃ := ext_same (Ext.trans F.keep k₂) s₃ hLn
  have W₃ := W.keeps k₃
  have hDL : D ≠ L := by
    rintro rfl
    obtain ⟨o, _, _, ho, hd, _⟩ := (F₁.up k₂.up).ns
    rw [hDo] at ho; cases ho; cases hd
  have hDn : h.get? D = none := hDn
  have p₃ : Perm h₃ D (permN m 0) := by
    simp only [Is] at hmv
    obtain ⟨a, vs', n', e, p, ho, y⟩ := hmv
    cases e
    simp only [IsAll] at y
    subst y
    exact ⟨_, _, s₃.extBut _ _ hDL ho, .nil⟩
  have hT := tab_is W
  simp only [tabD, Is] at hT
  obtain ⟨T, vs, n, hTe, _, hTo, hTy⟩ := hT
  cases hTe
  have hsz : vs.length = 10 := hTy.length
  have hrow : ∀ (i : Nat) (v : Value), vs[i]? = some v → ∃ T' vs' n', v = .ref T' ∧ h.get? T' = some { cls := .type "tuple", data := .seq (List.toArray vs') n' } ∧ vs'.length = (tabN.getD i []).length ∧ ∀ (j : Nat) (y : Value), vs'[j]? = some y → ∃ p, (tabN.getD i [])[j]? = some p ∧ Is Any h (pairD p) y := by
    intro i v hv
    obtain ⟨dd, hdd, hi⟩ := hTy.get' i v hv
    rw [List.getElem?_map] at hdd
    cases e : tabN[i]? with
    | none => rw [e] at hdd; simp at hdd
    | some ts =>
      rw [e] at hdd; simp at hdd; subst hdd
      simp only [rowD, Is] at hi
      obtain ⟨T', vs', n', e1, _, ho, y⟩ := hi
      have e2 : tabN.getD i [] = ts := by rw [List.getD_eq_getElem?_getD, e]; rfl
      rw [e2]
      refine ⟨T', vs', n', e1, ho, by rw [y.length, List.length_map], fun j z hz => ?_⟩
      obtain ⟨dd, hdd, hi⟩ := y.get' j z hz
      rw [List.getElem?_map] at hdd
      cases e : ts[j]? with
      | none => rw [e] at hdd; simp at hdd
      | some p => rw [e] at hdd; simp at hdd; subst hdd; exact ⟨p, rfl, hi⟩
  refine wpAny_execs_cons ?_
  refine for_enumT (g := g) (d := d) (os := os) hh ?_ (by intro _; rfl)
  refine c_type1 W₃ (by k_is) (by rfl) ?_
  refine n_glob (v := .ref 194) W₃ (by k_is) ?_
  refine call_enumT (s := ⟨h₃, g, d, _, os⟩) (l := 194) (items := vs.toArray) ⟨_, k₃ _ _ hTo, rfl, _, rfl⟩ (fun h₄ hE hI k₄ => ?_)
  have k₄ : Ext h₃ h₄ := k₄
  have lt₃ : ∀ {b o}, h₃.get? b = some o → b ≠ h₃.objs.size + 1 ∧ b ≠ h₃.objs.size := fun e => ⟨Nat.ne_of_lt (Nat.lt_succ_of_lt (Heap.lt_size e)), Nat.ne_of_lt (Heap.lt_size e)⟩
  obtain ⟨oL, hoL⟩ := F₃.live
  obtain ⟨oD, hoD⟩ := p₃.live
  have h194 := lt₃ (k₃ _ _ hTo)
  refine ⟨h₄, _, 194, h₃.objs.size, h₃.objs.size + 1, vs.toArray, fun i h' => Ext h h' ∧ ∃ m', FS h' L m' [] (fun _ => none) ∧ m' (Str.ofString "mode") = some (.int m t1) ∧ m' (Str.ofString "perm") = some (.ref D) ∧ Perm h' D (permN m i), hE, hI, ⟨_, k₄ _ _ (k₃ _ _ hTo), rfl, _, rfl⟩, Nat.succ_ne_self _, h194.1, h194.2, ?_, ?_, ?_, ?_⟩
  · rintro i h₅ h₆ ⟨kk, m', F', m1, m2, p⟩ hk
    refine ⟨fun b o e => ?_, m', ⟨F'.ns.at' fun o e => hk _ o (lt₃ hoL).1 (lt₃ hoL).2 e, (fun _ _ e => by cases e), List.Pairwise.nil⟩, m1, m2, p.at_ fun o e => hk _ o (lt₃ hoD).1 (lt₃ hoD).2 e⟩
    have := lt₃ (k₃ _ _ e)
    exact hk b o this.1 this.2 (kk b o e)
  · exact ⟨Ext.trans k₃ k₄, _, F₃.up k₄.up, rfl, rfl, p₃.at_ fun o e => k₄ _ _ e⟩
  · rintro i v tk h₅ t₅ hv ⟨k₅, m', F₅, m1, m2, p₅⟩ ⟨oe, hoe⟩ ⟨oi, hoi⟩ hT₅
    obtain ⟨T', vs', n', rfl, hT'o, hlen, hpr⟩ := hrow i v (by simpa using hv)
    have hil : i < 10 := by
      have := (Array.getElem?_eq_some_iff.mp hv).1
      simp at this; omega
    have hT'L : T' ≠ L := by rintro rfl; rw [hLn] at hT'o; cases hT'o
    have hT'D : T' ≠ D := by rintro rfl; rw [hDn] at hT'o; cases hT'o
    refine wpAny_assign_Name (st_loc F₅ (fun h₆ F₆ s₆ => wpAny_assign_Name (st_loc F₆ (fun h₇ F₇ s₇ => ?_))))
    have k₇ : Ext h h₇ := ext_same (ext_same k₅ s₆ hLn) s₇ hLn
    have p₇ : Perm h₇ D (permN m i) := p₅.at_ fun o e => s₇.extBut _ _ hDL (s₆.extBut _ _ hDL e)
    have keep₇ : ∀ b o, b ≠ L → b ≠ D → h₅.get? b = some o → h₇.get? b = some o := fun b o h1 _ e => s₇.extBut _ _ h1 (s₆.extBut _ _ h1 e)
    have nLD : ∀ b, b = h₃.objs.size + 1 ∨ b = h₃.objs.size ∨ b = 194 → b ≠ L ∧ b ≠ D := by
      rintro b (rfl | rfl | rfl)
      · exact ⟨(lt₃ hoL).1.symm, (lt₃ hoD).1.symm⟩
      · exact ⟨(lt₃ hoL).2.symm, (lt₃ hoD).2.symm⟩
      · exact ⟨(by rintro rfl; rw [hLn] at hTo; cases hTo), (by rintro rfl; rw [hDn] at hTo; cases hTo)⟩
    obtain ⟨ts, hts⟩ : ∃ ts, ts = tabN.getD i [] := ⟨_, rfl⟩
    rw [← hts] at hlen hpr
    refine wpAny_execs_cons ?_
    refine for_gen (os := os) (d := d) (fs := []) ?_ (by intro _; rfl)
    repeat (walk_at "e")
    have hpk := permN_succ m i
    rw [← hts] at hpk
    have keep₅ : ∀ h' : Heap, (∀ b o, b ≠ L → b ≠ D → h₇.get? b = some o → h'.get? b = some o) → ∀ b o, b = h₃.objs.size + 1 ∨ b = h₃.objs.size ∨ b = 194 → h₅.get? b = some o → h'.get? b = some o :=
      fun h' k b o hb e => k b o (nLD b hb).1 (nLD b hb).2 (keep₇ b o (nLD b hb).1 (nLD b hb).2 e)
    have ext₅ : ∀ h' : Heap, (∀ b o, b ≠ L → b ≠ D → h₇.get? b = some o → h'.get? b = some o) → Ext h h' := fun h' k b o e =>
      k b o (by rintro rfl; rw [hLn] at e; cases e) (by rintro rfl; rw [hDn] at e; cases e) (k₇ b o e)
    refine ⟨h₇, g, _, _, _, fun I j h' g' => g' = g ∧ (∀ b o, b ≠ L → b ≠ D → h₇.get? b = some o → h'.get? b = some o) ∧ (∃ m', FS h' L m' [] (fun _ => none) ∧ m' (Str.ofString "mode") = some (.int m t1) ∧ m' (Str.ofString "perm") = some (.ref D) ∧ m' (Str.ofString "index") = some (.int i tk)) ∧ Perm h' D (permN m i) ∧ ∀ j' p', j' < j → ts[j']? = some p' → hitN i m p' = false, [L, D], iter_tup (items := vs'.toArray) hh ⟨_, k₇ _ _ hT'o, rfl, _, rfl⟩ (fun _ q => by cases q), ?_, ?_, ?_, ?_, ?_⟩
    · intro b hb
      rcases List.mem_cons.mp hb with rfl | hb
      · exact ⟨fun q => hT'L (by cases q; rfl), F₇.live⟩
      · rw [List.mem_singleton.mp hb]; exact ⟨fun q => hT'D (by cases q; rfl), p₇.live⟩
    · rintro I j ha hb g₁ hIn ⟨rfl, ka, ⟨m₂, Fa, a1, a2, a3⟩, pa, hs⟩ hk
      have nI : ∀ {b o}, h₇.get? b = some o → b ≠ I := by rintro b o e rfl; rw [hIn] at e; cases e
      obtain ⟨oL', hoL'⟩ := F₇.live
      obtain ⟨oD', hoD'⟩ := p₇.live
      exact ⟨rfl, fun b o h1 h2 e => hk b o (nI e) (ka b o h1 h2 e), ⟨m₂, ⟨Fa.ns.at' fun o e => hk _ o (nI hoL') e, (fun _ _ e => by cases e), List.Pairwise.nil⟩, a1, a2, a3⟩, pa.at_ fun o e => hk _ o (nI hoD') e, hs⟩
    · intro I ha hIn ka
      exact ⟨rfl, fun b o _ _ e => ka b o e, ⟨_, F₇.up ka.up, m1, m2, rfl⟩, p₇.at_ fun o e => ka _ o e, fun _ _ q => absurd q (Nat.not_lt_zero _)⟩
    · rintro I j v ha g₁ ta hIn hj hv ⟨rfl, ka, ⟨m₂, Fa, a1, a2, a3⟩, pa, hs⟩ hIl
      obtain ⟨p, hp, hpi⟩ := hpr j v (by simpa using hv)
      have ka' := ext₅ _ ka
      refine assign_pair hh (hpi.ups ka'.up) (fun hb a b kb ha' hb' => ?_)
      obtain ⟨ua, rfl⟩ := ha'.int
      obtain ⟨ub, rfl⟩ := hb'.str
      refine st_loc (Fa.up kb.up) (fun hc Fc sc => ?_)
      refine st_loc Fc (fun hd' Fd sd => ?_)
      have kd : ∀ b o, b ≠ L → b ≠ D → ha.get? b = some o → hd'.get? b = some o := fun b o h1 _ e => sd.extBut _ _ h1 (sc.extBut _ _ h1 (kb _ _ e))
      have kd' : ∀ b o, b ≠ L → b ≠ D → h₇.get? b = some o → hd'.get? b = some o := fun b o h1 h2 e => kd b o h1 h2 (ka b o h1 h2 e)
      have Wd := W.keeps (ext₅ _ kd')
      have pd : Perm hd' D (permN m i) := pa.at_ fun o e => sd.extBut _ _ hDL (sc.extBut _ _ hDL (kb _ _ e))
      have sx : ∀ {h' : Heap}, (∀ b o, b ≠ L → b ≠ D → ha.get? b = some o → h'.get? b = some o) → SX [L, D] [] ha h' := fun k =>
        .of_but fun b o hb e => k b o (fun q => hb (q ▸ .head _)) (fun q => hb (q ▸ .tail _ (.head _))) e
      repeat (walk_at "e")
      have hs' : hitN i m p = false → ∀ j' p', j' < j + 1 → ts[j']? = some p' → hitN i m p' = false := fun q j' p' hj' hp' => by
        by_cases e : j' = j
        · subst e; rw [hp] at hp'; cases hp'; exact q
        · exact hs j' p' (by omega) hp'
      cases hq : ((i : Int) == 0) with
      | true =>
        have hi0 : i = 0 := by simpa using hq
        have hhit : hitN i m p = (Builtin.bitAnd m 61440 == p.1) := by rw [hitN, if_pos hi0]
        repeat (walk_at "e")
        refine c_fn Wd (by k_is) (by k_is) ?_
        repeat (walk_at "e")
        refine ⟨Wd.X, ?_⟩
        refine ifmt_spec Wd ?_ (fun he te ue ke => ?_)
        · show A.depth + 1 < 800; omega
        have Fe := Fd.up ke.up
        have pe := pd.at_ fun o e => ke _ o e
        repeat (walk_at "e")
        cases hq2 : (Builtin.bitAnd m 61440 == p.1) with
        | true =>
          repeat (walk_at "e")
          refine wpAny_Expr_any ?_ (by rfl) (by rfl)
          refine MethodCall_ ?_ (by rfl)
          repeat (walk_at "e")
          obtain ⟨pvs, pn, pho, _⟩ := id pe
          refine Calls.getMethod_list_append pho rfl rfl ?_
          refine callWith_method1 ?_ (by rfl) (by rfl)
          repeat (walk_at "e")
          refine perm_append pe (by simp [permN]; omega) (fun hf sf pf => ?_)
          have Ff := Fe.list pho rfl sf
          have kf : ∀ b o, b ≠ L → b ≠ D → h₇.get? b = some o → hf.get? b = some o := fun b o h1 h2 e => sf.extBut _ _ h2 (ke _ _ (kd' b o h1 h2 e))
          repeat (walk_at "e")
          refine wpAny_Break ?_
          repeat (walk_at "e")
          exact ⟨rfl, hf, _, rfl, keep₅ hf kf, ext₅ hf kf, _, Ff, a1, a2, by rw [hpk, pick_hit hp (hhit.trans hq2) hs]; exact pf⟩
        | false =>
          repeat (walk_at "e")
          exact ⟨he, g₁, _, rfl, sx fun b o h1 h2 e => ke _ _ (kd b o h1 h2 e), rfl, fun b o h1 h2 e => ke _ _ (kd' b o h1 h2 e), ⟨_, Fe, a1, a2, a3⟩, pe, hs' (hhit.trans hq2)⟩
      | false =>
        have hi0 : i ≠ 0 := by rintro rfl; simp at hq
        have hhit : hitN i m p = (Builtin.bitAnd m p.1 == p.1) := by rw [hitN, if_neg hi0]
        repeat (walk_at "e")
        with_reducible refine e_and ?_
        repeat (walk_at "e")
        cases hq2 : (Builtin.bitAnd m p.1 == p.1) with
        | true =>
          repeat (walk_at "e")
          refine wpAny_Expr_any ?_ (by rfl) (by rfl)
          refine MethodCall_ ?_ (by rfl)
          repeat (walk_at "e")
          obtain ⟨pvs, pn, pho, _⟩ := id pd
          refine Calls.getMethod_list_append pho rfl rfl ?_
          refine callWith_method1 ?_ (by rfl) (by rfl)
          repeat (walk_at "e")
          refine perm_append pd (by simp [permN]; omega) (fun hf sf pf => ?_)
          have Ff := Fd.list pho rfl sf
          have kf : ∀ b o, b ≠ L → b ≠ D → h₇.get? b = some o → hf.get? b = some o := fun b o h1 h2 e => sf.extBut _ _ h2 (kd' b o h1 h2 e)
          repeat (walk_at "e")
          refine wpAny_Break ?_
          repeat (walk_at "e")
          exact ⟨rfl, hf, _, rfl, keep₅ hf kf, ext₅ hf kf, _, Ff, a1, a2, by rw [hpk, pick_hit hp (hhit.trans hq2) hs]; exact pf⟩
        | false =>
          repeat (walk_at "e")
          exact ⟨hd', g₁, _, rfl, sx kd, rfl, kd', ⟨_, Fd, a1, a2, a3⟩, pd, hs' (hhit.trans hq2)⟩
    · rintro I ha g₁ ta hIn ⟨rfl, ka, ⟨m₂, Fa, a1, a2, a3⟩, pa, hs⟩
      have hno := pick_none (i := i) (m := m) (ts := ts) fun j' p' h1 h2 => hs j' p' (by simp; omega) h2
      repeat (walk_at "e")
      cases hq : ((i : Int) == 0) with
      | true =>
        have hi0 : i = 0 := by simpa using hq
        rw [if_pos hi0] at hno
        repeat (walk_at "e")
        refine wpAny_Expr_any ?_ (by rfl) (by rfl)
        refine MethodCall_ ?_ (by rfl)
        repeat (walk_at "e")
        obtain ⟨pvs, pn, pho, _⟩ := id pa
        refine Calls.getMethod_list_append pho rfl rfl ?_
        refine callWith_method1 ?_ (by rfl) (by rfl)
        repeat (walk_at "e")
        refine perm_append pa (by simp [permN]; omega) (fun hf sf pf => ?_)
        have Ff := Fa.list pho rfl sf
        have kf : ∀ b o, b ≠ L → b ≠ D → h₇.get? b = some o → hf.get? b = some o := fun b o h1 h2 e => sf.extBut _ _ h2 (ka b o h1 h2 e)
        repeat (walk_at "e")
        exact ⟨rfl, hf, _, rfl, keep₅ hf kf, ext₅ hf kf, _, Ff, a1, a2, by rw [hpk, hno]; exact pf⟩
      | false =>
        have hi0 : i ≠ 0 := by rintro rfl; simp at hq
        rw [if_neg hi0] at hno
        repeat (walk_at "e")
        refine wpAny_Expr_any ?_ (by rfl) (by rfl)
        refine MethodCall_ ?_ (by rfl)
        repeat (walk_at "e")
        obtain ⟨pvs, pn, pho, _⟩ := id pa
        refine Calls.getMethod_list_append pho rfl rfl ?_
        refine callWith_method1 ?_ (by rfl) (by rfl)
        repeat (walk_at "e")
        refine perm_append pa (by simp [permN]; omega) (fun hf sf pf => ?_)
        have Ff := Fa.list pho rfl sf
        have kf : ∀ b o, b ≠ L → b ≠ D → h₇.get? b = some o → hf.get? b = some o := fun b o h1 h2 e => sf.extBut _ _ h2 (ka b o h1 h2 e)
        repeat (walk_at "e")
        exact ⟨rfl, hf, _, rfl, keep₅ hf kf, ext₅ hf kf, _, Ff, a1, a2, by rw [hpk, hno]; exact pf⟩
  · rintro ha ta ⟨ka, m₂, Fa, a1, a2, pa⟩
    simp only [List.size_toArray, hsz] at pa
    repeat (walk_at "e")
    refine MethodCall_ ?_ (by rfl)
    repeat (walk_at "e")
    refine GM.join ?_
    refine callWith_method1 ?_ (by rfl) (by rfl)
    repeat (walk_at "e")
    obtain ⟨pvs, pn, pho, pst⟩ := pa
    refine join_list (s := ⟨ha, g, d, _, os⟩) ⟨_, pho, rfl, _, rfl⟩ pst ?_ (fun t' k' => ?_)
    · have : (Str.ofString "").length = 0 := by decide
      rw [this, perm_len]
      omega
    exact x _ _ _ ka
-- a comprehension whose variable is a cell
theorem Stk.deeper {A : Around} {fs : List Addr} {hB h₀ h : Heap} {env : Env} {L : Addr} {m : Str → Option Value} (S : Stk A fs hB h₀) (k : Up h₀ h) (kB : Ext hB h₀) (hL : h₀.get? L = none) (hn : h.Ns L m)
    (hf : env.frame = some L) (hk : env.scope.kind ≠ .module) : Stk (A.deeper env) (L :: fs) hB h := by
  obtain ⟨outer, e1, e2, e3⟩ := S.fr
  refine ⟨⟨env :: outer, by show A.frames.map _ = _; rw [e1]; rfl, by rw [List.filterMap_cons, hf, e2], ?_⟩, ?_, ?_⟩
  · intro e he
    rcases List.mem_cons.mp he with rfl | he
    · exact ⟨hk, L, hf⟩
    · exact e3 e he
  · intro b hb
    rcases List.mem_cons.mp hb with rfl | hb
    · obtain ⟨o, es, ep, ho, hd, _⟩ := hn
      exact ⟨o, ho, es, ep, hd⟩
    · exact (S.ok.up k) b hb
  · intro b hb
    rcases List.mem_cons.mp hb with rfl | hb
    · rcases get_none_or hB b with z | ⟨o, z⟩
      · exact z
      · rw [kB _ _ z] at hL; cases hL
    · exact S.new b hb
section
variable {prog : Program} {w : World} {A : Around} {E : Value → Shared → Prop} {R : Result → Shared → Prop} {h : Heap} {g : Array GenState} {d : Drawn} {t : Nat} {os : OsState}
theorem comp_loopK {elt iter : Expr} {x : Str} {px : Pos} {scope : Scope} {pos : Pos} {I Dd c : Addr} {fp wr fs : List Addr} {n : Nat} {P : Nat → Value → Prop} {St : Nat → Heap → Prop} {cenv : Env}
    (W : Walks prog w A I fp wr n P St) (f : Nat → D) (hlive : ∀ i h, St i h → ∀ b ∈ wr, ∃ o, h.get? b = some o)
    (hx : cenv.kindOf x = some .cell) (hk : cenv.scope.kind = .function) (hc : cenv.cells.lookup x = some c)
    (hDc : Dd ≠ c) (hDf : Dd ∉ fp) (hcf : c ∉ fp) (hDs : Dd ∉ fs) (hcs : c ∉ fs) (hfs : ∀ b ∈ fp, b ∉ fs)
    (hst : St 0 h) (hacc : h.PlainList Dd #[]) (hcell : h.IsCell c none) (hsz : n ≤ sizeLine)
    (helt : ∀ i v h₂ g₂ t₂, i < n → P i v → SX (c :: Dd :: wr) fs h h₂ → GK g g₂ → h₂.IsCell c (some v) →
      wpAny (model prog w) A (eval elt cenv) (fun y s₃ => ∃ h₃ g₃ t₃, s₃ = ⟨h₃, g₃, d, t₃, os⟩ ∧ Stays fs h₂ h₃ ∧ GK g₂ g₃ ∧ Is (New h₂) h₃ (f i) y) (fun _ _ => False) ⟨h₂, g₂, d, t₂, os⟩)
    (hR : ∀ h' g' t' ys, SX (c :: Dd :: wr) fs h h' → GK g g' → h'.PlainList Dd ys →
      IsAll (fun a => h.get? a = none ∧ a ∉ c :: Dd :: wr) h' ((List.range n).map f) ys.toList → R (.ok .next) ⟨h', g', d, t', os⟩) :
    codeAny (model prog w) A (.compLoop (.ListComp elt [⟨.Name x px, iter, [], 0⟩] scope pos) 0 (.ref I) (.ref Dd) cenv) R ⟨h, g, d, t, os⟩ := by
  refine codeAny_compLoop_tests
    (fun k s' => ∃ i h' g' tk v ys, s' = ⟨h', g', d, tk, os⟩ ∧ St i h' ∧ h'.PlainList Dd ys ∧ h'.IsCell c v ∧ SX (c :: Dd :: wr) fs h h' ∧ GK g g' ∧
      IsAll (fun a => h.get? a = none ∧ a ∉ c :: Dd :: wr) h' ((List.range i).map f) ys.toList ∧ i ≤ n ∧ k = n + 1 - i) ?_ (n + 1)
    ⟨0, h, g, t, none, #[], rfl, hst, hacc, hcell, .refl .., id, .nil, Nat.zero_le _, rfl⟩
  rintro k s' ⟨i, h', g', tk, v', ys, rfl, hst', hacc', hcl', hS, hG, hI, hi, rfl⟩
  have hcw : c ∉ wr := fun q => hcf (W.sub _ q)
  have hDw : Dd ∉ wr := fun q => hDf (W.sub _ q)
  have hyl : ys.size ≤ n := by
    have e1 := hI.length
    rw [List.length_map, List.length_range] at e1
    have : ys.toList.length = ys.size := by simp
    omega
  have cat : ∀ {h h' : Heap} {v : Option Value}, h.IsCell c v → (∀ o, h.get? c = some o → h'.get? c = some o) → h'.IsCell c v := fun x k => let ⟨o, ho, hd⟩ := x; ⟨o, k _ ho, hd⟩
  by_cases hlt : i < n
  · refine W.item i _ _ _ hlt hst' fun v h₁ tk₁ hPv hst₁ hk₁ => ?_
    have s₁ : SX (c :: Dd :: wr) fs h' h₁ := .of_but fun b o hb e => hk₁ b o (fun q => hb (.tail _ (.tail _ q))) e
    refine wpAny_assign_Name (wpAny_storeName_cell hk hx hc (cat hcl' fun o e => hk₁ _ o hcw e) (fun h₂ hc₂ hs₂ => ?_))
    have s₂ : SX (c :: Dd :: wr) fs h' h₂ := s₁.trans (.of_sameBut hs₂ (.head _))
    have hst₂ : St (i + 1) h₂ := W.frame _ _ _ hst₁ fun b hb o e => hs₂.extBut b o (fun q => hcf (q ▸ hb)) e
    have hacc₂ : h₂.PlainList Dd ys := hacc'.at fun o e => hs₂.extBut _ o hDc (hk₁ _ o hDw e)
    refine ifs_nil ?_
    refine wpAny_mono (helt i v h₂ g' _ hlt hPv (hS.trans s₂) hG hc₂) (fun y s₄ h₄ => ?_) fun _ _ q => q.elim
    obtain ⟨h₄, g₄, t₄, rfl, k₄, G₄, y₄⟩ := h₄
    have s₄ := s₂.trans (k₄.sx (ex := c :: Dd :: wr))
    refine wpAny_list_append_plain (hsz := by omega) (hacc₂.at fun o e => k₄.ex _ o hDs e) fun h₅ hl₅ hs₅ => ?_
    have s₅ := s₄.trans (.of_sameBut hs₅ (.tail _ (.head _)))
    refine ⟨n + 1 - (i + 1), by omega, i + 1, h₅, g₄, t₄, _, ys.push y, rfl, ?_, hl₅, cat (cat hc₂ fun o e => k₄.ex _ o hcs e) fun o e => hs₅.extBut _ o (Ne.symm hDc) e, hS.trans s₅, fun q => G₄ (hG q), ?_, hlt, rfl⟩
    · exact W.frame _ _ _ hst₂ fun b hb o e => hs₅.extBut b o (fun q => hDf (q ▸ hb)) (k₄.ex b o (hfs b hb) e)
    · rw [List.range_succ, List.map_append, Array.toList_push]
      refine (hI.up (fun _ q => q) fun a q => s₅.up a q.2).append (.one ?_)
      have hfree : ∀ a, New h₂ a → h.get? a = none ∧ a ∉ c :: Dd :: wr := by
        intro a ha
        have hm : a ∉ c :: Dd :: wr := by
          intro hm
          rcases List.mem_cons.mp hm with rfl | hm
          · obtain ⟨o, e, _⟩ := hc₂; rw [ha] at e; cases e
          · rcases List.mem_cons.mp hm with rfl | hm
            · obtain ⟨_, e⟩ := hacc₂; rw [ha] at e; cases e
            · obtain ⟨o, e⟩ := hlive _ _ hst₂ a hm; rw [ha] at e; cases e
        refine ⟨?_, hm⟩
        rcases get_none_or h a with q | ⟨o, q⟩
        · exact q
        · obtain ⟨⟨sl, e⟩, _⟩ := (hS.trans s₂).up a hm o q
          rw [ha] at e; cases e
      exact y₄.up hfree fun a ha o e => upr (hs₅.extBut a o (fun q => (hfree a ha).2 (q ▸ .tail _ (.head _))) e)
  · have hin : i = n := by omega
    subst hin
    refine W.done _ _ _ hst' fun h₁ tk₁ hk₁ => ?_
    have s₁ : SX (c :: Dd :: wr) fs h' h₁ := .of_but fun b o hb e => hk₁ b o (fun q => hb (.tail _ (.tail _ q))) e
    exact hR h₁ g' tk₁ ys (hS.trans s₁) hG (hacc'.at fun o e => hk₁ _ o hDw e) (hI.up (fun _ q => q) fun a q => s₁.up a q.2)
theorem newEnvK {M : Model} {scope : Scope} {globals : Addr} {cl : List (Str × Addr)} {qual : Str} {x : Str} {outer : Env} {Q : Env → Shared → Prop}
    (hcf : ∀ n, cellsFrom n scope.names cl = (x, n) :: cl) (hp : ∀ h, pushCells h scope.names = h.push { cls := .type "cell", data := .cell none })
    (q : Q { scope, locals := h.objs.size, globals, cells := (x, h.objs.size + 1) :: cl, qual, func := none, code := outer.code, frame := outer.frame, builtins := outer.builtins } ⟨(h.push { cls := .type "dict", data := .dict #[] }).push { cls := .type "cell", data := .cell none }, g, d, t, os⟩) :
    wpAny M A (newFunctionEnv scope globals cl [] qual none .none (some outer)) Q E ⟨h, g, d, t, os⟩ := by
  simp only [newFunctionEnv, Option.isSome_some, if_true]
  refine wpAny_bind (wpAny_alloc ?_)
  refine wpAny_bind (wpAny_layCells _ (fun name kind cells => by cases hkc : kind == NameKind.cell <;> simp) _ _ _ _ ?_)
  rw [hcf, hp]
  rw [show ({ heap := h.push { cls := .type "dict", data := .dict #[] }, gens := g, drawn := d, toks := t, os := os } : Shared).heap.objs.size = h.objs.size + 1 from Heap.size_push ..]
  refine wpAny_bind ?_
  exact wpAny_pure (wpAny_pure q)
/-- what the element does, item by item -/
noncomputable def EltK (prog : Program) (w : World) (A : Around) (env : Env) (scope : Scope) (cl : List (Str × Addr)) (x : Str) (elt : Expr) (fs : List Addr) (n : Nat) (P : Nat → Value → Prop)
    (f : Nat → D) (h : Heap) (g : Array GenState) (d : Drawn) (os : OsState) : Prop :=
  ∀ C c i v h₂ g₂ t₂, i < n → P i v → Stays fs h h₂ → GK g g₂ → h.get? C = none → h.get? c = none → h₂.IsCell c (some v) →
    wpAny (model prog w) A (eval elt (compEnvC scope ((x, c) :: cl) C env)) (fun y s₃ => ∃ h₃ g₃ t₃, s₃ = ⟨h₃, g₃, d, t₃, os⟩ ∧ Stays fs h₂ h₃ ∧ GK g₂ g₃ ∧ Is (New h₂) h₃ (f i) y) (fun _ _ => False) ⟨h₂, g₂, d, t₂, os⟩
inductive EvalHitK (prog : Program) (w : World) (A : Around) (env : Env) (scope : Scope) (cl : List (Str × Addr)) (x : Str) (elt : Expr) (fs : List Addr) (f : Nat → D) (d : Drawn) (os : OsState) (Q : Value → Shared → Prop) : Value → Shared → Prop where
  | mk {xv : Value} (h : Heap) (g : Array GenState) (t n : Nat) (P : Nat → Value → Prop) (S : Src h xv n P) (hf : FrOk fs h) (hn : n ≤ 1000) (hq : EltK prog w A env scope cl x elt fs n P f h g d os)
      (hQ : ∀ h' g' t' v, Stays fs h h' → GK g g' → Is (New h) h' (.list ((List.range n).map f)) v → Q v ⟨h', g', d, t', os⟩) : EvalHitK prog w A env scope cl x elt fs f d os Q xv ⟨h, g, d, t, os⟩
theorem eval_compK {elt iter : Expr} {x : Str} {px : Pos} {scope : Scope} {cl : List (Str × Addr)} {pos : Pos} {env : Env} {fs : List Addr} {f : Nat → D} {s : Shared} {Q : Value → Shared → Prop}
    (hh : A.handled = none) (hclos : closureFor scope env = pure cl) (hcf : ∀ n, cellsFrom n scope.names cl = (x, n) :: cl) (hp : ∀ h, pushCells h scope.names = h.push { cls := .type "cell", data := .cell none }) (hkind : scope.kind = .function)
    (hnames : ∀ y ∈ scope.names, y.2 = .local → scope.names.lookup y.1 = some .local) (hx : (relabel scope env).names.lookup x = some .cell)
    (hit : wpAny (model prog w) A (eval iter env) (EvalHitK prog w A env scope cl x elt fs f d os Q) E s)
    (hs : ∀ x, foldedSetIterable iter env x = pure x := by intro _; rfl) :
    wpAny (model prog w) A (eval (.ListComp elt [⟨.Name x px, iter, [], 0⟩] scope pos) env) Q E s := by
  rw [eval_ListComp]
  refine wpAny_comprehension_free (use := none) rfl hs hclos hkind hnames (wpAny_mono hit (fun xv s₁ h₁ => ?_) fun _ _ e => e)
  obtain ⟨h, g, t, n, P, S, hf, hn, hq, hQ⟩ := h₁
  refine src_iter hh S hf hn fun h₂ I fp St k₀ hI W hst hlive hfp => ?_
  refine wpAny_newObj_type (newEnvK (h := h₂.push { cls := .type "list", dict := none, data := .seq ([] : List Value).toArray }) hcf hp ?_)
  dsimp only
  generalize hH3 : h₂.push { cls := .type "list", dict := none, data := .seq ([] : List Value).toArray } = h₃
  have hsz : h₃.objs.size = h₂.objs.size + 1 := by rw [← hH3, Heap.size_push]
  generalize hH4 : (h₃.push { cls := .type "dict", data := .dict #[] }).push { cls := .type "cell", data := .cell none } = h₄
  have k₃ : Ext h₂ h₃ := fun b o e => hH3 ▸ Heap.get?_push_of_some _ e
  have k₄ : Ext h₃ h₄ := fun b o e => hH4 ▸ Heap.get?_push_of_some _ (Heap.get?_push_of_some _ e)
  have kk : Ext h h₄ := fun b o e => k₄ b o (k₃ b o (k₀ b o e))
  have big : ∀ {a}, h₂.objs.size ≤ a → h.get? a = none := fun {a} q => by
    rcases get_none_or h a with z | ⟨o, z⟩
    · exact z
    · exact absurd (Heap.lt_size (k₀ _ o z)) (Nat.not_lt.mpr q)
  have hDn : h.get? h₂.objs.size = none := big (Nat.le_refl _)
  have hCn : h.get? h₃.objs.size = none := big (by rw [hsz]; exact Nat.le_succ _)
  have hcn : h.get? (h₃.objs.size + 1) = none := big (by rw [hsz]; omega)
  have hacc : h₄.PlainList h₂.objs.size #[] := ⟨_, k₄ _ _ (hH3 ▸ Heap.get?_push_size h₂ rfl)⟩
  have hcell : h₄.IsCell (h₃.objs.size + 1) none := by
    have := Heap.get?_push_size (h₃.push { cls := .type "dict", data := .dict #[] }) (o := { cls := .type "cell", data := .cell none }) rfl
    rw [Heap.size_push, hH4] at this
    exact ⟨_, this, rfl⟩
  have hns : h₄.Ns h₃.objs.size (fun _ => none) := by
    have := (Heap.Ns.new h₃ (.type "dict")).at' (h' := h₄) fun o e => hH4 ▸ Heap.get?_push_of_some _ e
    exact this
  have hst₄ : St 0 h₄ := W.frame _ _ _ hst fun b _ o e => k₄ b o (k₃ b o e)
  have nfp : ∀ {a}, h₂.objs.size ≤ a → a ∉ fp := fun q hm => Nat.not_lt.mpr q (hfp _ hm).1
  have tostay : ∀ {h' : Heap}, SX ((h₃.objs.size + 1) :: h₂.objs.size :: [I]) fs h₄ h' → Stays fs h h' := fun {h'} k => by
    have hnot : ∀ b o, h.get? b = some o → b ∉ ((h₃.objs.size + 1) :: h₂.objs.size :: [I] : List Addr) := fun b o e hm => by
      rcases List.mem_cons.mp hm with rfl | hm
      · rw [hcn] at e; cases e
      · rcases List.mem_cons.mp hm with rfl | hm
        · rw [hDn] at e; cases e
        · rw [List.mem_singleton.mp hm, hI] at e; cases e
    exact ⟨fun b o hb e => k.keep b o (hnot b o e) hb (kk b o e), fun b o e => k.up b (hnot b o e) o (kk b o e)⟩
  have loop : codeAny (model prog w) A (.compLoop (.ListComp elt [⟨.Name x px, iter, [], 0⟩] scope pos) 0 (.ref I) (.ref h₂.objs.size) (compEnvC scope ((x, h₃.objs.size + 1) :: cl) h₃.objs.size env))
        (compPost (model prog w) A E none Q (.ref h₂.objs.size) h₃.objs.size) ⟨h₄, g, d, t, os⟩ := by
    refine comp_loopK (fs := fs) (c := h₃.objs.size + 1) (cenv := compEnvC scope ((x, h₃.objs.size + 1) :: cl) h₃.objs.size env) W f (fun i h' st b hb => by rw [List.mem_singleton.mp hb]; exact hlive i h' st) hx (by simp [compEnvC, relabel, hkind]) (by simp [compEnvC])
      (by rw [hsz]; show h₂.objs.size ≠ h₂.objs.size + 1 + 1; omega) (nfp (Nat.le_refl _)) (nfp (by rw [hsz]; omega)) (hf.new hDn) (hf.new hcn) (fun b hb => (hfp b hb).2) hst₄ hacc hcell (Nat.le_trans hn (by decide))
      (fun i v h₅ g₅ t₅ hi hP k G hc => hq _ _ i v h₅ g₅ t₅ hi hP (tostay k) G hCn hcn hc) fun h' g' t' ys k G hpl hI' => ?_
    have hCx : h₃.objs.size ∉ ((h₃.objs.size + 1) :: h₂.objs.size :: [I] : List Addr) := by
      intro hm
      rcases List.mem_cons.mp hm with e | hm
      · exact Nat.succ_ne_self _ e.symm
      · rcases List.mem_cons.mp hm with e | hm
        · rw [hsz] at e; exact Nat.succ_ne_self _ e
        · have e := List.mem_singleton.mp hm
          obtain ⟨o, ho⟩ := hlive _ _ hst
          have := Heap.lt_size ho
          rw [← e, hsz] at this
          exact absurd this (Nat.not_lt.mpr (Nat.le_succ _))
    refine ⟨_, ns_up hns (k.up _ hCx), fun h'' hs'' => ?_⟩
    have hDC : h₂.objs.size ≠ h₃.objs.size := by rw [hsz]; exact Nat.ne_of_lt (Nat.lt_succ_self _)
    refine hQ h'' g' t' _ ⟨fun b o hb e => ?_, fun b o e => ?_⟩ G ?_
    · exact hs''.extBut b o (by rintro rfl; rw [hCn] at e; cases e) ((tostay k).ex b o hb e)
    · exact ((tostay k).up b).trans (fun o' e' => upr (hs''.extBut b o' (by rintro rfl; rw [hCn] at e; cases e) e')) o e
    · simp only [Is]
      obtain ⟨nn, hpl'⟩ := hpl.at fun o e => hs''.extBut _ o hDC e
      refine ⟨_, ys.toList, nn, rfl, hDn, hpl', ?_⟩
      have hnone : ∀ a, h₄.get? a = none → h.get? a = none := fun a q => by
        rcases get_none_or h a with z | ⟨o, z⟩
        · exact z
        · rw [kk a o z] at q; cases q
      have hC₄ : ∃ o, h₄.get? h₃.objs.size = some o := by obtain ⟨o, _, _, ho, _⟩ := hns; exact ⟨o, ho⟩
      exact hI'.up (fun a q => hnone a q.1) fun a q o e => upr (hs''.extBut a o (by rintro rfl; obtain ⟨o', ho'⟩ := hC₄; rw [q.1] at ho'; cases ho') e)
  exact codeAny_compStart_list loop (W.self 0 _ _ _ hst₄ loop)
end
mutual
theorem Is.solidC {P : Addr → Prop} {h : Heap} : ∀ {d : D} {v : Value}, Is P h d v → Is (fun b => P b ∧ ∀ o, h.get? b = some o → ∀ x, o.data ≠ .cell x) h d v
  | .int _, _, x => x
  | .str _, _, x => x
  | .bool _, _, x => x
  | .list l, v, x => by
    simp only [Is] at x ⊢
    obtain ⟨a, vs, n, e, p, hl, y⟩ := x
    exact ⟨a, vs, n, e, ⟨p, fun o ho z q => by rw [hl] at ho; cases ho; cases q⟩, hl, IsAll.solidC y⟩
  | .tup l, v, x => by
    simp only [Is] at x ⊢
    obtain ⟨a, vs, n, e, p, hl, y⟩ := x
    exact ⟨a, vs, n, e, ⟨p, fun o ho z q => by rw [hl] at ho; cases ho; cases q⟩, hl, IsAll.solidC y⟩
  | .rng _, v, x => by
    simp only [Is] at x ⊢
    obtain ⟨a, t, u, n, e, p, hl⟩ := x
    exact ⟨a, t, u, n, e, ⟨p, fun o ho z q => by rw [show h.get? a = _ from hl] at ho; cases ho; cases q⟩, hl⟩
theorem IsAll.solidC {P : Addr → Prop} {h : Heap} : ∀ {ds : List D} {vs : List Value}, IsAll P h ds vs → IsAll (fun b => P b ∧ ∀ o, h.get? b = some o → ∀ x, o.data ≠ .cell x) h ds vs
  | [], _, x => x
  | d :: ds, vs, x => by
    simp only [IsAll] at x ⊢
    obtain ⟨v, r, e, y, z⟩ := x
    exact ⟨v, r, e, Is.solidC y, IsAll.solidC z⟩
end
/-- a store into a cell leaves the data -/
theorem Is.sameC {P : Addr → Prop} {h h' : Heap} {c : Addr} {v₀ : Option Value} {d : D} {v : Value} (x : Is P h d v) (hn : h.IsCell c v₀) (hs : Heap.SameBut c h h') : Is P h' d v := by
  obtain ⟨oc, hc, hd⟩ := hn
  exact x.solidC.up (fun _ p => p.1) fun a p o e => upr (hs.extBut a o (by rintro rfl; exact p.2 _ hc _ hd) e)
theorem Heap.SameBut.stays {fs : List Addr} {h₀ h h' : Heap} {L : Addr} (k : Stays fs h₀ h) (hs : Heap.SameBut L h h') (hL : h₀.get? L = none) : Stays fs h₀ h' := by
  have n : ∀ {b o}, h₀.get? b = some o → b ≠ L := by rintro b o e rfl; rw [hL] at e; cases e
  exact ⟨fun b o hb e => hs.extBut _ _ (n e) (k.ex b o hb e), fun b o e => (k.up b).trans (fun o' e' => upr (hs.extBut _ _ (n e) e')) o e⟩
theorem Is.strsAre {P : Addr → Prop} {h : Heap} {l : List Str} {v : Value} (x : Is P h (strsD l) v) : ∃ a vs, v = .ref a ∧ h.IsList a (List.toArray vs) ∧ StrsAre vs l := by
  simp only [strsD, Is] at x
  obtain ⟨a, vs, n, e, _, ho, y⟩ := x
  refine ⟨a, vs, e, ⟨_, ho, rfl, n, rfl⟩, ?_⟩
  have go : ∀ (l : List Str) (vs : List Value), IsAll P h (l.map .str) vs → StrsAre vs l := by
    intro l
    induction l with
    | nil => intro vs y; simp only [List.map_nil, IsAll] at y; subst y; exact .nil
    | cons s l ih =>
      intro vs y
      simp only [List.map_cons, IsAll] at y
      obtain ⟨v, r, rfl, hv, hr⟩ := y
      obtain ⟨t, rfl⟩ := hv.str
      exact .cons _ _ (ih r hr)
  exact go l vs y
section
variable {prog : Program} {w : World} {A : Around} {E : Value → Shared → Prop} {h : Heap} {g : Array GenState} {d : Drawn} {t : Nat} {os : OsState} {P P' : Addr → Prop} {Q : Value → Shared → Prop}
theorem e_item {value slice : PySem.Expr} {x : Str} {i : Int} {u v : Tok} (h0 : 0 ≤ i) (h1 : i < x.length) (hl : x.length ≤ 1000) (q : ∀ t' u', Q (.str (PySem.Txt.item x i) u') ⟨h, g, d, t', os⟩)
    (hs : subscripted slice false (.str x u) (.int i v) = operate [.str x u, .int i v] (getItem (.str x u) (.int i v))) (ht : ∀ r, letTemporaryGo value (.str x u) r = pure ()) :
    wpAny (model prog w) A (subscriptTail value slice (.str x u) (.int i v)) Q E ⟨h, g, d, t, os⟩ := by
  refine item_str ?_ (by omega) h1 (fun _ => q _ _) hs ht
  unfold PySem.fitsSsize
  rw [decide_eq_false (by omega), decide_eq_false (by omega)]; rfl
theorem e_slice {value slice : PySem.Expr} {x : Str} {i j : Int} {u ui uj : Tok} (hl : x.length ≤ 1000) (q : ∀ h' t' u', Ext h h' → Q (.str (PySem.Txt.slice x (some i) (some j)) u') ⟨h', g, d, t', os⟩)
    (hs : subscripted slice false (.str x u) (.ref h.objs.size) = operate [.ref h.objs.size, .str x u] (getItem (.str x u) (.ref h.objs.size))) (ht : ∀ r, letTemporaryGo value (.str x u) r = pure ()) :
    wpAny (model prog w) A (subscriptTail value slice (.str x u) (.ref h.objs.size)) Q E ⟨h.push { cls := .type "slice", data := .fields #[.int i ui, .int j uj, .none] }, g, d, t, os⟩ :=
  tail_of_ItemOn (SBH.sliceItem_ss (s := ⟨h, g, d, t, os⟩) (P := fun h' => Ext h h') (fun _ _ k => Ext.trans k (ext_push _)) (Ext.refl h) (fun h' t' k hk => q h' k t' hk) (by simp [sizeLine]; omega)) hs ht
theorem e_inS {x y : Str} {u v : Tok} (q : Q (.bool (PySem.Txt.contains x y)) ⟨h, g, d, t, os⟩) : wpAny (model prog w) A (compareOp .In (.str y u) (.str x v)) Q E ⟨h, g, d, t, os⟩ := PyProof.Rows.in_str q
theorem e_notinS {x y : Str} {u v : Tok} (q : Q (.bool (!PySem.Txt.contains x y)) ⟨h, g, d, t, os⟩) : wpAny (model prog w) A (compareOp .NotIn (.str y u) (.str x v)) Q E ⟨h, g, d, t, os⟩ := PyProof.Rows.notIn_str q
theorem e_inL {s : Str} {l : List Str} {u : Tok} {v : Value} (x : Is P h (strsD l) v) (q : Q (.bool (l.any (· == s))) ⟨h, g, d, t, os⟩) : wpAny (model prog w) A (compareOp .In (.str s u) v) Q E ⟨h, g, d, t, os⟩ := by
  obtain ⟨a, vs, rfl, hl, hs⟩ := x.strsAre
  exact in_list_strs hl hs q
theorem strs_at {k : Str} : ∀ {vs : List Value} {ys : List Str}, StrsAre vs ys → ∀ (j : Nat) (h1 : j < vs.length) (h2 : j < ys.length), isStrOf k vs[j] = (ys[j] == k)
  | _, _, .cons y t r, 0, _, _ => rfl
  | _, _, .cons y t r, j + 1, h1, h2 => strs_at r j (by simpa using h1) (by simpa using h2)
theorem idx_min {α : Type} [BEq α] [LawfulBEq α] {s : α} : ∀ (l : List α) (j : Nat) (h : j < l.length), l[j] = s → ¬ j < l.idxOf s
  | x :: l, 0, _, e => by
    have e : x = s := e
    subst e
    simp [List.idxOf_cons]
  | x :: l, j + 1, h, e => by
    have ih := idx_min l j (by simpa using h) (by simpa using e)
    rw [List.idxOf_cons]
    cases x == s <;> simp <;> omega
theorem e_index {s : Str} {l : List Str} {u : Tok} {a : Addr} (x : Is P h (strsD l) (.ref a)) (hm : s ∈ l) (hl : l.length ≤ 1000) (q : ∀ t' u', Q (.int (l.idxOf s : Nat) u') ⟨h, g, d, t', os⟩) :
    wpAny (model prog w) A (call (.builtin "list.index") [.ref a, .str s u]) Q E ⟨h, g, d, t, os⟩ := by
  obtain ⟨_, vs, e, hL, hS⟩ := x.strsAre
  cases e
  obtain ⟨⟨cls, dd, data, sl⟩, ho, hc, n, hd⟩ := id hL
  simp only at hc hd
  subst hc hd
  have hlen := hS.length
  have hj : l.idxOf s < l.length := List.idxOf_lt_length_iff.mpr hm
  refine call_meets PySem.F.slot_list_index ⟨_, ho, rfl⟩ PySem.F.entry_list_index (PySem.F.args_list_index_2 _ _)
    (PySem.SeqAt.list_indexAt a vs.toArray n dd sl (.str s u) (isStrOf s) (l.idxOf s) (by simpa [hlen] using hj) (by omega) ?_ ?_) ⟨ho, fun y hy => (eq_isStrOf s u hS y (by simpa using hy)).at _ _, q _ _⟩
  · show isStrOf s vs[l.idxOf s] = true
    rw [strs_at hS _ (by omega) hj]
    simp
  · intro j hjs hlt
    show isStrOf s vs[j] = false
    have hj' : j < l.length := by omega
    rw [strs_at hS j (by simpa using hjs) hj']
    cases e : (l[j] == s) with
    | false => rfl
    | true =>
      have h2 : l.idxOf s ≤ j := by
        have e' : l[j] = s := by simpa using e
        exact Nat.le_of_not_lt fun hlt' => idx_min l j hj' e' hlt'
      omega
end
-- the walk's plain functions
noncomputable def namesN (ms : List Mem) : List Str := ms.map (·.2.1)
noncomputable def rightN (sg : List Str) (user : Int) (k : Nat) : Str := PySem.Txt.slice (sg.getD k (Str.ofString "")) (some ((user + k) % 3 * 3 + 1)) (some ((user + k) % 3 * 3 + 4))
noncomputable def freeB (sg : List Str) (user : Int) (k : Nat) : Bool := PySem.Txt.item (sg.getD k (Str.ofString "")) 0 == Str.ofString "d" && PySem.Txt.contains (Str.ofString "xst") (PySem.Txt.item (rightN sg user k) 2)
noncomputable def freeL (ms : List Mem) (sg : List Str) (user : Int) : List Str := ((List.range ms.length).filter (freeB sg user)).map fun k => (namesN ms).getD k (Str.ofString "")
noncomputable def shutL (ms : List Mem) (sg : List Str) (wss : List (List Str)) (user : Int) : List (List Str) := wss.map fun way => way.filter fun s => !decide (s ∈ freeL ms sg user)
noncomputable def belowL (ms : List Mem) (wss : List (List Str)) (k : Nat) : List Nat := (List.range ms.length).filter fun n => (wss.getD n []).any (· == (namesN ms).getD k (Str.ofString ""))
noncomputable def fine0 (ms : List Mem) (sg : List Str) (wss : List (List Str)) (user : Int) (k : Nat) : Bool := ((shutL ms sg wss user).getD k []).isEmpty && ((belowL ms wss k).isEmpty || PySem.Txt.item (rightN sg user k) 0 == Str.ofString "r")
noncomputable def foldN (ms : List Mem) (wss : List (List Str)) (k : Nat) : Nat := (namesN ms).idxOf ((wss.getD k []).getD 0 (Str.ofString ""))
noncomputable def ownsN (ms : List Mem) (wss : List (List Str)) (user : Int) (k : Nat) : Bool := (user + k) % 3 == 0 || (user + foldN ms wss k) % 3 == 0
noncomputable def fine1 (ms : List Mem) (sg : List Str) (wss : List (List Str)) (user : Int) (k : Nat) : Bool :=
  PySem.Txt.item (rightN sg user (foldN ms wss k)) 1 == Str.ofString "w" && (!PySem.Txt.contains (Str.ofString "tT") (PySem.Txt.item (sg.getD (foldN ms wss k) (Str.ofString "")) 9) || ownsN ms wss user k)
noncomputable def fineN (ms : List Mem) (sg : List Str) (wss : List (List Str)) (user : Int) (k : Nat) : Bool :=
  if (fine0 ms sg wss user k && !(wss.getD k []).isEmpty) = true then fine1 ms sg wss user k else fine0 ms sg wss user k
noncomputable def goodL (ms : List Mem) (sg : List Str) (wss : List (List Str)) (user : Int) (n : Nat) : List Int := ((List.range n).filter (fineN ms sg wss user)).map fun k : Nat => (k : Int)
noncomputable def selfL (ms : List Mem) (wss : List (List Str)) (k : Nat) : List Int := (k :: belowL ms wss k).map fun k : Nat => (k : Int)
noncomputable def goneB (ms : List Mem) (sg : List Str) (wss : List (List Str)) (user : Int) (k : Nat) : Bool := ((selfL ms wss k).filter fun j => !decide (j ∈ goodL ms sg wss user ms.length)).isEmpty
/-- what _law_told answers -/
noncomputable def toldD (ms : List Mem) (sg : List Str) (wss : List (List Str)) (user : Int) : D := .tup [dsD (shutL ms sg wss user), .list (((List.range ms.length).filter (goneB ms sg wss user)).map fun k : Nat => .int (k : Int))]
theorem Stays.cut {fs : List Addr} {h h₁ h₂ : Heap} {L : Addr} (k : Stays fs h h₁) (k₂ : Stays (L :: fs) h₁ h₂) (hL : h.get? L = none) : Stays fs h h₂ :=
  ⟨fun b o hb e => k₂.ex b o (fun hm => by rcases List.mem_cons.mp hm with rfl | hm; · rw [hL] at e; cases e
                                           · exact hb hm) (k.ex b o hb e), k.up.trans k₂.up⟩
mutual
theorem Is.live {P : Addr → Prop} {h : Heap} : ∀ {d : D} {v : Value}, Is P h d v → Is (fun b => P b ∧ ∃ o, h.get? b = some o) h d v
  | .int _, _, x => x
  | .str _, _, x => x
  | .bool _, _, x => x
  | .list l, v, x => by
    simp only [Is] at x ⊢
    obtain ⟨a, vs, n, e, p, hl, y⟩ := x
    exact ⟨a, vs, n, e, ⟨p, _, hl⟩, hl, IsAll.live y⟩
  | .tup l, v, x => by
    simp only [Is] at x ⊢
    obtain ⟨a, vs, n, e, p, hl, y⟩ := x
    exact ⟨a, vs, n, e, ⟨p, _, hl⟩, hl, IsAll.live y⟩
  | .rng _, v, x => by
    simp only [Is] at x ⊢
    obtain ⟨a, t, u, n, e, p, hl⟩ := x
    exact ⟨a, t, u, n, e, ⟨p, _, hl⟩, hl⟩
theorem IsAll.live {P : Addr → Prop} {h : Heap} : ∀ {ds : List D} {vs : List Value}, IsAll P h ds vs → IsAll (fun b => P b ∧ ∃ o, h.get? b = some o) h ds vs
  | [], _, x => x
  | d :: ds, vs, x => by
    simp only [IsAll] at x ⊢
    obtain ⟨v, r, e, y, z⟩ := x
    exact ⟨v, r, e, Is.live y, IsAll.live z⟩
end
theorem Is.apart {P : Addr → Prop} {h : Heap} {d : D} {v : Value} {a : Addr} (x : Is P h d v) (ha : h.get? a = none) : Is (fun b => P b ∧ b ≠ a) h d v :=
  x.live.weaken fun b p => ⟨p.1, by rintro rfl; obtain ⟨_, o, e⟩ := p; rw [ha] at e; cases e⟩
/-- but for the frame's locals and the list at D all stands -/
theorem Is.but2 {P : Addr → Prop} {h h' : Heap} {L a : Addr} {m : Str → Option Value} {d : D} {v : Value} (x : Is (fun b => P b ∧ b ≠ a) h d v) (hn : h.Ns L m) (k : ∀ b o, b ≠ L → b ≠ a → h.get? b = some o → h'.get? b = some o) : Is (fun b => P b ∧ b ≠ a) h' d v := by
  obtain ⟨oL, es, ep, hL, hdL, _⟩ := hn
  exact x.solid.up (fun _ p => p.1) fun b p o e => upr (k b o (by rintro rfl; exact p.2 _ hL _ _ hdL) p.1.2 e)
/-- a list of ints at D -/
noncomputable def PermI (h : Heap) (D : Addr) (ys : List Int) : Prop := ∃ vs n, h.get? D = some { cls := .type "list", data := .seq vs n } ∧ IntsAre vs.toList ys
theorem PermI.at_ {h h' : Heap} {D : Addr} {ys : List Int} (x : PermI h D ys) (k : ∀ o, h.get? D = some o → h'.get? D = some o) : PermI h' D ys := let ⟨vs, n, e, s⟩ := x; ⟨vs, n, k _ e, s⟩
theorem PermI.live {h : Heap} {D : Addr} {ys : List Int} (x : PermI h D ys) : ∃ o, h.get? D = some o := let ⟨_, _, e, _⟩ := x; ⟨_, e⟩
theorem PermI.is {h : Heap} {D : Addr} {ys : List Int} (x : PermI h D ys) : Is Any h (.list (ys.map .int)) (.ref D) := by
  obtain ⟨vs, n, e, s⟩ := x
  simp only [Is]
  exact ⟨D, vs.toList, n, rfl, trivial, by simpa using e, ints_all s⟩
theorem PermI.ne {h : Heap} {D L : Addr} {ys : List Int} {m : Str → Option Value} (x : PermI h D ys) (hn : h.Ns L m) : D ≠ L := by
  rintro rfl
  obtain ⟨vs, n, e, _⟩ := x
  obtain ⟨o, _, _, ho, hd, _⟩ := hn
  rw [e] at ho; cases ho; cases hd
section
variable {prog : Program} {w : World} {A : Around} {E : Value → Shared → Prop} {h : Heap} {g : Array GenState} {d : Drawn} {t : Nat} {os : OsState} {P P' : Addr → Prop}
theorem permI_append {D : Addr} {ys : List Int} {y : Int} {u : Tok} {Q : Value → Shared → Prop} (x : PermI h D ys) (hy : ys.length ≤ 1000) (q : ∀ h', Heap.SameBut D h h' → PermI h' D (ys ++ [y]) → Q .none ⟨h', g, d, t, os⟩) :
    wpAny (model prog w) A (call (.builtin "list.append") [.ref D, .int y u]) Q E ⟨h, g, d, t, os⟩ := by
  obtain ⟨vs, n, e, s⟩ := x
  refine append_at e (fun h' hs ho' => q h' hs ⟨_, _, ho', ?_⟩) (by have := s.length; simp at this; simp [sizeLine]; omega)
  rw [Array.toList_push]
  exact s.append (.cons _ _ .nil)
theorem e_mulI {a b : Int} {u v : Tok} {Q : Value → Shared → Prop} (hb : IntMulOk a b) (x : Q (.int (a * b) t) ⟨h, g, d, t + 1, os⟩) : wpAny (model prog w) A (binaryOp .Mult (.int a u) (.int b v)) Q E ⟨h, g, d, t, os⟩ := PyProof.Rows.mul_int x hb
end
theorem range_getD {α β : Type} (l : List α) (dflt : α) (f : α → β) : ((List.range l.length).filter fun _ => true).map (fun i => f (l.getD i dflt)) = l.map f := by
  have e : l = (List.range l.length).map fun i => l.getD i dflt := by
    apply List.ext_getElem
    · simp
    · intro i h1 h2; simp [h1]
  have hf : ∀ (r : List Nat), r.filter (fun _ => true) = r := fun r => List.filter_eq_self.mpr fun _ _ => rfl
  rw [hf]
  conv => rhs; rw [e, List.map_map]
  rfl
theorem get_getD {α : Type} {l : List α} {i : Nat} (dflt : α) (h : i < l.length) : l[i]? = some (l.getD i dflt) := by
  rw [List.getD_eq_getElem?_getD, List.getElem?_eq_getElem h]; rfl
theorem namesN_len (ms : List Mem) : (namesN ms).length = ms.length := by simp [namesN]
theorem slice_plain (x : Str) {a b : Nat} (hab : a ≤ b) (hb : b ≤ x.length) : (PySem.Txt.slice x (some (a : Int)) (some (b : Int))).cps.toList = (x.cps.toList.drop a).take (b - a) := by
  have h := StrLaws.sliced_plain x hab hb
  unfold PySem.Txt.slice
  split
  · rename_i hc
    rw [StrLaws.strSliceIndices_plain hab hb] at hc
    have hc2 : b - a = x.length := by simpa using hc
    have : x.cps.toList.length = x.length := by simp [Str.length]
    have ha : a = 0 := by omega
    subst ha
    rw [List.drop_zero, List.take_of_length_le (by omega)]
  · simpa using h
theorem right_cps {sg : List Str} {user : Int} {k : Nat} (h : (sg.getD k (Str.ofString "")).length = 10) : (rightN sg user k).cps.toList = ((sg.getD k (Str.ofString "")).cps.toList.drop (((user + k) % 3).toNat * 3 + 1)).take 3 := by
  have e1 : (user + (k : Int)) % 3 * 3 + 1 = ((((user + k) % 3).toNat * 3 + 1 : Nat) : Int) := by omega
  have e2 : (user + (k : Int)) % 3 * 3 + 4 = ((((user + k) % 3).toNat * 3 + 4 : Nat) : Int) := by omega
  unfold rightN
  rw [e1, e2, slice_plain _ (by omega) (by omega)]
  congr 1
  omega
theorem right_len {sg : List Str} {user : Int} {k : Nat} (h : (sg.getD k (Str.ofString "")).length = 10) : (rightN sg user k).length = 3 := by
  have e := right_cps (user := user) h
  have e2 : (rightN sg user k).length = (rightN sg user k).cps.toList.length := by simp [Str.length]
  have e3 : (sg.getD k (Str.ofString "")).cps.toList.length = 10 := by simpa [Str.length] using h
  rw [e2, e, List.length_take, List.length_drop, e3]
  omega
theorem sxcut {fs : List Addr} {h h₁ h₂ : Heap} {L : Addr} (k : Stays fs h h₁) (k₂ : SX [L] (L :: fs) h₁ h₂) (hL : h.get? L = none) : Stays fs h h₂ := by
  have n : ∀ {b o}, h.get? b = some o → b ∉ [L] := fun e hm => by rw [List.mem_singleton.mp hm, hL] at e; cases e
  exact ⟨fun b o hb e => k₂.keep b o (n e) (fun hm => by
    rcases List.mem_cons.mp hm with rfl | hm
    · rw [hL] at e; cases e
    · exact hb hm) (k.ex b o hb e), fun b o e => (k.up b).trans (k₂.up b (n e)) o e⟩
theorem Is.sxL {P : Addr → Prop} {h h' : Heap} {L : Addr} {m : Str → Option Value} {fs : List Addr} {d : D} {v : Value} (x : Is P h d v) (hn : h.Ns L m) (k : SX [L] fs h h') : Is P h' d v := by
  obtain ⟨oL, es, ep, hL, hdL, _⟩ := hn
  exact x.solid.up (fun _ p => p.1) fun a p => k.up a fun hm => by
    rw [List.mem_singleton.mp hm] at p
    exact p.2 _ hL _ _ hdL
theorem n_cell1 {M : Model} {A : Around} {E : Value → Shared → Prop} {s : Shared} {env : Env} {c : Addr} {x : Str} {pos : Pos} {v : Value} {Q : Value → Shared → Prop} (hn : s.heap.IsCell c (some v)) (q : Q v s) (h1 : env.cells.lookup x = some c := by rfl)
    (hk : env.scope.kind = .function := by rfl) (hl : env.kindOf x = some .cell := by rfl) (hd : (x == ("__debug__" : Str)) = false := by decide) : wpAny M A (eval (.Name x pos) env) Q E s :=
  wpAny_Name (wpAny_loadName_cell hk hl h1 hn q) hd
theorem e_newPermI {M : Model} {A : Around} {E : Value → Shared → Prop} {h : Heap} {g : Array GenState} {d : Drawn} {t : Nat} {os : OsState} {Q : Value → Shared → Prop} (q : ∀ h' D, Ext h h' → h.get? D = none → PermI h' D [] → Q (.ref D) ⟨h', g, d, t, os⟩) :
    wpAny M A (newList []) Q E ⟨h, g, d, t, os⟩ :=
  wpAny_newObj_type (q _ _ (ext_push _) (none_ge (Nat.le_refl _)) ⟨#[], 0, Heap.get?_push_size _ rfl, .nil⟩)
theorem PermI.sameC {h h' : Heap} {D c : Addr} {ys : List Int} {v₀ : Option Value} (x : PermI h D ys) (hn : h.IsCell c v₀) (hs : Heap.SameBut c h h') : PermI h' D ys := by
  obtain ⟨oc, hc, hd⟩ := hn
  refine x.at_ fun o e => hs.extBut _ _ ?_ e
  rintro rfl
  obtain ⟨vs, n, e', _⟩ := x
  rw [e'] at hc; cases hc; cases hd
theorem FS.but2 {h h' : Heap} {L D : Addr} {m m' : Str → Option Value} {cs : List (Str × Addr)} {cm : Str → Option Value} {ys : List Int} (F : FS h L m cs cm) (x : PermI h D ys) (k : ∀ b o, b ≠ L → b ≠ D → h.get? b = some o → h'.get? b = some o) (hn : h'.Ns L m') : FS h' L m' cs cm := by
  refine ⟨hn, fun n c e => ?_, F.apart⟩
  obtain ⟨o, ho, hd⟩ := F.cells n c e
  refine ⟨o, k _ _ ?_ ?_ ho, hd⟩
  · rintro rfl
    obtain ⟨o', _, _, ho', hd', _⟩ := F.ns
    rw [ho] at ho'; cases ho'; rw [hd] at hd'; cases hd'
  · rintro rfl
    obtain ⟨vs, n, e', _⟩ := x
    rw [e'] at ho; cases ho; cases hd
theorem goodL_succ (ms : List Mem) (sg : List Str) (wss : List (List Str)) (user : Int) (n : Nat) : goodL ms sg wss user (n + 1) = goodL ms sg wss user n ++ (if fineN ms sg wss user n = true then [(n : Int)] else []) := by
  unfold goodL
  rw [List.range_succ, List.filter_append, List.map_append]
  congr 1
  by_cases h : fineN ms sg wss user n = true
  · simp [h]
  · simp [h]
theorem goodL_len (ms : List Mem) (sg : List Str) (wss : List (List Str)) (user : Int) (n : Nat) : (goodL ms sg wss user n).length ≤ n := by
  unfold goodL
  rw [List.length_map]
  exact Nat.le_trans (List.length_filter_le _ _) (by rw [List.length_range]; exact Nat.le_refl _)
theorem shut_getD (ms : List Mem) (sg : List Str) (wss : List (List Str)) (user : Int) {i : Nat} (h : i < wss.length) : (shutL ms sg wss user).getD i [] = (wss.getD i []).filter fun s => !decide (s ∈ freeL ms sg user) := by
  rw [List.getD_eq_getElem?_getD, shutL, List.getElem?_map, get_getD [] h]; rfl
theorem getD_mem {α : Type} {l : List α} {i : Nat} (dflt : α) (h : i < l.length) : l.getD i dflt ∈ l := List.mem_of_getElem? (get_getD dflt h)
local macro_rules | `(tactic| walk_at "e") => `(tactic| first
  | ((with_reducible refine e_mulI ?hb ?_); (case hb => exact PySem.IntMulOk.of_right (by decide))))
set_option maxRecDepth 100000 in
set_option maxHeartbeats 1000000 in
theorem told_spec {w mg mb A E} {hB h : Heap} {g : Array GenState} {d : Drawn} {t : Nat} {os : OsState} {Q : Value → Shared → Prop} {fs : List Addr} {ms : List Mem} {sg : List Str} {wss : List (List Str)} {lv sv wv : Value} {user : Int} {t1 : Tok}
    (wf : Wf ms) (W₀ : Wd w mg mb hB) (kB : Ext hB h) (Sk : Stk A fs hB h) (hd : Rm A 20) (h10 : ∀ s ∈ sg, s.length = 10) (hsg : sg.length = ms.length) (hws : wss.length = ms.length) (okd : OkD wss) (hwl : ∀ l ∈ wss, l.length < 900) (hin : ∀ l ∈ wss, ∀ s ∈ l, s ∈ namesN ms)
    (hl : Is Any h (memD ms) lv) (hs : Is Any h (strsD sg) sv) (hw : Is Any h (dsD wss) wv)
    (x : ∀ h' g' t' v, Stays fs h h' → GK g g' → Is (New h) h' (toldD ms sg wss user) v → Q v ⟨h', g', d, t', os⟩) :
    wpAny (model PG w) A (call (.ref 213) [lv, sv, wv, .int user t1]) Q E ⟨h, g, d, t, os⟩ := by
  have W := W₀.keeps kB
  have hlen := wf.len
  have hLn : h.get? h.objs.size = none := none_ge (Nat.le_refl _)
  have hd₁ := hd.deeper
  refine enterC W (by k_is) (by k_is) (by have := hd.d; omega) (by rfl) (by rfl) (fun h₁ t₁ k₁ F₁ hab => ?_) rfl rfl rfl
  have hcn : ∀ n c, List.lookup n _ = some c → h.get? c = none := fun n c e => none_ge (Nat.le_of_lt (hab n c (mem_of_lookup e)))
  have stk : ∀ {h' : Heap} {m : Str → Option Value}, Stays fs h h' → h'.Ns h.objs.size m → ∀ env : Env, env.frame = some h.objs.size → env.scope.kind ≠ .module → Stk (A.deeper env) (h.objs.size :: fs) hB h' := fun k n env hf hk => Sk.deeper k.up kB hLn n hf hk
  have frk : ∀ {h' : Heap} {m : Str → Option Value}, Stays fs h h' → h'.Ns h.objs.size m → FrOk (h.objs.size :: fs) h' := fun k n => (stk k n { (default : Env) with scope := { (default : Scope) with kind := .function }, frame := some h.objs.size } rfl (fun q => by cases q)).ok
  have wd : ∀ {h' : Heap}, Stays fs h h' → Wd w mg mb h' := fun k => W₀.keeps (k.ext kB Sk.new)
  have q₁ : Stays fs h h₁ := k₁.stays
  have W₁ := W.keeps k₁
  have hl₁ := hl.ups k₁.up
  repeat (walk_at "e")
  refine c_type1 W₁ (by k_is) (by rfl) ?_
  refine c_blt1 W₁ (by k_is) (by rfl) ?_
  repeat (walk_at "e")
  refine e_len hl₁ (by rw [List.length_map]; omega) (fun u₂ t₂ => ?_)
  rw [List.length_map]
  refine e_range (P := New h) (new_top k₁) (fun h₂ t₃ ev k₂ hev => ?_)
  have F₂ := F₁.up k₂.up
  refine st_cell F₂ (fun h₃ F₃ s₃ => ?_)
  have q₃ : Stays fs h h₃ := Heap.SameBut.stays (q₁.trans k₂.stays) s₃ (hcn (Str.ofString "every") _ (by rfl))
  have e₃ := hev.sameC (F₂.cells (Str.ofString "every") _ (by rfl)) s₃
  -- names
  refine wpAny_execs_cons ?_
  repeat (walk_at "e")
  refine eval_comp (os := os) (d := d) (fs := h.objs.size :: fs) (p := fun _ => true) (f := fun n => .str ((namesN ms).getD n (Str.ofString ""))) hd.h (by rfl) (by decide) (by rfl) (by decide) (by rfl) ?_ (by intro _; rfl)
  repeat (walk_at "e")
  obtain ⟨Pv, S, hPv⟩ := (hl.ups q₃.up).src
  rw [List.length_map] at S
  refine ⟨h₃, g, _, ms.length, Pv, S, frk q₃ F₃.ns, by omega, ⟨?_, ?_⟩, ?_⟩
  · intro C i v h₄ g₄ t₄ m₄ hi hP hst hG hC hns hm
    exact ifs_nil ⟨rfl, _, _, _, rfl, .refl .., id⟩
  · intro C i v h₄ g₄ t₄ m₄ hi hP hpi hst hG hC hns hm
    obtain ⟨dd, hdd, hy⟩ := hPv i v hP
    rw [List.getElem?_map, List.getElem?_eq_getElem hi] at hdd
    cases hdd
    have hy := hy.ups hst.up
    repeat (walk_at "e")
    refine sub_tupD hy (by decide) (by decide) rfl (fun y hy => ?_) (fun _ => rfl)
    obtain ⟨u, rfl⟩ := hy.str
    refine ⟨_, _, _, rfl, .refl .., id, ?_⟩
    simp only [Is]
    exact ⟨u, by simp [namesN, hi]⟩
  · intro h₄ g₄ t₄ nv k₄ G₄ hnv
    rw [← namesN_len ms, range_getD (namesN ms) (Str.ofString "") D.str] at hnv
    have F₄ := F₃.up k₄.up
    have q₄ := q₃.cut k₄ hLn
    have e₄ := e₃.up (h' := h₄) (fun _ p => p) fun a _ => k₄.up a
    have n₄ : Is (New h) h₄ (strsD (namesN ms)) nv := hnv.weaken (new_mono q₃.up)
    refine st_cell F₄ (fun h₅ F₅ s₅ => ?_)
    have q₅ : Stays fs h h₅ := Heap.SameBut.stays q₄ s₅ (hcn (Str.ofString "names") _ (by rfl))
    have e₅ := e₄.sameC (F₄.cells (Str.ofString "names") _ (by rfl)) s₅
    have n₅ := n₄.sameC (F₄.cells (Str.ofString "names") _ (by rfl)) s₅
    -- rights
    refine wpAny_execs_cons ?_
    repeat (walk_at "e")
    refine eval_comp (os := os) (d := d) (fs := h.objs.size :: fs) (p := fun _ => true) (f := fun n => .str (rightN sg user n)) hd.h (by rfl) (by decide) (by rfl) (by decide) (by rfl) ?_ (by intro _; rfl)
    repeat (walk_at "e")
    obtain ⟨Pv, S, hPv⟩ := e₅.srcR
    refine ⟨h₅, _, _, ms.length, Pv, S, frk q₅ F₅.ns, by omega, ⟨?_, ?_⟩, ?_⟩
    · intro C i v h₆ g₆ t₆ m₆ hi hP hst hG hC hns hm
      exact ifs_nil ⟨rfl, _, _, _, rfl, .refl .., id⟩
    · intro C i v h₆ g₆ t₆ m₆ hi hP hpi hst hG hC hns hm
      obtain ⟨ki, rfl⟩ := hPv i v hP
      have F₆ := F₅.up hst.up
      have c₆ := F₆.cells
      repeat (walk_at "e")
      refine sub_listD (hs.ups ((q₅.cut hst hLn).up)) (by omega) (by omega) (d' := .str (sg.getD i (Str.ofString ""))) (by rw [Int.toNat_natCast, List.getElem?_map, get_getD (Str.ofString "") (by omega)]; rfl) (fun y hy => ?_) (fun _ => rfl)
      obtain ⟨u, rfl⟩ := hy.str
      repeat (walk_at "e")
      refine e_slice (h := h₆) (by have := h10 (sg.getD i (Str.ofString "")) (by rw [List.getD_eq_getElem?_getD, List.getElem?_eq_getElem (by omega)]; exact List.getElem_mem _); omega) (fun h₇ t₇ u₇ k₇ => ?_) (by with_unfolding_all rfl) (by intro _; with_unfolding_all rfl)
      refine ⟨_, _, _, rfl, k₇.stays, id, ?_⟩
      simp only [Is]
      exact ⟨u₇, rfl⟩
    · intro h₆ g₆ t₆ rv k₆ G₆ hrv
      have F₆ := F₅.up k₆.up
      have q₆ := q₅.cut k₆ hLn
      have e₆ := e₅.up (h' := h₆) (fun _ p => p) fun a _ => k₆.up a
      have n₆ := n₅.up (h' := h₆) (fun _ p => p) fun a _ => k₆.up a
      have r₆ : Is (New h) h₆ (.list (((List.range ms.length).filter fun _ => true).map fun n => .str (rightN sg user n))) rv := hrv.weaken (new_mono q₅.up)
      rw [List.filter_eq_self.mpr fun _ _ => rfl] at r₆
      refine st_cell F₆ (fun h₇ F₇ s₇ => ?_)
      have q₇ : Stays fs h h₇ := Heap.SameBut.stays q₆ s₇ (hcn (Str.ofString "rights") _ (by rfl))
      have e₇ := e₆.sameC (F₆.cells (Str.ofString "rights") _ (by rfl)) s₇
      have n₇ := n₆.sameC (F₆.cells (Str.ofString "rights") _ (by rfl)) s₇
      have r₇ := r₆.sameC (F₆.cells (Str.ofString "rights") _ (by rfl)) s₇
      have hsi : ∀ i, i < ms.length → (sg.getD i (Str.ofString "")).length = 10 := fun i hi => h10 _ (by rw [List.getD_eq_getElem?_getD, List.getElem?_eq_getElem (by omega)]; exact List.getElem_mem _)
      have hri : ∀ i, i < ms.length → (rightN sg user i).length = 3 := fun i hi => right_len (hsi i hi)
      -- free
      refine wpAny_execs_cons ?_
      repeat (walk_at "e")
      refine eval_comp (os := os) (d := d) (fs := h.objs.size :: fs) (p := freeB sg user) (f := fun n => .str ((namesN ms).getD n (Str.ofString ""))) hd.h (by rfl) (by decide) (by rfl) (by decide) (by rfl) ?_ (by intro _; rfl)
      repeat (walk_at "e")
      obtain ⟨Pv, S, hPv⟩ := e₇.srcR
      refine ⟨h₇, _, _, ms.length, Pv, S, frk q₇ F₇.ns, by omega, ⟨?_, ?_⟩, ?_⟩
      · intro C i v h₈ g₈ t₈ m₈ hi hP hst hG hC hns hm
        obtain ⟨ki, rfl⟩ := hPv i v hP
        have F₈ := F₇.up hst.up
        have c₈ := F₈.cells
        have hsl := hsi i hi
        have hrl := hri i hi
        have hs₈ := hs.ups ((q₇.cut hst hLn).up)
        have r₈ := r₇.up (h' := h₈) (fun _ p => p) fun a _ => hst.up a
        refine ifs_one ?_
        repeat (walk_at "e")
        refine sub_listD hs₈ (by omega) (by omega) (d' := .str (sg.getD i (Str.ofString ""))) (by rw [Int.toNat_natCast, List.getElem?_map, get_getD (Str.ofString "") (by omega)]; rfl) (fun y hy => ?_) (fun _ => rfl)
        obtain ⟨u, rfl⟩ := hy.str
        repeat (walk_at "e")
        refine e_item (by omega) (by omega) (by omega) (fun t' u' => ?_) (by with_unfolding_all rfl) (by intro _; with_unfolding_all rfl)
        repeat (walk_at "e")
        refine e_eqS ?_
        repeat (walk_at "e")
        cases hq : (PySem.Txt.item (sg.getD i (Str.ofString "")) 0 == Str.ofString "d") with
        | false =>
          repeat (walk_at "e")
          exact ⟨by rw [freeB, hq, Bool.false_and], _, _, _, rfl, .refl .., id⟩
        | true =>
          repeat (walk_at "e")
          refine sub_listD r₈ (by omega) (by omega) (d' := .str (rightN sg user i)) (by rw [Int.toNat_natCast, List.getElem?_map, List.getElem?_range hi]; rfl) (fun y hy => ?_) (fun _ => rfl)
          obtain ⟨u, rfl⟩ := hy.str
          repeat (walk_at "e")
          refine e_item (by omega) (by omega) (by omega) (fun t' u' => ?_) (by with_unfolding_all rfl) (by intro _; with_unfolding_all rfl)
          repeat (walk_at "e")
          refine e_inS ?_
          repeat (walk_at "e")
          cases hq2 : PySem.Txt.contains (Str.ofString "xst") (PySem.Txt.item (rightN sg user i) 2) with
          | false =>
            repeat (walk_at "e")
            exact ⟨by rw [freeB, hq, Bool.true_and, hq2], _, _, _, rfl, .refl .., id⟩
          | true =>
            repeat (walk_at "e")
            exact ⟨by rw [freeB, hq, Bool.true_and, hq2], _, _, _, rfl, .refl .., id⟩
      · intro C i v h₈ g₈ t₈ m₈ hi hP hpi hst hG hC hns hm
        obtain ⟨ki, rfl⟩ := hPv i v hP
        have F₈ := F₇.up hst.up
        have c₈ := F₈.cells
        have n₈ := n₇.up (h' := h₈) (fun _ p => p) fun a _ => hst.up a
        repeat (walk_at "e")
        refine sub_listD n₈ (by omega) (by omega) (d' := .str ((namesN ms).getD i (Str.ofString ""))) (by rw [Int.toNat_natCast, List.getElem?_map, get_getD (Str.ofString "") (by rw [namesN_len]; omega)]; rfl) (fun y hy => ?_) (fun _ => rfl)
        obtain ⟨u, rfl⟩ := hy.str
        refine ⟨_, _, _, rfl, .refl .., id, ?_⟩
        simp only [Is]
        exact ⟨u, rfl⟩
      · intro h₈ g₈ t₈ fv k₈ G₈ hfv
        have F₈ := F₇.up k₈.up
        have q₈ := q₇.cut k₈ hLn
        have e₈ := e₇.up (h' := h₈) (fun _ p => p) fun a _ => k₈.up a
        have n₈ := n₇.up (h' := h₈) (fun _ p => p) fun a _ => k₈.up a
        have r₈ := r₇.up (h' := h₈) (fun _ p => p) fun a _ => k₈.up a
        have f₈ : Is (New h) h₈ (.list ((freeL ms sg user).map .str)) fv := by
          have := hfv.weaken (new_mono q₇.up)
          rw [freeL, List.map_map]
          exact this
        refine st_cell F₈ (fun h₉ F₉ s₉ => ?_)
        have q₉ : Stays fs h h₉ := Heap.SameBut.stays q₈ s₉ (hcn (Str.ofString "free") _ (by rfl))
        have e₉ := e₈.sameC (F₈.cells (Str.ofString "free") _ (by rfl)) s₉
        have n₉ := n₈.sameC (F₈.cells (Str.ofString "free") _ (by rfl)) s₉
        have r₉ := r₈.sameC (F₈.cells (Str.ofString "free") _ (by rfl)) s₉
        have f₉ := f₈.sameC (F₈.cells (Str.ofString "free") _ (by rfl)) s₉
        -- shut
        refine wpAny_execs_cons ?_
        refine assign_comp (os := os) (d := d) (fs := h.objs.size :: fs) (p := fun _ => true) (f := fun n => strsD ((wss.getD n []).filter fun s => !decide (s ∈ freeL ms sg user))) (by rfl) hd.h (by rfl) (by decide) (by rfl) (by decide) (by rfl) (by rfl) (by rfl) ?_ (by intro _; rfl)
        repeat (walk_at "e")
        obtain ⟨Pv, S, hPv⟩ := (hw.ups q₉.up).src
        rw [List.length_map] at S
        refine ⟨h₉, _, _, _, Pv, _, S, frk q₉ F₉.ns, by omega, F₉.ns, ⟨?_, ?_⟩, ?_⟩
        · intro C i v ha ga ta ma hi hP hst hG hC hns hm
          exact ifs_nil ⟨rfl, _, _, _, rfl, .refl .., id⟩
        · intro C i v ha ga ta ma hi hP hpi hst hG hC hns hm
          obtain ⟨dd, hdd, hy⟩ := hPv i v hP
          rw [List.getElem?_map, get_getD [] hi] at hdd
          cases hdd
          have Fa := F₉.up hst.up
          have ca := Fa.cells
          have qa := q₉.cut hst hLn
          have hy := hy.ups hst.up
          have fa := f₉.up (h' := ha) (fun _ p => p) fun a _ => hst.up a
          have Wa := wd qa
          have hwi : (wss.getD i []).length < 900 := hwl _ (List.mem_of_getElem? (get_getD [] hi))
          have hfl : (freeL ms sg user).length < 900 := by
            rw [freeL, List.length_map]
            exact Nat.lt_of_le_of_lt (List.length_filter_le _ _) (by rw [List.length_range]; omega)
          refine c_type1 Wa (by k_is) (by rfl) ?_
          refine c_fn Wa (by k_is) (by k_is) ?_
          repeat (walk_at "e")
          refine ⟨Wa.X, ?_⟩
          refine ldiffS W₀ (qa.ext kB Sk.new) (stk qa Fa.ns _ rfl (fun q => by cases q)) (by have := hd.d; show A.depth + 1 < 480; omega) (by have := hd.u; show A.units + 3 < 3900; omega) hd.h hy fa (by omega) (by omega) (fun hb tb vb kb hvb => ?_)
          exact ⟨_, _, _, rfl, kb, id, hvb⟩
        · intro ha ga ta shv ka Fa' Ga hshv
          have Fa := F₉.sx (m' := _) ⟨fun b o h1 h2 e => ka.keep b o h1 h2 e, ka.up⟩ Fa'
          have qa : Stays fs h ha := sxcut q₉ ka hLn
          have ea := e₉.sxL F₉.ns ka
          have na := n₉.sxL F₉.ns ka
          have ra := r₉.sxL F₉.ns ka
          have fa := f₉.sxL F₉.ns ka
          have sa : Is (New h) ha (dsD (shutL ms sg wss user)) shv := by
            have := hshv.weaken (new_mono q₉.up)
            rw [range_getD wss [] fun way => strsD (way.filter fun s => !decide (s ∈ freeL ms sg user))] at this
            rw [dsD, shutL, List.map_map]
            exact this
          -- below
          refine wpAny_execs_cons ?_
          repeat (walk_at "e")
          refine eval_compK (os := os) (d := d) (fs := h.objs.size :: fs) (f := fun k => .list ((belowL ms wss k).map fun n : Nat => .int n)) hd.h (by rfl) (by intro _; rfl) (by intro _; rfl) (by rfl) (by decide) (by rfl) ?_ (by intro _; rfl)
          repeat (walk_at "e")
          obtain ⟨Pv, S, hPv⟩ := ea.srcR
          refine ⟨ha, _, _, ms.length, Pv, S, frk qa Fa.ns, by omega, ?_, ?_⟩
          · intro C c i v hb gb tb hi hP hst hG hC hc hcl
            obtain ⟨ki, rfl⟩ := hPv i v hP
            have Fb := Fa.up hst.up
            have qb := qa.cut hst hLn
            have eb := ea.up (h' := hb) (fun _ p => p) fun a _ => hst.up a
            have cb := Fb.cells
            refine eval_comp (os := os) (d := d) (fs := h.objs.size :: fs) (p := fun n => (wss.getD n []).any (· == (namesN ms).getD i (Str.ofString ""))) (f := fun n => .int n) hd.h (by rfl) (by decide) (by rfl) (by decide) (by rfl) ?_ (by intro _; rfl)
            repeat (walk_at "e")
            obtain ⟨Pv, S, hPv⟩ := eb.srcR
            refine ⟨hb, _, _, ms.length, Pv, S, frk qb Fb.ns, by omega, ⟨?_, ?_⟩, ?_⟩
            · intro C j v hc' gc tc mc hj hP hst2 hG2 hC2 hns hm
              obtain ⟨kj, rfl⟩ := hPv j v hP
              have Fc := Fb.up hst2.up
              have qc := qb.cut hst2 hLn
              have cc := Fc.cells
              have hcl2 : hc'.IsCell c (some (.int i ki)) := cell_up hcl (hst2.up c)
              have nc := (na.up (h' := hb) (fun _ p => p) fun a _ => hst.up a).up (h' := hc') (fun _ p => p) fun a _ => hst2.up a
              have wc := hw.ups qc.up
              refine ifs_one ?_
              repeat (walk_at "e")
              refine n_cell1 hcl2 ?_
              refine sub_listD nc (by omega) (by omega) (d' := .str ((namesN ms).getD i (Str.ofString ""))) (by rw [Int.toNat_natCast, List.getElem?_map, get_getD (Str.ofString "") (by rw [namesN_len]; omega)]; rfl) (fun y hy => ?_) (fun _ => rfl)
              obtain ⟨u, rfl⟩ := hy.str
              repeat (walk_at "e")
              refine sub_listD wc (by omega) (by omega) (d' := strsD (wss.getD j [])) (by rw [Int.toNat_natCast, List.getElem?_map, get_getD [] (by omega)]; rfl) (fun y hy => ?_) (fun _ => rfl)
              refine e_inL hy ?_
              repeat (walk_at "e")
              exact ⟨rfl, _, _, _, rfl, .refl .., id⟩
            · intro C j v hc' gc tc mc hj hP hpj hst2 hG2 hC2 hns hm
              obtain ⟨kj, rfl⟩ := hPv j v hP
              repeat (walk_at "e")
              refine ⟨_, _, _, rfl, .refl .., id, ?_⟩
              simp only [Is]
              exact ⟨kj, rfl⟩
            · intro hc' gc tc bv kc Gc hbv
              exact ⟨_, _, _, rfl, kc, Gc, hbv⟩
          · intro hb gb tb bv kb Gb hbv
            have Fb := Fa.up kb.up
            have qb := qa.cut kb hLn
            have eb := ea.up (h' := hb) (fun _ p => p) fun a _ => kb.up a
            have nb := na.up (h' := hb) (fun _ p => p) fun a _ => kb.up a
            have rb := ra.up (h' := hb) (fun _ p => p) fun a _ => kb.up a
            have sb := sa.up (h' := hb) (fun _ p => p) fun a _ => kb.up a
            have bb : Is (New h) hb (.list ((List.range ms.length).map fun k => .list ((belowL ms wss k).map fun n : Nat => .int n))) bv := hbv.weaken (new_mono qa.up)
            refine st_cell Fb (fun hc Fc sc => ?_)
            have qc : Stays fs h hc := Heap.SameBut.stays qb sc (hcn (Str.ofString "below") _ (by rfl))
            have ec := eb.sameC (Fb.cells (Str.ofString "below") _ (by rfl)) sc
            have nc := nb.sameC (Fb.cells (Str.ofString "below") _ (by rfl)) sc
            have rc := rb.sameC (Fb.cells (Str.ofString "below") _ (by rfl)) sc
            have shc := sb.sameC (Fb.cells (Str.ofString "below") _ (by rfl)) sc
            have bc := bb.sameC (Fb.cells (Str.ofString "below") _ (by rfl)) sc
            have GG : GK g gb := fun z => Gb (Ga (G₈ (G₆ (G₄ z))))
            clear hPv S hbv Gb Ga G₈ G₆ G₄
            refine wpAny_execs_cons ?_
            repeat (walk_at "e")
            refine e_newPermI (fun hd' D kd hDn pd => ?_)
            have Fd := Fc.up kd.up
            have hDh : h.get? D = none := new_mono qc.up D hDn
            have ed := (ec.apart hDn).ups' kd
            have nd := (nc.apart hDn).ups' kd
            have rd := (rc.apart hDn).ups' kd
            have sd := (shc.apart hDn).ups' kd
            have bd := (bc.apart hDn).ups' kd
            refine st_cell Fd (fun he Fe se => ?_)
            have qe : Stays fs h he := Heap.SameBut.stays (qc.trans kd.stays) se (hcn (Str.ofString "good") _ (by rfl))
            have cd := Fd.cells (Str.ofString "good") _ (by rfl)
            have ee := ed.sameC cd se
            have ne := nd.sameC cd se
            have re := rd.sameC cd se
            have she := sd.sameC cd se
            have be := bd.sameC cd se
            have pe := pd.sameC cd se
            have hDL := pe.ne Fe.ns
            have goodN : ∀ {h' : Heap} {m'}, (∀ b o, b ≠ h.objs.size → b ≠ D → he.get? b = some o → h'.get? b = some o) → h'.Ns h.objs.size m' → Stays fs h h' := fun {h' m'} k hn => by
              have n : ∀ {b o}, h.get? b = some o → b ≠ h.objs.size ∧ b ≠ D := fun e => ⟨(by rintro rfl; rw [hLn] at e; cases e), (by rintro rfl; rw [hDh] at e; cases e)⟩
              exact ⟨fun b o hb e => k b o (n e).1 (n e).2 (qe.ex b o hb e), fun b o e => (qe.up b).trans (fun o' e' => upr (k b o' (n e).1 (n e).2 e')) o e⟩
            -- the loop
            refine wpAny_execs_cons ?_
            refine for_src (d := d) (os := os) (fs := []) hd.h ?_ (by intro _; rfl)
            repeat (walk_at "e")
            obtain ⟨Pv, S, hPv⟩ := ee.srcR
            refine ⟨he, gb, _, ms.length, Pv, fun I i h' g' => g' = gb ∧ (∀ b o, b ≠ h.objs.size → b ≠ D → he.get? b = some o → h'.get? b = some o) ∧ (∃ m', h'.Ns h.objs.size m' ∧ m' (Str.ofString "shut") = some shv) ∧ PermI h' D (goodL ms sg wss user i), [h.objs.size, D], S, (fun _ q => by cases q), by omega, ?_, ?_, ?_, ?_, ?_⟩
            · intro b hb
              obtain ⟨ra', t', u', k', rfl, ⟨hn1, hn2⟩, hr⟩ := ee.rng
              rcases List.mem_cons.mp hb with rfl | hb
              · refine ⟨fun q => ?_, Fe.live⟩
                cases q
                obtain ⟨o, _, _, ho, hdd, _⟩ := Fe.ns
                rw [show he.get? h.objs.size = _ from hr] at ho; cases ho; cases hdd
              · rw [List.mem_singleton.mp hb]; exact ⟨fun q => hn2 (by cases q; rfl), pe.live⟩
            · rintro I i ha hb' g₁ hIn ⟨rfl, kx, ⟨m', hn, m1⟩, pp⟩ hk
              have nI : ∀ {b o}, he.get? b = some o → b ≠ I := by rintro b o e rfl; rw [hIn] at e; cases e
              obtain ⟨oL', hoL'⟩ := Fe.live
              obtain ⟨oD', hoD'⟩ := pe.live
              exact ⟨rfl, fun b o h1 h2 e => hk b o (nI e) (kx b o h1 h2 e), ⟨m', hn.at' fun o e => hk _ o (nI hoL') e, m1⟩, pp.at_ fun o e => hk _ o (nI hoD') e⟩
            · intro I ha hIn ka'
              exact ⟨rfl, fun b o _ _ e => ka' b o e, ⟨_, Fe.ns.at' fun o e => ka' _ o e, rfl⟩, pe.at_ fun o e => ka' _ o e⟩
            · rintro I i v hf g₁ tf hIn hi hv ⟨rfl, kf, ⟨mf, hnf, m1⟩, pf⟩ hIl
              obtain ⟨ki, rfl⟩ := hPv i v hv
              have Ff := Fe.but2 pe kf hnf
              refine st_loc Ff (fun hg Fg sg' => ?_)
              have kg : ∀ b o, b ≠ h.objs.size → hf.get? b = some o → hg.get? b = some o := fun b o h1 e => sg'.extBut _ _ h1 e
              have kg' : ∀ b o, b ≠ h.objs.size → b ≠ D → he.get? b = some o → hg.get? b = some o := fun b o h1 h2 e => kg b o h1 (kf b o h1 h2 e)
              have pg : PermI hg D (goodL ms sg wss user i) := pf.at_ fun o e => kg _ o hDL e
              repeat (walk_at "e")
              have shg := (she.but2 Fe.ns kg').any
              have bg := (be.but2 Fe.ns kg').any
              have rg := (re.but2 Fe.ns kg').any
              have ng := (ne.but2 Fe.ns kg').any
              have wg := hw.ups (goodN kg' Fg.ns).up
              have sgg := hs.ups (goodN kg' Fg.ns).up
              have hrl := hri i hi
              have hsub : ∀ s ∈ (shutL ms sg wss user).getD i [], PyData.strOk s = true := fun s hm => by
                rw [shut_getD ms sg wss user (show i < wss.length by omega)] at hm
                exact okd.ok _ (List.mem_of_getElem? (get_getD [] (by omega))) s (List.mem_filter.mp hm).1
              have hun : (A.deeper default).units < 9000 := by have := hd.u; show A.units + 3 < 9000; omega
              refine wpAny_mono (Q := fun v s => ∃ h' t', v = .bool (fine0 ms sg wss user i) ∧ s = ⟨h', g₁, d, t', os⟩ ∧ Ext hg h') ?_ (fun v s q => ?_) (fun _ _ e => e)
              · refine wpAny_And2 ?_
                repeat (walk_at "e")
                refine sub_listD shg (by omega) (by omega) (d' := strsD ((shutL ms sg wss user).getD i [])) (by rw [Int.toNat_natCast, List.getElem?_map, get_getD [] (by simp [shutL]; omega)]; rfl) (fun y hy => ?_) (fun _ => rfl)
                repeat (walk_at "e")
                refine e_newList (P := Any) .nil trivial (by simp) (fun h₇ v k₇ hv => ?_)
                refine e_eqNil (hy.ups k₇.up) hv (ok_strs _ hsub) hun ?_
                rw [List.isEmpty_map]
                cases hq : ((shutL ms sg wss user).getD i []).isEmpty with
                | false =>
                  repeat (walk_at "e")
                  exact ⟨_, _, by rw [fine0, hq]; rfl, rfl, k₇⟩
                | true =>
                  repeat (walk_at "e")
                  refine wpAny_Or2 ?_
                  have Fg7 := Fg.up k₇.up
                  have cg7 := Fg7.cells
                  repeat (walk_at "e")
                  refine sub_listD (bg.ups k₇.up) (by omega) (by omega) (d' := .list ((belowL ms wss i).map fun n : Nat => .int n)) (by rw [Int.toNat_natCast, List.getElem?_map, List.getElem?_range hi]; rfl) (fun y hy => ?_) (fun _ => rfl)
                  repeat (walk_at "e")
                  refine e_newList (P := Any) .nil trivial (by simp) (fun h₈ v k₈ hv => ?_)
                  refine e_eqNil (hy.ups k₈.up) hv (ok_nats _ _) hun ?_
                  rw [List.isEmpty_map]
                  cases hq2 : (belowL ms wss i).isEmpty with
                  | true =>
                    repeat (walk_at "e")
                    exact ⟨_, _, by rw [fine0, hq, hq2]; rfl, rfl, Ext.trans k₇ k₈⟩
                  | false =>
                    have Fg8 := Fg7.up k₈.up
                    have cg8 := Fg8.cells
                    repeat (walk_at "e")
                    refine sub_listD ((rg.ups k₇.up).ups k₈.up) (by omega) (by omega) (d' := .str (rightN sg user i)) (by rw [Int.toNat_natCast, List.getElem?_map, List.getElem?_range hi]; rfl) (fun y hy => ?_) (fun _ => rfl)
                    obtain ⟨u, rfl⟩ := hy.str
                    repeat (walk_at "e")
                    refine e_item (by omega) (by omega) (by omega) (fun t' u' => ?_) (by with_unfolding_all rfl) (by intro _; with_unfolding_all rfl)
                    repeat (walk_at "e")
                    refine e_eqS ?_
                    exact ⟨_, _, by rw [fine0, hq, hq2]; rfl, rfl, Ext.trans k₇ k₈⟩
              obtain ⟨hh2, th, rfl, rfl, kh⟩ := q
              refine st_loc (Fg.up kh.up) (fun hi' Fi si => ?_)
              have ki2 : ∀ b o, b ≠ h.objs.size → hf.get? b = some o → hi'.get? b = some o := fun b o h1 e => si.extBut _ _ h1 (kh _ _ (kg b o h1 e))
              have ki3 : ∀ b o, b ≠ h.objs.size → b ≠ D → he.get? b = some o → hi'.get? b = some o := fun b o h1 h2 e => ki2 b o h1 (kf b o h1 h2 e)
              refine wpAny_execs_cons ?_
              refine wpAny_mono (Q := fun fl s => fl = .next ∧ ∃ h' t' m', s = ⟨h', g₁, d, t', os⟩ ∧ (∀ b o, b ≠ h.objs.size → hf.get? b = some o → h'.get? b = some o) ∧ h'.Ns h.objs.size m' ∧ m' (Str.ofString "k") = some (.int i ki) ∧ m' (Str.ofString "shut") = some shv ∧ m' (Str.ofString "fine") = some (.bool (fineN ms sg wss user i))) ?_ (fun fl s q => ?_) (fun _ _ e => e)
              · have ri := (re.but2 Fe.ns ki3).any
                have ni := (ne.but2 Fe.ns ki3).any
                have wi := hw.ups (goodN ki3 Fi.ns).up
                have sgi := hs.ups (goodN ki3 Fi.ns).up
                repeat (walk_at "e")
                cases hq : fine0 ms sg wss user i with
                | false =>
                  repeat (walk_at "e")
                  exact ⟨rfl, _, _, _, rfl, ki2, Fi.ns, rfl, m1, congrArg (fun b => some (Value.bool b)) (show fine0 ms sg wss user i = fineN ms sg wss user i from by unfold fineN; rw [hq]; rfl)⟩
                | true =>
                  repeat (walk_at "e")
                  have hwm : wss.getD i [] ∈ wss := getD_mem [] (by omega)
                  refine sub_listD wi (by omega) (by omega) (d' := strsD (wss.getD i [])) (by rw [Int.toNat_natCast, List.getElem?_map, get_getD [] (by omega)]; rfl) (fun y hy => ?_) (fun _ => rfl)
                  repeat (walk_at "e")
                  refine e_newList (P := Any) .nil trivial (by simp) (fun h₇ v k₇ hv => ?_)
                  refine e_neNil (hy.ups k₇.up) hv (ok_strs _ (okd.ok _ hwm)) hun ?_
                  rw [List.isEmpty_map]
                  have ki7 : ∀ b o, b ≠ h.objs.size → hf.get? b = some o → h₇.get? b = some o := fun b o h1 e => k₇ _ _ (ki2 b o h1 e)
                  cases hq2 : (wss.getD i []).isEmpty with
                  | true =>
                    repeat (walk_at "e")
                    exact ⟨rfl, _, _, _, rfl, ki7, (Fi.up k₇.up).ns, rfl, m1, congrArg (fun b => some (Value.bool b)) (show fine0 ms sg wss user i = fineN ms sg wss user i from by unfold fineN; rw [hq, hq2]; rfl)⟩
                  | false =>
                    have hne : 0 < (wss.getD i []).length := by
                      rcases h0 : wss.getD i [] with _ | ⟨a, r⟩
                      · rw [h0] at hq2; cases hq2
                      · simp
                    have F7 := Fi.up k₇.up
                    have c7 := F7.cells
                    have hmem : (wss.getD i []).getD 0 (Str.ofString "") ∈ namesN ms := hin _ hwm _ (getD_mem _ hne)
                    have hfo : foldN ms wss i < ms.length := by
                      have := List.idxOf_lt_length_iff.mpr hmem
                      rw [namesN_len] at this; exact this
                    repeat (walk_at "e")
                    refine MethodCall_ ?_ (by rfl)
                    repeat (walk_at "e")
                    obtain ⟨na, nvs, nn, hnv, _, hno⟩ := (ni.ups k₇.up).listLive
                    have hnv' := hnv
                    subst hnv'
                    refine getMethod_list_of PySem.F.slot_list_index PySem.F.type_list_index ⟨_, hno, rfl, _, rfl⟩ ⟨_, hno, rfl⟩ ?_
                    refine callWith_method1 ?_ (by rfl) (by rfl)
                    repeat (walk_at "e")
                    refine sub_listD (wi.ups k₇.up) (by omega) (by omega) (d' := strsD (wss.getD i [])) (by rw [Int.toNat_natCast, List.getElem?_map, get_getD [] (by omega)]; rfl) (fun y hy => ?_) (fun _ => rfl)
                    repeat (walk_at "e")
                    refine sub_listD hy (by omega) (by omega) (d' := .str ((wss.getD i []).getD 0 (Str.ofString ""))) (by rw [show Int.toNat 0 = 0 from rfl, List.getElem?_map, get_getD (Str.ofString "") hne]; rfl) (fun y hy => ?_) (fun _ => rfl)
                    obtain ⟨u, rfl⟩ := hy.str
                    repeat (walk_at "e")
                    refine e_index (ni.ups k₇.up) hmem (by rw [namesN_len]; omega) (fun t₈ u₈ => ?_)
                    refine st_loc F7 (fun h8 F8 s8 => ?_)
                    have c8 := F8.cells
                    have ki8 : ∀ b o, b ≠ h.objs.size → hf.get? b = some o → h8.get? b = some o := fun b o h1 e => s8.extBut _ _ h1 (ki7 b o h1 e)
                    repeat (walk_at "e")
                    refine wpAny_mono (Q := fun v s => ∃ t', v = .bool (ownsN ms wss user i) ∧ s = ⟨h8, g₁, d, t', os⟩) ?_ (fun v s q => ?_) (fun _ _ e => e)
                    · refine wpAny_Or2 ?_
                      repeat (walk_at "e")
                      cases hq3 : (user + (i : Int)) % 3 == 0 with
                      | true =>
                        repeat (walk_at "e")
                        exact ⟨_, by rw [ownsN, hq3]; rfl, rfl⟩
                      | false =>
                        repeat (walk_at "e")
                        exact ⟨_, by rw [ownsN, hq3]; rfl, rfl⟩
                    obtain ⟨t9, rfl, rfl⟩ := q
                    refine st_loc F8 (fun h9 F9 s9 => ?_)
                    have c9 := F9.cells
                    have ki9 : ∀ b o, b ≠ h.objs.size → hf.get? b = some o → h9.get? b = some o := fun b o h1 e => s9.extBut _ _ h1 (ki8 b o h1 e)
                    have ki9' : ∀ b o, b ≠ h.objs.size → b ≠ D → he.get? b = some o → h9.get? b = some o := fun b o h1 h2 e => ki9 b o h1 (kf b o h1 h2 e)
                    have r9 := (re.but2 Fe.ns ki9').any
                    have sg9 := hs.ups (goodN ki9' F9.ns).up
                    have hrf := hri _ hfo
                    have hsf := hsi _ hfo
                    repeat (walk_at "e")
                    refine wpAny_mono (Q := fun v s => ∃ t', v = .bool (fine1 ms sg wss user i) ∧ s = ⟨h9, g₁, d, t', os⟩) ?_ (fun v s q => ?_) (fun _ _ e => e)
                    · refine wpAny_And2 ?_
                      repeat (walk_at "e")
                      refine sub_listD r9 (by omega) (by rw [foldN] at hfo; omega) (d' := .str (rightN sg user (foldN ms wss i))) (by rw [Int.toNat_natCast, List.getElem?_map, ← foldN, List.getElem?_range hfo]; rfl) (fun y hy => ?_) (fun _ => rfl)
                      obtain ⟨u, rfl⟩ := hy.str
                      repeat (walk_at "e")
                      refine e_item (by omega) (by omega) (by omega) (fun t' u' => ?_) (by with_unfolding_all rfl) (by intro _; with_unfolding_all rfl)
                      repeat (walk_at "e")
                      refine e_eqS ?_
                      repeat (walk_at "e")
                      cases hq3 : PySem.Txt.item (rightN sg user (foldN ms wss i)) 1 == Str.ofString "w" with
                      | false =>
                        repeat (walk_at "e")
                        exact ⟨_, by rw [fine1, hq3]; rfl, rfl⟩
                      | true =>
                        repeat (walk_at "e")
                        refine wpAny_Or2 ?_
                        repeat (walk_at "e")
                        refine sub_listD sg9 (by omega) (by rw [foldN] at hfo; omega) (d' := .str (sg.getD (foldN ms wss i) (Str.ofString ""))) (by rw [Int.toNat_natCast, List.getElem?_map, ← foldN, get_getD (Str.ofString "") (by omega)]; rfl) (fun y hy => ?_) (fun _ => rfl)
                        obtain ⟨u, rfl⟩ := hy.str
                        repeat (walk_at "e")
                        refine e_item (by omega) (by omega) (by omega) (fun t' u' => ?_) (by with_unfolding_all rfl) (by intro _; with_unfolding_all rfl)
                        repeat (walk_at "e")
                        refine e_notinS ?_
                        repeat (walk_at "e")
                        cases hq4 : PySem.Txt.contains (Str.ofString "tT") (PySem.Txt.item (sg.getD (foldN ms wss i) (Str.ofString "")) 9) with
                        | true =>
                          repeat (walk_at "e")
                          exact ⟨_, by rw [fine1, hq3, hq4]; rfl, rfl⟩
                        | false =>
                          repeat (walk_at "e")
                          exact ⟨_, by rw [fine1, hq3, hq4]; rfl, rfl⟩
                    obtain ⟨t10, rfl, rfl⟩ := q
                    refine st_loc F9 (fun h10 F10 s10 => ?_)
                    repeat (walk_at "e")
                    exact ⟨rfl, h10, _, _, rfl, fun b o h1 e => s10.extBut _ _ h1 (ki9 b o h1 e), F10.ns, rfl, m1, congrArg (fun b => some (Value.bool b)) (show fine1 ms sg wss user i = fineN ms sg wss user i from by unfold fineN; rw [hq, hq2]; rfl)⟩
              obtain ⟨rfl, hj, tj, mj, rfl, kj, hnj, j1, j2, j3⟩ := q
              have kj' : ∀ b o, b ≠ h.objs.size → b ≠ D → he.get? b = some o → hj.get? b = some o := fun b o h1 h2 e => kj b o h1 (kf b o h1 h2 e)
              have Fj := Fe.but2 pe kj' hnj
              have pj : PermI hj D (goodL ms sg wss user i) := pf.at_ fun o e => kj _ o hDL e
              have gsu := goodL_succ ms sg wss user i
              have cj := Fj.cells
              repeat (walk_at "e")
              cases hq : fineN ms sg wss user i with
              | false =>
                rw [hq] at gsu
                repeat (walk_at "e")
                refine ⟨hj, g₁, _, rfl, .of_but fun b o hb e => kj b o (fun q => hb (q ▸ .head _)) e, rfl, kj', ⟨_, hnj, j2⟩, ?_⟩
                rw [gsu]; simpa using pj
              | true =>
                rw [hq] at gsu
                repeat (walk_at "e")
                refine wpAny_Expr_any ?_ (by rfl) (by rfl)
                refine MethodCall_ ?_ (by rfl)
                repeat (walk_at "e")
                obtain ⟨pvs, pn, pho, _⟩ := id pj
                refine Calls.getMethod_list_append pho rfl rfl ?_
                refine callWith_method1 ?_ (by rfl) (by rfl)
                repeat (walk_at "e")
                refine permI_append pj (by have := goodL_len ms sg wss user i; omega) (fun hk sk pk => ?_)
                repeat (walk_at "e")
                refine ⟨hk, g₁, _, rfl, .of_but fun b o hb e => sk.extBut _ _ (fun q => hb (q ▸ .tail _ (.head _))) (kj b o (fun q => hb (q ▸ .head _)) e), rfl, fun b o h1 h2 e => sk.extBut _ _ h2 (kj' b o h1 h2 e), ⟨_, hnj.sameBut sk hDL.symm, j2⟩, ?_⟩
                rw [gsu]; exact pk
            · rintro I ha ga' ta' hIn ⟨rfl, kx, ⟨m', hn, m1⟩, pp⟩
              have Fz := Fe.but2 pe kx hn
              have cz := Fz.cells
              have qz := goodN kx hn
              have sz := she.but2 Fe.ns kx
              have ez := ee.but2 Fe.ns kx
              have bz := be.but2 Fe.ns kx
              repeat (walk_at "e")
              refine eval_comp (os := os) (d := d) (fs := h.objs.size :: fs) (p := goneB ms sg wss user) (f := fun n => .int n) hd.h (by rfl) (by decide) (by rfl) (by decide) (by rfl) ?_ (by intro _; rfl)
              repeat (walk_at "e")
              obtain ⟨Pv, S, hPv⟩ := ez.srcR
              refine ⟨ha, _, _, ms.length, Pv, S, frk qz Fz.ns, by omega, ⟨?_, ?_⟩, ?_⟩
              · intro C j v hb gb2 tb mb2 hj hP hst hG hC hns hm
                obtain ⟨kj, rfl⟩ := hPv j v hP
                have Fb := Fz.up hst.up
                have qb := qz.cut hst hLn
                have cb := Fb.cells
                have Wb := wd qb
                have bb := bz.any.ups hst.up
                have pb := pp.is.ups hst.up
                refine ifs_one ?_
                repeat (walk_at "e")
                refine c_type1 Wb (by k_is) (by rfl) ?_
                refine c_fn Wb (by k_is) (by k_is) ?_
                repeat (walk_at "e")
                refine e_newList (P := Any) (ds := [.int j]) (.one (by simp only [Is]; exact ⟨_, rfl⟩)) trivial (by simp) (fun h₇ v k₇ hv => ?_)
                have F7 := Fb.up k₇.up
                have c7 := F7.cells
                have hns7 := ns_up hns (k₇.up C)
                repeat (walk_at "e")
                refine sub_listD (bb.ups k₇.up) (by omega) (by omega) (d' := .list ((belowL ms wss j).map fun n : Nat => .int n)) (by rw [Int.toNat_natCast, List.getElem?_map, List.getElem?_range hj]; rfl) (fun y hy => ?_) (fun _ => rfl)
                have hbl : (belowL ms wss j).length ≤ 50 := by
                  rw [belowL]
                  exact Nat.le_trans (List.length_filter_le _ _) (by rw [List.length_range]; omega)
                refine e_addL (P := Any) hv hy (fun _ _ => trivial) (fun _ _ => trivial) trivial (by rw [List.length_map]; simp; omega) (fun h₈ v₈ k₈ hv₈ => ?_)
                have F8 := F7.up k₈.up
                have c8 := F8.cells
                have k₈' := Ext.trans k₇ k₈
                have q8 := qb.trans k₈'.stays
                repeat (walk_at "e")
                have W8 := wd q8
                refine ⟨W8.X, ?_⟩
                have hv₈ : Is Any h₈ (.list ((selfL ms wss j).map .int)) v₈ := by
                  rw [selfL, List.map_map, List.map_cons]; exact hv₈
                have hgl := goodL_len ms sg wss user ms.length
                refine ldiffI W₀ (q8.ext kB Sk.new) (stk q8 F8.ns _ rfl (fun q => by cases q)) (by have := hd.d; show A.depth + 1 < 480; omega) (by have := hd.u; show A.units + 3 < 3900; omega) hd.h hv₈ (pb.ups k₈'.up) (by rw [selfL, List.length_map, List.length_cons]; omega) (by omega) (fun h9 t9 v9 k9 hv9 => ?_)
                repeat (walk_at "e")
                refine e_newList (P := Any) .nil trivial (by simp) (fun h₁₀ v k₁₀ hv => ?_)
                refine e_eqNil (hv9.any.ups k₁₀.up) hv (ok_ints _) (by have := hd.u; show A.units + 3 < 9000; omega) ?_
                rw [List.isEmpty_map]
                repeat (walk_at "e")
                exact ⟨rfl, _, _, _, rfl, (k₈'.stays.trans k9).trans k₁₀.stays, id⟩
              · intro C j v hb gb2 tb mb2 hj hP hpj hst hG hC hns hm
                obtain ⟨kj, rfl⟩ := hPv j v hP
                repeat (walk_at "e")
                refine ⟨_, _, _, rfl, .refl .., id, ?_⟩
                simp only [Is]
                exact ⟨kj, rfl⟩
              · intro hb gb2 tb gv kb Gb hgv
                have qb := qz.cut kb hLn
                have hgv := hgv.weaken (new_mono qz.up)
                have szb := sz.up (P' := New h) (h' := hb) (fun _ p => p.1) fun a _ => kb.up a
                repeat (walk_at "e")
                refine e_newTuple (P := New h) (ds := [dsD (shutL ms sg wss user), .list (((List.range ms.length).filter (goneB ms sg wss user)).map fun n : Nat => .int n)]) (.cons szb (.one hgv)) (new_mono qb.up _ (none_ge (Nat.le_refl _))) (by simp) (by simp) (fun hc tv kc htv => ?_)
                exact x _ _ _ _ (qb.trans kc.stays) (fun z => Gb (GG z)) htv
/-- but for the frame and two cells all stands -/
theorem Is.sxK {P : Addr → Prop} {h h' : Heap} {L c₁ c₂ : Addr} {m : Str → Option Value} {v₁ v₂ : Option Value} {fs : List Addr} {d : D} {v : Value} (x : Is P h d v) (hn : h.Ns L m) (h1 : h.IsCell c₁ v₁) (h2 : h.IsCell c₂ v₂) (k : SX [L, c₁, c₂] fs h h') : Is P h' d v := by
  obtain ⟨oL, es, ep, hL, hdL, _⟩ := hn
  obtain ⟨o1, e1, d1⟩ := h1
  obtain ⟨o2, e2, d2⟩ := h2
  refine x.solid.solidC.up (fun _ p => p.1.1) fun a p => k.up a fun hm => ?_
  rcases List.mem_cons.mp hm with rfl | hm
  · exact p.1.2 _ hL _ _ hdL
  · rcases List.mem_cons.mp hm with rfl | hm
    · exact p.2 _ e1 _ d1
    · rw [List.mem_singleton.mp hm] at p; exact p.2 _ e2 _ d2
theorem sxkeep {ex fs : List Addr} {h h₁ h₂ : Heap} (k : Stays [] h h₁) (k₂ : SX ex fs h₁ h₂) (hL : ∀ b ∈ ex, h.get? b = none) (hf : ∀ b ∈ fs, h.get? b = none) : Stays [] h h₂ := by
  have n : ∀ {b o}, h.get? b = some o → b ∉ ex := fun e hm => by rw [hL _ hm] at e; cases e
  exact ⟨fun b o hb e => k₂.keep b o (n e) (fun hm => by rw [hf _ hm] at e; cases e) (k.ex b o hb e), fun b o e => (k.up b).trans (k₂.up b (n e)) o e⟩
noncomputable def doorsL (ms : List Mem) (user : Int) : List (List Str) := (List.range ms.length).map fun k : Nat => doorsN ms user 50 k
noncomputable def signsL (ms : List Mem) : List Str := ms.map fun m => signN m.2.2
/-- what the law leans on: facts of the numbers alone -/
structure LawOk (ms : List Mem) (wss : List (List Str)) : Prop where
  wf : Wf ms
  len : ms.length ≤ 7
  wl : wss.length = ms.length
  okd : OkD wss
  short : ∀ l ∈ wss, l.length < 900
  named : ∀ l ∈ wss, ∀ s ∈ l, s ∈ namesN ms
  name : ∀ m ∈ ms, m.2.1.length ≤ 500
  anc : ∀ k : Nat, k < ms.length → ∃ xs, Anc (PySem.Txt.rstripChars ((mem ms k).2.1 ++ rep 47 (k % 3)) (Str.ofString "/")) xs ∧ 1 ≤ xs.length ∧ xs.length ≤ 900 ∧ xs.tail = wss.getD k []
  sign : ∀ s ∈ signsL ms, s.length = 10
  okdoors : ∀ user : Int, OkD (doorsL ms user)
  doors : ∀ user : Int, 0 ≤ user → user < 3 → shutL ms (signsL ms) wss user = doorsL ms user
  gone : ∀ user : Int, 0 ≤ user → user < 3 → ∀ k : Nat, k < ms.length → goneB ms (signsL ms) wss user k = goesN ms (doorsL ms user) user 20 k
theorem ok_told (dss : List (List Str)) (l : List Nat) (ok : OkD dss) : kqdOk 9 (dat (.tup [dsD dss, .list (l.map fun n : Nat => .int n)])) = true := by
  have h1 : kqdOk 8 (dat (dsD dss)) = true := by
    rw [dsD, dat, dats_map]
    simp only [kqdOk, List.all_eq_true, List.mem_map]
    rintro _ ⟨ss, hm, rfl⟩
    rw [strsD, dat, dats_map]
    simp only [kqdOk, List.all_eq_true, List.mem_map]
    rintro _ ⟨s, hs, rfl⟩
    exact ok.ok ss hm s hs
  have h2 : kqdOk 8 (dat (.list (l.map fun n : Nat => D.int n))) = true := by
    rw [dat, dats_map]; simp [kqdOk, dat]
  rw [dat, dats, dats, dats]
  simp only [kqdOk, List.all_cons, h1, h2, List.all_nil, Bool.and_self]
local macro_rules | `(tactic| walk_at "e") => `(tactic| first
  | ((with_reducible show wpAny _ _ (eval (Expr.Name _ _) _) _ _ _); first
      | refine n_loc (by first | with_reducible assumption | exact Fr.ns (by with_reducible assumption) | exact FS.ns (by with_reducible assumption)) (by rfl) (by first | rfl | assumption) ?_
      | refine n_cell (by first | with_reducible assumption | exact FS.cells (by with_reducible assumption)) (by rfl) (by rfl) (by first | rfl | assumption) ?_))
set_option maxRecDepth 100000 in
set_option maxHeartbeats 1000000 in
theorem law_spec {w mg mb A E} {h : Heap} {g : Array GenState} {d : Drawn} {t : Nat} {os : OsState} {Q : Value → Shared → Prop} {ms : List Mem} {wss : List (List Str)} {ns : List Int} {l : Addr} {vs : List Value}
    (ok : LawOk ms wss) (hms : membersN ([44, 2139, 295376] ++ ns.take 4) = ms) (W : Wd w mg mb h) (Sk : Stk A [] h h) (hd : Rm A 60) (hl : h.IsList l vs.toArray) (hi : IntsAre vs ns) (hlen : ns.length ≤ 63)
    (x : ∀ h' g' t', Ext h h' → GK g g' → Q (.bool true) ⟨h', g', d, t', os⟩) :
    wpAny (model PG w) A (call (.ref 237) [.ref l]) Q E ⟨h, g, d, t, os⟩ := by
  have wf := ok.wf
  have hml := ok.len
  have hwl := ok.wl
  have hLn : h.get? h.objs.size = none := none_ge (Nat.le_refl _)
  have kB := Ext.refl h
  have hd₁ := (hd.mono (m := 50 + 1) (by omega)).deeper
  refine enterC W (by k_is) (by k_is) (by have := hd.d; omega) (by rfl) (by rfl) (fun h₁ t₁ k₁ F₁ hab => ?_) rfl rfl rfl
  have hcn : ∀ n c, List.lookup n _ = some c → h.get? c = none := fun n c e => none_ge (Nat.le_of_lt (hab n c (mem_of_lookup e)))
  have stk : ∀ {h' : Heap} {m : Str → Option Value}, Stays [] h h' → h'.Ns h.objs.size m → ∀ env : Env, env.frame = some h.objs.size → env.scope.kind ≠ .module → Stk (A.deeper env) [h.objs.size] h h' := fun k n env hf hk => Sk.deeper k.up kB hLn n hf hk
  have frk : ∀ {h' : Heap} {m : Str → Option Value}, Stays [] h h' → h'.Ns h.objs.size m → FrOk [h.objs.size] h' := fun k n => (stk k n { (default : Env) with scope := { (default : Scope) with kind := .function }, frame := some h.objs.size } rfl (fun q => by cases q)).ok
  have wd : ∀ {h' : Heap}, Stays [] h h' → Wd w mg mb h' := fun k => W.keeps k.nil
  have q₁ : Stays [] h h₁ := k₁.stays
  have W₁ := W.keeps k₁
  repeat (walk_at "e")
  refine c_fn W₁ (by k_is) (by k_is) ?_
  repeat (walk_at "e")
  refine ⟨W₁.X, ?_⟩
  refine members_spec W₁ (Rm.mono (hd₁ _) (by omega)) (isL_ext hl k₁) hi hlen (fun h₂ t₂ lv k₂ hlv => ?_)
  rw [hms] at hlv
  have F₂ := F₁.up k₂.up
  have hlv : Is (New h) h₂ (memD ms) lv := hlv.weaken (new_mono k₁.up)
  refine st_cell F₂ (fun h₃ F₃ s₃ => ?_)
  have q₃ : Stays [] h h₃ := Heap.SameBut.stays (q₁.trans k₂.stays) s₃ (hcn (Str.ofString "members") _ (by rfl))
  have l₃ := hlv.sameC (F₂.cells (Str.ofString "members") _ (by rfl)) s₃
  have W₃ := wd q₃
  -- every
  refine wpAny_execs_cons ?_
  repeat (walk_at "e")
  refine c_type1 W₃ (by k_is) (by rfl) ?_
  refine c_blt1 W₃ (by k_is) (by rfl) ?_
  have c₃ := F₃.cells
  repeat (walk_at "e")
  refine e_len l₃ (by rw [List.length_map]; omega) (fun u₃ t₃ => ?_)
  rw [List.length_map]
  refine e_range (P := New h) (new_top q₃.nil) (fun h₄ t₄ ev k₄ hev => ?_)
  have F₄ := F₃.up k₄.up
  have l₄ := l₃.ups' k₄
  refine st_loc F₄ (fun h₅ F₅ s₅ => ?_)
  have q₅ : Stays [] h h₅ := Heap.SameBut.stays (q₃.trans k₄.stays) s₅ hLn
  have l₅ := l₄.same F₄.ns s₅
  have e₅ := hev.same F₄.ns s₅
  have W₅ := wd q₅
  have c₅ := F₅.cells
  -- signs
  refine wpAny_execs_cons ?_
  refine assign_comp (os := os) (d := d) (fs := [h.objs.size]) (p := fun _ => true) (f := fun n => .str ((signsL ms).getD n (Str.ofString ""))) (by rfl) hd.h (by rfl) (by decide) (by rfl) (by decide) (by rfl) (by rfl) (by rfl) ?_ (by intro _; rfl)
  repeat (walk_at "e")
  obtain ⟨Pv, S, hPv⟩ := l₅.src
  rw [List.length_map] at S
  refine ⟨h₅, g, _, ms.length, Pv, _, S, frk q₅ F₅.ns, by omega, F₅.ns, ⟨?_, ?_⟩, ?_⟩
  · intro C i v h₆ g₆ t₆ m₆ hi hP hst hG hC hns hm
    exact ifs_nil ⟨rfl, _, _, _, rfl, .refl .., id⟩
  · intro C i v h₆ g₆ t₆ m₆ hi hP hpi hst hG hC hns hm
    obtain ⟨dd, hdd, hy⟩ := hPv i v hP
    rw [List.getElem?_map, List.getElem?_eq_getElem hi] at hdd
    cases hdd
    have hy := hy.up (h' := h₆) (fun _ p => p) fun a _ => hst.up a
    have W₆ := wd (q₅.cut hst hLn)
    refine c_fn W₆ (by k_is) (by k_is) ?_
    repeat (walk_at "e")
    refine sub_tupD hy (by decide) (by decide) rfl (fun y hy => ?_) (fun _ => rfl)
    obtain ⟨u, rfl⟩ := hy.int
    repeat (walk_at "e")
    refine ⟨W₆.X, ?_⟩
    refine filemode_spec W₆ (by have := hd.d; show A.depth + 1 < 700; omega) hd.h (fun h₇ t₇ u₇ k₇ => ?_)
    refine ⟨_, _, _, rfl, k₇.stays, id, ?_⟩
    simp only [Is]
    exact ⟨u₇, by simp [signsL, hi]⟩
  · intro h₆ g₆ t₆ sv k₆ F₆' G₆ hsv
    have hsv : Is (New h) h₆ (strsD (signsL ms)) sv := by
      have := hsv.weaken (new_mono q₅.up)
      rw [show ms.length = (signsL ms).length by simp [signsL], range_getD (signsL ms) (Str.ofString "") D.str] at this
      exact this
    have F₆ := F₅.sx (m' := _) ⟨fun b o h1 h2 e => k₆.keep b o h1 h2 e, k₆.up⟩ F₆'
    have q₆ : Stays [] h h₆ := sxcut q₅ k₆ hLn
    have l₆ := l₅.sxL F₅.ns k₆
    have e₆ := e₅.sxL F₅.ns k₆
    have c₆ := F₆.cells
    -- ways
    refine wpAny_execs_cons ?_
    refine assign_comp (os := os) (d := d) (fs := [h.objs.size]) (p := fun _ => true) (f := fun n => strsD (wss.getD n [])) (by rfl) hd.h (by rfl) (by decide) (by rfl) (by decide) (by rfl) (by rfl) (by rfl) ?_ (by intro _; rfl)
    repeat (walk_at "e")
    obtain ⟨Pv, S, hPv⟩ := e₆.srcR
    refine ⟨h₆, g₆, _, ms.length, Pv, _, S, frk q₆ F₆.ns, by omega, F₆.ns, ⟨?_, ?_⟩, ?_⟩
    · intro C i v h₇ g₇ t₇ m₇ hi hP hst hG hC hns hm
      exact ifs_nil ⟨rfl, _, _, _, rfl, .refl .., id⟩
    · intro C i v h₇ g₇ t₇ m₇ hi hP hpi hst hG hC hns hm
      obtain ⟨ki, rfl⟩ := hPv i v hP
      have F₇ := F₆.up hst.up
      have c₇ := F₇.cells
      have q₇ := q₆.cut hst hLn
      have l₇ := l₆.up (h' := h₇) (fun _ p => p) fun a _ => hst.up a
      have W₇ := wd q₇
      refine c_type1 W₇ (by k_is) (by rfl) ?_
      refine c_fn W₇ (by k_is) (by k_is) ?_
      repeat (walk_at "e")
      refine sub_listD l₇ (by omega) (by omega) (mem_at (mem_get (k := i) (by omega) (by omega))) (fun y hy => ?_) (fun _ => rfl)
      repeat (walk_at "e")
      refine sub_tupD hy (by decide) (by decide) rfl (fun y hy => ?_) (fun _ => rfl)
      obtain ⟨u, rfl⟩ := hy.str
      repeat (walk_at "e")
      have hmm : mem ms i ∈ ms := List.mem_of_getElem? (mem_get (k := i) (by omega) (by omega))
      have hnl := ok.name _ hmm
      have hz : ((i : Int) % 3).toNat = i % 3 := by omega
      refine e_mulS (c := 47) (by rfl) (by omega) (by omega) (fun t8 u8 => ?_)
      rw [hz]
      refine e_addS (by omega) (by rw [len_rep]; omega) (fun t9 u9 => ?_)
      repeat (walk_at "e")
      refine ⟨W₇.X, ?_⟩
      obtain ⟨xs, ha1, ha2, ha3, ha4⟩ := ok.anc i hi
      refine ways_spec W q₇.nil (stk q₇ F₇.ns _ rfl (fun q => by cases q)) (by have := hd.d; show A.depth + 1 < 480; omega) (by have := hd.u; show A.units + 3 < 3900; omega) hd.h (by rw [len_app, len_rep]; omega) ha1 ha2 ha3 (fun h8 g8 t8 v8 k8 G8 hv8 => ?_)
      rw [ha4] at hv8
      exact ⟨_, _, _, rfl, k8, G8, hv8⟩
    · intro h₇ g₇ t₇ wv k₇ F₇' G₇ hwv
      have hwv : Is (New h) h₇ (dsD wss) wv := by
        have := hwv.weaken (new_mono q₆.up)
        rw [← hwl, range_getD wss [] strsD] at this
        exact this
      have F₇ := F₆.sx (m' := _) ⟨fun b o h1 h2 e => k₇.keep b o h1 h2 e, k₇.up⟩ F₇'
      have q₇ : Stays [] h h₇ := sxcut q₆ k₇ hLn
      have l₇ := l₆.sxL F₆.ns k₇
      have e₇ := e₆.sxL F₆.ns k₇
      have s₇ := hsv.sxL F₆.ns k₇
      have W₇ := wd q₇
      have F₇ : FS h₇ h.objs.size _ [(Str.ofString "doors", h.objs.size + 1 + 1 + 1), (Str.ofString "user", h.objs.size + 1 + 1), (Str.ofString "members", h.objs.size + 1)] _ := F₇
      have cu := F₇.cells (Str.ofString "user") _ (by rfl)
      have cd := F₇.cells (Str.ofString "doors") _ (by rfl)
      -- the users
      refine wpAny_execs_cons ?_
      refine for_src (d := d) (os := os) (fs := [h.objs.size]) hd.h ?_ (by intro _; rfl)
      refine c_type1 W₇ (by k_is) (by rfl) ?_
      repeat (walk_at "e")
      refine e_range (P := Any) (n := 3) trivial (fun h₈ t₈ rv k₈ hrv => ?_)
      obtain ⟨Pv, S, hPv⟩ := hrv.srcR
      have F₈ := F₇.up k₈.up
      have q₈ := q₇.trans k₈.stays
      have hLc : ∀ b ∈ [h.objs.size, h.objs.size + 1 + 1, h.objs.size + 1 + 1 + 1], h.get? b = none := by
        intro b hb
        simp at hb
        rcases hb with rfl | rfl | rfl
        · exact hLn
        · exact none_ge (by omega)
        · exact none_ge (by omega)
      have l₈ := l₇.ups' k₈
      have e₈ := e₇.ups' k₈
      have s₈ := s₇.ups' k₈
      have w₈ := hwv.ups' k₈
      have cu₈ := F₈.cells (Str.ofString "user") _ (by rfl)
      have cd₈ := F₈.cells (Str.ofString "doors") _ (by rfl)
      have Ns₈ := F₈.ns
      have hex : ∀ b ∈ [h.objs.size, h.objs.size + 1 + 1, h.objs.size + 1 + 1 + 1], ∃ o, h₈.get? b = some o := by
        intro b hb
        rcases List.mem_cons.mp hb with rfl | hb
        · exact F₈.live
        · rcases List.mem_cons.mp hb with rfl | hb
          · obtain ⟨o, ho, _⟩ := cu₈; exact ⟨o, ho⟩
          · rw [List.mem_singleton.mp hb]; obtain ⟨o, ho, _⟩ := cd₈; exact ⟨o, ho⟩
      refine ⟨h₈, g₇, _, 3, Pv, fun I i h' g' => GK g g' ∧ SX [h.objs.size, h.objs.size + 1 + 1, h.objs.size + 1 + 1 + 1] [h.objs.size] h₈ h' ∧ ∃ m' cm', FS h' h.objs.size m' [(Str.ofString "doors", h.objs.size + 1 + 1 + 1), (Str.ofString "user", h.objs.size + 1 + 1), (Str.ofString "members", h.objs.size + 1)] cm' ∧
        m' (Str.ofString "every") = some ev ∧ m' (Str.ofString "signs") = some sv ∧ m' (Str.ofString "ways") = some wv ∧ cm' (Str.ofString "members") = some lv, [h.objs.size, h.objs.size + 1 + 1, h.objs.size + 1 + 1 + 1], S, frk q₈ F₈.ns, by omega, ?_, ?_, ?_, ?_, ?_⟩
      · intro b hb
        refine ⟨fun q => ?_, hex b hb⟩
        obtain ⟨a, t', u', k', e, _, hr⟩ := hrv.rng
        rw [q] at e; cases e
        have hr : h₈.get? b = _ := hr
        rcases List.mem_cons.mp hb with rfl | hb
        · obtain ⟨o, _, _, ho, hdd, _⟩ := Ns₈
          rw [hr] at ho; cases ho; cases hdd
        · rcases List.mem_cons.mp hb with rfl | hb
          · obtain ⟨o, ho, hdd⟩ := cu₈
            rw [hr] at ho; cases ho; cases hdd
          · rw [List.mem_singleton.mp hb] at hr
            obtain ⟨o, ho, hdd⟩ := cd₈
            rw [hr] at ho; cases ho; cases hdd
      · rintro I i ha hb g₁ hIn ⟨G, kx, m', cm', F, m1, m2, m3, m4⟩ hk
        have nI : ∀ {b o}, h₈.get? b = some o → b ≠ I := by rintro b o e rfl; rw [hIn] at e; cases e
        refine ⟨G, ⟨fun b o h1 h2 e => hk b o (nI e) (kx.keep b o h1 h2 e), fun b h1 o e => (kx.up b h1).trans (fun o' e' => upr (hk b o' (nI e) e')) o e⟩, m', cm', ⟨?_, ?_, F.apart⟩, m1, m2, m3, m4⟩
        · obtain ⟨o, ho⟩ := F₈.live
          exact F.ns.at' fun o' e' => hk _ o' (nI ho) e'
        · intro n c e
          obtain ⟨o, ho, hdd⟩ := F.cells n c e
          obtain ⟨o', ho', _⟩ := F₈.cells n c e
          exact ⟨o, hk _ o (nI ho') ho, hdd⟩
      · intro I ha hIn ka
        exact ⟨fun z => G₇ (G₆ z), ka.stays.sx, _, _, F₈.up ka.up, rfl, rfl, rfl, rfl⟩
      · rintro I i v hf g₁ tf hIn hi' hv ⟨G, kx, mf, cmf, Ff, m1, m2, m3, m4⟩ hIl
        obtain ⟨ki, rfl⟩ := hPv i v hv
        have qf : Stays [] h hf := sxkeep q₈ kx hLc (by simpa using hLn)
        have lf := l₈.sxK Ns₈ cu₈ cd₈ kx
        have ef := e₈.sxK Ns₈ cu₈ cd₈ kx
        have sf := s₈.sxK Ns₈ cu₈ cd₈ kx
        have wf' := w₈.sxK Ns₈ cu₈ cd₈ kx
        refine st_cell Ff (fun hg Fg sg => ?_)
        have cuf := Ff.cells (Str.ofString "user") _ (by rfl)
        have qg : Stays [] h hg := Heap.SameBut.stays qf sg (hLc _ (.tail _ (.head _)))
        have lg := lf.sameC cuf sg
        have eg := ef.sameC cuf sg
        have sgn := sf.sameC cuf sg
        have wg := wf'.sameC cuf sg
        have xg : SX [h.objs.size, h.objs.size + 1 + 1, h.objs.size + 1 + 1 + 1] [h.objs.size] hf hg := .of_sameBut sg (.tail _ (.head _))
        have cg := Fg.cells
        repeat (walk_at "e")
        -- doors
        refine eval_comp (os := os) (d := d) (fs := [h.objs.size]) (p := fun _ => true) (f := fun k : Nat => strsD (doorsN ms i 50 k)) hd.h (by rfl) (by decide) (by rfl) (by decide) (by rfl) ?_ (by intro _; rfl)
        repeat (walk_at "e")
        obtain ⟨Pv, S, hPv⟩ := eg.srcR
        refine ⟨hg, g₁, _, ms.length, Pv, S, frk qg Fg.ns, by omega, ⟨?_, ?_⟩, ?_⟩
        · intro C k v ha ga ta ma hk hP hst hG hC hns hm
          exact ifs_nil ⟨rfl, _, _, _, rfl, .refl .., id⟩
        · intro C k v ha ga ta ma hk hP hpi hst hG hC hns hm
          obtain ⟨kk, rfl⟩ := hPv k v hP
          have Fa := Fg.up hst.up
          have ca := Fa.cells
          have qa := qg.cut hst hLn
          have Wa := wd qa
          have la := (lg.up (h' := ha) (fun _ p => p) fun a _ => hst.up a).any
          refine c_fn Wa (by k_is) (by k_is) ?_
          repeat (walk_at "e")
          refine ⟨Wa.X, ?_⟩
          refine doors_spec wf 50 Wa (by have := hd.d; show A.depth + 1 + 50 < 400; omega) la (by omega) (by omega) (by omega) (fun hb tb vb kb hvb => ?_)
          exact ⟨_, _, _, rfl, kb.stays, id, hvb⟩
        · intro hh gh th dv kh Gh hdv
          have F_h := Fg.up kh.up
          have q_h := qg.cut kh hLn
          have lh := lg.up (h' := hh) (fun _ p => p) fun a _ => kh.up a
          have eh := eg.up (h' := hh) (fun _ p => p) fun a _ => kh.up a
          have sh := sgn.up (h' := hh) (fun _ p => p) fun a _ => kh.up a
          have wh := wg.up (h' := hh) (fun _ p => p) fun a _ => kh.up a
          have dh : Is (New h) hh (dsD (doorsL ms i)) dv := by
            have := hdv.weaken (new_mono qg.up)
            rw [List.filter_eq_self.mpr fun _ _ => rfl] at this
            rw [dsD, doorsL, List.map_map]
            exact this
          refine st_cell F_h (fun hi Fi si => ?_)
          have cdh := F_h.cells (Str.ofString "doors") _ (by rfl)
          have qi : Stays [] h hi := Heap.SameBut.stays q_h si (hLc _ (.tail _ (.tail _ (.head _))))
          have li := lh.sameC cdh si
          have ei := eh.sameC cdh si
          have si' := sh.sameC cdh si
          have wi := wh.sameC cdh si
          have di := dh.sameC cdh si
          have xi : SX [h.objs.size, h.objs.size + 1 + 1, h.objs.size + 1 + 1 + 1] [h.objs.size] hf hi := (xg.trans kh.sx).trans (.of_sameBut si (.tail _ (.tail _ (.head _))))
          have ci := Fi.cells
          -- gone
          refine wpAny_execs_cons ?_
          refine assign_comp (os := os) (d := d) (fs := [h.objs.size]) (p := fun k : Nat => goesN ms (doorsL ms i) i 20 k) (f := fun k : Nat => .int k) (by rfl) hd.h (by rfl) (by decide) (by rfl) (by decide) (by rfl) (by rfl) (by rfl) ?_ (by intro _; rfl)
          repeat (walk_at "e")
          obtain ⟨Pv, S, hPv⟩ := ei.srcR
          refine ⟨hi, gh, _, ms.length, Pv, _, S, frk qi Fi.ns, by omega, Fi.ns, ⟨?_, ?_⟩, ?_⟩
          · intro C k v ha ga ta ma hk hP hst hG hC hns hm
            obtain ⟨kk, rfl⟩ := hPv k v hP
            have Fa := Fi.up hst.up
            have ca := Fa.cells
            have qa := qi.cut hst hLn
            have Wa := wd qa
            have la := (li.up (h' := ha) (fun _ p => p) fun a _ => hst.up a).any
            have da := (di.up (h' := ha) (fun _ p => p) fun a _ => hst.up a).any
            refine ifs_one ?_
            refine isTrue_plain ?_ (by rfl)
            refine c_fn Wa (by k_is) (by k_is) ?_
            repeat (walk_at "e")
            refine ⟨Wa.X, ?_⟩
            refine goes_spec wf (by simp [doorsL]) (ok.okdoors i) 20 Wa ((hd₁ _).mono (by omega)) la da (by omega) (by omega) (by omega) (fun hb gb tb kb Gb => ?_)
            repeat (walk_at "e")
            exact ⟨rfl, _, _, _, rfl, kb.stays, Gb⟩
          · intro C k v ha ga ta ma hk hP hpi hst hG hC hns hm
            obtain ⟨kk, rfl⟩ := hPv k v hP
            repeat (walk_at "e")
            refine ⟨_, _, _, rfl, .refl .., id, ?_⟩
            simp only [Is]
            exact ⟨kk, rfl⟩
          · intro hj gj tj gv kj Fj' Gj hgv
            have Fj := Fi.sx (m' := _) ⟨fun b o h1 h2 e => kj.keep b o h1 h2 e, kj.up⟩ Fj'
            have qj : Stays [] h hj := sxcut qi kj hLn
            have lj := (li.sxL Fi.ns kj).any
            have sj := (si'.sxL Fi.ns kj).any
            have wj := (wi.sxL Fi.ns kj).any
            have dj := (di.sxL Fi.ns kj).any
            have gj' := hgv.any
            have Wj := wd qj
            have cj := Fj.cells
            have xj : SX [h.objs.size, h.objs.size + 1 + 1, h.objs.size + 1 + 1 + 1] [h.objs.size] hf hj := xi.trans (kj.mono (ex' := [h.objs.size, h.objs.size + 1 + 1, h.objs.size + 1 + 1 + 1]) (fun b hb => by rw [List.mem_singleton.mp hb]; exact .head _))
            have hu3 : (0 : Int) ≤ (i : Int) ∧ (i : Int) < 3 := by omega
            have htold : toldD ms (signsL ms) wss i = .tup [dsD (doorsL ms i), .list (((List.range ms.length).filter fun k : Nat => goesN ms (doorsL ms i) i 20 k).map fun k : Nat => .int k)] := by
              unfold toldD
              rw [ok.doors i hu3.1 hu3.2, List.filter_congr fun k hk => ok.gone i hu3.1 hu3.2 k (List.mem_range.mp hk)]
            repeat (walk_at "e")
            refine c_fn Wj (by k_is) (by k_is) ?_
            repeat (walk_at "e")
            refine ⟨Wj.X, ?_⟩
            refine told_spec wf W qj.nil (stk qj Fj.ns _ rfl (fun q => by cases q)) ((hd₁ _).mono (by omega)) ok.sign (by simp [signsL]) hwl ok.okd ok.short ok.named lj sj wj (fun hk gk tk tv kk Gk htv => ?_)
            rw [htold] at htv
            have F_k := Fj.up kk.up
            have ck := F_k.cells
            have dk := dj.ups kk.up
            have gk' := gj'.ups kk.up
            repeat (walk_at "e")
            refine e_newTuple (P := Any) (ds := [dsD (doorsL ms i), .list (((List.range ms.length).filter fun k : Nat => goesN ms (doorsL ms i) i 20 k).map fun k : Nat => .int k)]) (.cons dk (.one gk')) trivial (by simp) (by simp) (fun hl' rv kl hrv => ?_)
            have hok := ok_told (doorsL ms i) ((List.range ms.length).filter fun k : Nat => goesN ms (doorsL ms i) i 20 k) (ok.okdoors i)
            refine e_neD (htv.any.ups kl.up) hrv hok hok (by have := hd.u; show A.units + 3 < 9000; omega) (fun b hb => ?_)
            have hbt : b = true := hb.mpr rfl
            subst hbt
            repeat (walk_at "e")
            have F_l := F_k.up kl.up
            exact ⟨hl', _, _, rfl, (xj.trans kk.sx).trans kl.stays.sx, fun z => Gk (Gj (Gh (G z))), kx.trans ((xj.trans kk.sx).trans kl.stays.sx), _, _, F_l, m1, m2, m3, m4⟩
      · rintro I ha ga ta hIn ⟨G, kx, mf, cmf, Ff, m1, m2, m3, m4⟩
        have qf : Stays [] h ha := sxkeep q₈ kx hLc (by simpa using hLn)
        repeat (walk_at "e")
        exact x _ _ _ qf.nil G
set_option maxRecDepth 100000 in
set_option maxHeartbeats 4000000 in
theorem fin (ok : ∀ ns : List Int, ∃ wss, LawOk (membersN ([44, 2139, 295376] ++ ns.take 4)) wss) : PySem.Challenge.rw_ij0086_01.Holds := by
  refine hd ?_
  intro w s₀ s₁ mg mb G Y fa o pm cd doc dV kV ho hd' hcd hD hmg hg args vals as hpre hlay hrd hwl hlo
  have KX := kIn_of Y
  have W : Wd w mg mb s₁.heap := ⟨KX, topRead_of G.T⟩
  have hfa : mg (Str.ofString "law") = some (.ref 237) := mg_of W.X W.T.g (by k_is)
  have e : fa = 237 := by
    have hmg : mg (Str.ofString "law") = some (.ref fa) := hmg
    rw [hfa] at hmg; cases hmg; rfl
  subst e
  clear ho hd' hcd hD hmg
  wrow_args hpre hlay hrd hwl hlo
  rename_i ns _ _ _ _ _ _ _ l vs _ hL _ _ _ hI _ hlen _
  have hlen' : ns.length ≤ 63 := by omega
  obtain ⟨wss, hok⟩ := ok ns
  obtain ⟨h, g, d, t, os⟩ := s₁
  have Sk : Stk callerA [] h h := ⟨⟨[], rfl, rfl, fun _ q => (by cases q)⟩, (fun _ q => by cases q), (fun _ q => by cases q)⟩
  refine law_spec hok rfl W Sk ⟨by decide, by decide, rfl⟩ hL hI hlen' (fun h' g' t' k Gk => ?_)
  refine ⟨.inl ⟨_, _, [], rfl, fun _ => rfl, .bool _, ?_, fun _ => ⟨List.nodup_nil, fun _ q => by cases q⟩⟩, .of_keep k, rfl, Gk ?_⟩
  · first | wrow_post | exact postW_of (X := true) (by rfl) (by rfl) rfl | decide
  · have hg : g = #[] := hg
    rw [hg]; intro y hy; simp at hy
-- the plain law: strings as lists
noncomputable def S (l : List Nat) : Str := ⟨l.toArray⟩
theorem S_cps (x : Str) : S x.cps.toList = x := by cases x; simp [S]
theorem S_len (l : List Nat) : (S l).length = l.length := by simp [S, Str.length]
theorem S_inj {a b : List Nat} (h : S a = S b) : a = b := by
  have := congrArg (fun x : Str => x.cps.toList) h
  simpa [S] using this
theorem S_app (a b : List Nat) : S a ++ S b = S (a ++ b) := by
  show Str.append (S a) (S b) = _
  simp [Str.append, S]
theorem S_rep (c n : Nat) : rep c n = S (List.replicate n c) := rfl
theorem slash : Str.ofString "/" = S [47] := by decide
theorem at_iff (x : List Nat) (i : Nat) : StrLaws.At (S x) (S [47]) (S x).length i ↔ x[i]? = some 47 := by
  unfold StrLaws.At
  rw [StrLaws.subAt_eq, S_len, S_len]
  have e1 : (S x).cps.toList = x := by simp [S]
  have e2 : (S [47]).cps.toList = [47] := by simp [S]
  rw [e1, e2, beq_iff_eq]
  constructor
  · rintro ⟨h1, h2⟩
    have h1 : i + 1 ≤ x.length := h1
    have h2 : (x.drop i).take 1 = [47] := h2
    have h3 : x[i]? = some (x[i]'(by omega)) := List.getElem?_eq_getElem (by omega)
    rw [List.drop_eq_getElem_cons (by omega), List.take_succ_cons, List.take_zero] at h2
    rw [h3, (List.cons.inj h2).1]
  · intro h
    obtain ⟨hlt, he⟩ := List.getElem?_eq_some_iff.mp h
    refine ⟨by show i + 1 ≤ x.length; omega, ?_⟩
    show (x.drop i).take 1 = [47]
    rw [List.drop_eq_getElem_cons hlt, he]; simp
theorem rfind_app {q t : List Nat} (hq : q = [] ∨ q.getLast? = some 47) (ht : 47 ∉ t) : PySem.Txt.rfind (S (q ++ t)) (Str.ofString "/") + 1 = q.length := by
  rw [slash]
  unfold PySem.Txt.rfind
  have hin : ∀ i, (q ++ t)[i]? = some 47 → i < q.length := by
    intro i h
    by_cases hi : i < q.length
    · exact hi
    · rw [List.getElem?_append_right (by omega)] at h
      exact absurd (List.mem_of_getElem? h) ht
  have hlast : ∀ n, q.length = n + 1 → (q ++ t)[n]? = some 47 := by
    intro n hn
    rcases hq with rfl | hq
    · simp at hn
    · rw [List.getElem?_append_left (by omega), ← hq, List.getLast?_eq_getElem?]
      congr 1; omega
  rcases StrLaws.last_spec (S (q ++ t)) (S [47]) with ⟨h1, h2⟩ | ⟨i, h1, h2, h3⟩
  · rw [h1]
    rcases h0 : q.length with _ | n
    · rfl
    · exact absurd ((at_iff _ _).mpr (hlast n h0)) (h2 n)
  · rw [h1]
    have h2 := hin i ((at_iff _ _).mp h2)
    rcases h0 : q.length with _ | n
    · omega
    · have := h3 n
      have hi : ¬ i < n := fun hlt => this hlt ((at_iff _ _).mpr (hlast n h0))
      show (i : Int) + 1 = ((n + 1 : Nat) : Int)
      omega
theorem indices_none (b n : Nat) : Builtin.Str.strSliceIndices none (some (b : Int)) 1 n = Builtin.Str.strSliceIndices (some ((0 : Nat) : Int)) (some (b : Int)) 1 n := by
  have : max (0 : Int) (min 0 (n : Int)) = 0 := by omega
  simp [Builtin.Str.strSliceIndices, this]
theorem slice_take' (l : List Nat) {b : Nat} (hb : b ≤ l.length) : PySem.Txt.slice (S l) none (some (b : Int)) = S (l.take b) := by
  have e : PySem.Txt.slice (S l) none (some (b : Int)) = PySem.Txt.slice (S l) (some ((0 : Nat) : Int)) (some (b : Int)) := by
    unfold PySem.Txt.slice
    rw [indices_none]
  rw [e, ← S_cps (PySem.Txt.slice (S l) (some ((0 : Nat) : Int)) (some (b : Int))), slice_plain (S l) (Nat.zero_le b) (by rw [S_len]; exact hb)]
  simp [S]
theorem goes47 (c : Nat) : (Str.ofString "/").cps.contains c = (c == 47) := by
  rw [slash]
  simp [S, Array.contains]
theorem rstrip_app {l : List Nat} (n : Nat) (hl : l = [] ∨ l.getLast? ≠ some 47) : PySem.Txt.rstripChars (S (l ++ List.replicate n 47)) (Str.ofString "/") = S l := by
  unfold PySem.Txt.rstripChars
  rw [PyProof.Rows.stripBy_eq]
  have h0 : PySem.stripLo (Str.ofString "/").cps.contains false (S (l ++ List.replicate n 47)) = 0 := by simp [PySem.stripLo]
  rw [h0]
  obtain ⟨_, h1, h2, h3⟩ := hi_facts (Str.ofString "/").cps.contains (S (l ++ List.replicate n 47)) 0 (Nat.zero_le _)
  generalize PySem.stripHi (Str.ofString "/").cps.contains true (S (l ++ List.replicate n 47)) 0 = hi at h1 h2 h3
  have hlen : (S (l ++ List.replicate n 47)).length = l.length + n := by rw [S_len]; simp
  have get : ∀ k, (S (l ++ List.replicate n 47)).cps.getD k 0 = (l ++ List.replicate n 47).getD k 0 := by intro k; simp [S, Array.getD, List.getD]; by_cases h : k < l.length + n <;> simp [h]
  have hh : hi = l.length := by
    rcases Nat.lt_trichotomy hi l.length with hlt | e | hgt
    · exfalso
      have := h2 (l.length - 1) (by omega) (by rw [hlen]; omega)
      rw [get, goes47] at this
      rcases hl with rfl | hl
      · simp at hlt
      · apply hl
        rw [List.getLast?_eq_getElem?]
        have e : (l ++ List.replicate n 47).getD (l.length - 1) 0 = 47 := by simpa using this
        rw [List.getD_eq_getElem?_getD, List.getElem?_append_left (by omega), List.getElem?_eq_getElem (by omega)] at e
        rw [List.getElem?_eq_getElem (by omega)]
        simpa using e
    · exact e
    · exfalso
      rcases h3 with rfl | h3
      · omega
      · rw [get, goes47, List.getD_eq_getElem?_getD, List.getElem?_append_right (by omega)] at h3
        rw [hlen] at h1
        rw [List.getElem?_replicate, if_pos (by omega)] at h3
        simp at h3
  rw [hh, strSub_mk]
  simp [S]
theorem split_app {q t : List Nat} (hq : q = [] ∨ q.getLast? = some 47) (ht : 47 ∉ t) : (splitP (S (q ++ t))).1 = if q = List.replicate q.length 47 then S q else PySem.Txt.rstripChars (S q) (Str.ofString "/") := by
  unfold splitP
  dsimp only
  rw [rfind_app hq ht, slice_take' (q ++ t) (by simp)]
  have e : (q ++ t).take q.length = q := by simp
  rw [e, S_len]
  by_cases h : q = List.replicate q.length 47
  · rw [if_pos h]
    have hr : (S q != rep 47 q.length) = false := by
      rw [S_rep, ← h]; simp
    rw [hr, Bool.and_false]; rfl
  · rw [if_neg h]
    have h1 : (((q.length : Nat) : Int) != 0) = true := by
      rcases h0 : q with _ | ⟨a, r⟩
      · rw [h0] at h; exact absurd rfl h
      · simp; omega
    have h2 : (S q != rep 47 q.length) = true := by
      rw [S_rep, bne_iff_ne]
      intro e
      exact h (S_inj e)
    rw [h1, h2]; rfl
-- the plain law: the tree of names
noncomputable abbrev nmL (ms : List Mem) (k : Int) : List Nat := (mem ms k).2.1.cps.toList
theorem S_list (l : List Nat) : (S l).cps.toList = l := by simp [S]
theorem rep_last (c n : Nat) : (List.replicate (n + 1) c).getLast? = some c := by rw [List.replicate_succ']; simp
theorem app_last (l : List Nat) (c n : Nat) : (l ++ List.replicate (n + 1) c).getLast? = some c := by
  rw [List.replicate_succ', ← List.append_assoc]; simp
structure TreeAt (ms : List Mem) (k : Nat) : Prop where
  lo : -1 ≤ (mem ms k).1
  hi : (mem ms k).1 < k
  nm : ∃ j : Nat, j ≤ 1 ∧ (mem ms k).2.1 = S ((if 0 ≤ (mem ms k).1 then nmL ms (mem ms k).1 ++ List.replicate (j + 1) 47 else List.replicate j 47) ++ List.replicate (k + 1) 97)
  m0 : 0 ≤ (mem ms k).2.2
  m1 : (mem ms k).2.2 < 4294967296
noncomputable def Tree (ms : List Mem) : Prop := ∀ k : Nat, k < ms.length → TreeAt ms k
theorem mem_left {ms : List Mem} {y : Mem} {k : Int} (h0 : 0 ≤ k) (h : k < ms.length) : mem (ms ++ [y]) k = mem ms k := by
  unfold mem
  rw [List.getElem?_append_left (by omega)]
theorem mem_last {ms : List Mem} {y : Mem} {k : Nat} (h : k = ms.length) : mem (ms ++ [y]) k = y := by
  subst h
  simp [mem]
theorem tree_step {ms : List Mem} (T : Tree ms) (x : Int) : Tree (ms ++ [nextM ms x]) := by
  intro k hk
  rw [List.length_append, List.length_singleton] at hk
  by_cases hlt : k < ms.length
  · have t := T k hlt
    have e := mem_left (ms := ms) (y := nextM ms x) (k := k) (by omega) (by omega)
    obtain ⟨j, hj, hn⟩ := t.nm
    refine ⟨by rw [e]; exact t.lo, by rw [e]; exact t.hi, ⟨j, hj, ?_⟩, by rw [e]; exact t.m0, by rw [e]; exact t.m1⟩
    rw [e, hn]
    by_cases ha : 0 ≤ (mem ms k).1
    · have hh := t.hi
      have e9 : nmL (ms ++ [nextM ms x]) (mem ms k).1 = nmL ms (mem ms k).1 := congrArg (fun m : Mem => m.2.1.cps.toList) (mem_left (ms := ms) (y := nextM ms x) ha (by omega))
      rw [if_pos ha, if_pos ha, e9]
    · rw [if_neg ha, if_neg ha]
  · have hkl : k = ms.length := by omega
    have e := mem_last (y := nextM ms x) hkl
    have e1 := Int.emod_lt_of_pos x (b := (ms.length : Int) + 1) (by omega)
    have e0 := Int.emod_nonneg x (b := (ms.length : Int) + 1) (by omega)
    have e2 := Int.emod_nonneg (x / (ms.length + 1)) (b := 2) (by omega)
    have e3 := Int.emod_lt_of_pos (x / (ms.length + 1)) (b := 2) (by omega)
    have hab : (nextM ms x).1 = x % (ms.length + 1) - 1 := rfl
    have hnm : (nextM ms x).2.1 = (if 0 ≤ x % ((ms.length : Int) + 1) - 1 then ((mem ms (x % ((ms.length : Int) + 1) - 1)).2.1 ++ Str.ofString "/") ++ rep 47 (x / (ms.length + 1) % 2).toNat else rep 47 (x / (ms.length + 1) % 2).toNat) ++ rep 97 (ms.length + 1) := rfl
    refine ⟨by rw [e, hab]; omega, by rw [e, hab, hkl]; omega, ⟨(x / (ms.length + 1) % 2).toNat, by omega, ?_⟩, ?_, ?_⟩
    · rw [e, hab, hnm, hkl]
      by_cases ha : 0 ≤ x % ((ms.length : Int) + 1) - 1
      · rw [if_pos ha, if_pos ha, nmL, mem_left (ms := ms) (y := nextM ms x) ha (by omega)]
        rw [slash, ← S_cps (mem ms (x % ((ms.length : Int) + 1) - 1)).2.1, S_rep, S_rep, S_app, S_app, S_app]
        have : (S (mem ms (x % ((ms.length : Int) + 1) - 1)).2.1.cps.toList).cps.toList = (mem ms (x % ((ms.length : Int) + 1) - 1)).2.1.cps.toList := by simp [S]
        rw [this]
        simp [List.replicate_succ]
      · rw [if_neg ha, if_neg ha, S_rep, S_rep, S_app]
    · rw [e]
      exact Int.emod_nonneg _ (by decide)
    · rw [e]
      exact Int.emod_lt_of_pos _ (by decide)
theorem tree_all (xs : List Int) : Tree (membersN xs) := by
  suffices ∀ (xs : List Int) (ms : List Mem), Tree ms → Tree (xs.foldl (fun ms x => ms ++ [nextM ms x]) ms) from this xs [] (fun k hk => by simp at hk)
  intro xs
  induction xs with
  | nil => intro ms T; exact T
  | cons x xs ih => intro ms T; rw [List.foldl_cons]; exact ih _ (tree_step T x)
theorem tree_wf {ms : List Mem} (T : Tree ms) (hl : ms.length ≤ 50) : Wf ms := by
  refine ⟨hl, fun k h0 hk => ?_⟩
  have t := T k.toNat (by omega)
  have e : ((k.toNat : Nat) : Int) = k := by omega
  have h1 := t.lo
  have h2 := t.hi
  rw [e] at h1 h2
  exact ⟨h1, h2⟩
theorem nm_form {ms : List Mem} (T : Tree ms) {k : Nat} (hk : k < ms.length) : ∃ q, nmL ms k = q ++ List.replicate (k + 1) 97 ∧ (q = [] ∨ q.getLast? = some 47) := by
  obtain ⟨j, _, hn⟩ := (T k hk).nm
  refine ⟨if 0 ≤ (mem ms k).1 then nmL ms (mem ms k).1 ++ List.replicate (j + 1) 47 else List.replicate j 47, (congrArg (fun x : Str => x.cps.toList) hn).trans (S_list _), ?_⟩
  split
  · right; exact app_last _ _ _
  · rcases j with _ | j
    · left; rfl
    · right; exact rep_last _ _
theorem nm_last {ms : List Mem} (T : Tree ms) {k : Nat} (hk : k < ms.length) : (nmL ms k).getLast? = some 97 := by
  obtain ⟨q, e, _⟩ := nm_form T hk
  rw [e, app_last]
theorem tail_count {q : List Nat} (n : Nat) (hq : q = [] ∨ q.getLast? = some 47) : ((q ++ List.replicate n 97).reverse.takeWhile (· == 97)).length = n := by
  rw [List.reverse_append, List.reverse_replicate, List.takeWhile_append_of_pos (by intro a ha; rw [List.eq_of_mem_replicate ha]; rfl)]
  have : q.reverse.takeWhile (· == 97) = [] := by
    rcases hq with rfl | hq
    · rfl
    · rcases h : q.reverse with _ | ⟨a, r⟩
      · rfl
      · have : q.reverse.head? = some 47 := by rw [List.head?_reverse]; exact hq
        rw [h] at this
        simp at this
        subst this; rfl
  rw [this]; simp
theorem name_inj {ms : List Mem} (T : Tree ms) {k k' : Nat} (hk : k < ms.length) (hk' : k' < ms.length) (h : (mem ms k).2.1 = (mem ms k').2.1) : k = k' := by
  obtain ⟨q, e, hq⟩ := nm_form T hk
  obtain ⟨q', e', hq'⟩ := nm_form T hk'
  have h1 := tail_count (k + 1) hq
  have h2 := tail_count (k' + 1) hq'
  rw [← e] at h1
  rw [← e'] at h2
  rw [nmL, h] at h1
  have : k + 1 = k' + 1 := h1.symm.trans h2
  omega
/-- the places above, the nearest first -/
noncomputable def upN (ms : List Mem) : Nat → Nat → List Nat
  | 0, _ => []
  | n + 1, k => if (mem ms k).1 < 0 then [] else (mem ms k).1.toNat :: upN ms n (mem ms k).1.toNat
theorem up_fuel {ms : List Mem} (T : Tree ms) : ∀ (n m k : Nat), k < ms.length → k < n → k < m → upN ms n k = upN ms m k := by
  intro n
  induction n with
  | zero => intro m k hk h1 h2; omega
  | succ n ih =>
    intro m k hk h1 h2
    rcases m with _ | m
    · omega
    · have h3 := (T k hk).hi
      rw [upN, upN]
      by_cases ha : (mem ms k).1 < 0
      · rw [if_pos ha, if_pos ha]
      · rw [if_neg ha, if_neg ha, ih m (mem ms k).1.toNat (by omega) (by omega) (by omega)]
theorem up_lt {ms : List Mem} (T : Tree ms) : ∀ (n k : Nat), k < ms.length → ∀ a ∈ upN ms n k, a < k := by
  intro n
  induction n with
  | zero => intro k hk a ha; simp [upN] at ha
  | succ n ih =>
    intro k hk a ha
    have h3 := (T k hk).hi
    rw [upN] at ha
    split at ha
    · simp at ha
    · rcases List.mem_cons.mp ha with rfl | ha
      · omega
      · have := ih _ (by omega) a ha; omega
noncomputable def nameN (ms : List Mem) (k : Nat) : Str := (mem ms k).2.1
theorem anc_of {ms : List Mem} (T : Tree ms) : ∀ (n k : Nat), k < n → k < ms.length → Anc (nameN ms k) (nameN ms k :: (upN ms n k).map (nameN ms)) := by
  intro n
  induction n with
  | zero => intro k h; omega
  | succ n ih =>
    intro k hn hk
    have t := T k hk
    obtain ⟨j, _, hnm⟩ := t.nm
    have hl := nm_last T hk
    refine .step ?_ ?_
    · have := rstrip_app (l := nmL ms k) 0 (.inr (by rw [hl]; simp))
      rw [List.replicate_zero, List.append_nil, S_cps] at this
      rw [nameN, this]
      intro h0
      have : nmL ms k = [] := by
        have : (nmL ms k).length = 0 := by simpa [Str.length] using h0
        exact List.length_eq_zero_iff.mp this
      rw [this] at hl; cases hl
    · have hlo := t.lo
      have hhi := t.hi
      rw [nameN, hnm, upN]
      by_cases ha : 0 ≤ (mem ms k).1
      · rw [if_pos ha, if_neg (by omega)]
        have hcast : (((mem ms k).1.toNat : Nat) : Int) = (mem ms k).1 := by omega
        have hla := nm_last T (k := (mem ms k).1.toNat) (by omega)
        rw [hcast] at hla
        rw [split_app (.inr (by exact app_last _ _ _)) (by intro h; have := List.eq_of_mem_replicate h; omega), if_neg, rstrip_app _ (.inr (by rw [hla]; simp)), S_cps]
        · have := ih (mem ms k).1.toNat (by omega) (by omega)
          rw [nameN, hcast] at this
          rw [List.map_cons, nameN, hcast]
          exact this
        · intro he
          have hm : 97 ∈ nmL ms (mem ms k).1 := List.mem_of_getLast? hla
          have : 97 ∈ List.replicate (nmL ms (mem ms k).1 ++ List.replicate (j + 1) 47).length 47 := by rw [← he]; exact List.mem_append_left _ hm
          have := List.eq_of_mem_replicate this
          omega
      · rw [if_neg ha, if_pos (by omega)]
        rw [split_app (by rcases j with _ | j; · left; rfl
                          · right; exact rep_last _ _) (by intro h; have := List.eq_of_mem_replicate h; omega), if_pos (by rw [List.length_replicate])]
        refine .stop ?_
        have := rstrip_app (l := []) j (.inl rfl)
        rw [List.nil_append] at this
        rw [this]; rfl
theorem anc_way {ms : List Mem} (T : Tree ms) {k : Nat} (hk : k < ms.length) (n j : Nat) (hn : k < n) : Anc (PySem.Txt.rstripChars ((mem ms k).2.1 ++ rep 47 j) (Str.ofString "/")) (nameN ms k :: (upN ms n k).map (nameN ms)) := by
  have hl := nm_last T hk
  have := rstrip_app (l := nmL ms k) j (.inr (by rw [hl]; simp))
  rw [← S_cps (mem ms k).2.1, S_rep, S_app, this, S_cps]
  exact anc_of T n k hn hk
-- the plain law: the signs
theorem S_empty : Str.ofString "" = S [] := by decide
theorem join_list_cps : ∀ (l : List Str), (PySem.Txt.join (Str.ofString "") l).cps.toList = l.flatMap fun x => x.cps.toList := by
  intro l
  have e : PySem.Txt.join (Str.ofString "") l = Str.join (Str.ofString "") l := StrLaws.glued_eq_join _ _
  rw [e]
  induction l with
  | nil => rfl
  | cons x l ih =>
    cases l with
    | nil => simp [Str.join]
    | cons y l =>
      have e2 : Str.join (Str.ofString "") (x :: y :: l) = x ++ Str.ofString "" ++ Str.join (Str.ofString "") (y :: l) := rfl
      rw [e2]
      have e3 : ∀ (a b : Str), (a ++ b).cps.toList = a.cps.toList ++ b.cps.toList := fun a b => by
        show (Str.append a b).cps.toList = _
        simp [Str.append]
      have e4 := ih (StrLaws.glued_eq_join _ _)
      rw [e3, e3, e4, S_empty, S_list, List.append_nil]
      simp [List.flatMap_cons]
theorem flat_one {α β : Type} (f : α → β) : ∀ l : List α, (l.flatMap fun a => [f a]) = l.map f
  | [] => rfl
  | a :: l => by rw [List.flatMap_cons, flat_one f l]; rfl
noncomputable def pickC (m : Int) (i : Nat) : Nat := (pickN i m (tabN.getD i [])).cps.toList.getD 0 0
theorem pick_S (m : Int) (i : Nat) : pickN i m (tabN.getD i []) = S [pickC m i] := by
  have h := pick_len i m
  rw [← S_cps (pickN i m (tabN.getD i []))]
  congr 1
  have h' : (pickN i m (tabN.getD i [])).cps.toList.length = 1 := by simpa [Str.length] using h
  unfold pickC
  rcases e : (pickN i m (tabN.getD i [])).cps.toList with _ | ⟨a, _ | ⟨b, r⟩⟩
  · rw [e] at h'; cases h'
  · rfl
  · rw [e] at h'; simp at h'
theorem sign_S (m : Int) : signN m = S ((List.range 10).map (pickC m)) := by
  rw [← S_cps (signN m)]
  congr 1
  rw [signN, join_list_cps]
  have : permN m 10 = (List.range 10).map fun i => S [pickC m i] := by
    unfold permN
    exact List.map_congr_left fun i _ => pick_S m i
  rw [this, List.flatMap_map]
  simp only [S_list]
  exact flat_one _ _
theorem sign_len (m : Int) : (signN m).length = 10 := by rw [sign_S, S_len]; simp
theorem item_S (l : List Nat) (i : Nat) (hi : i < l.length) : PySem.Txt.item (S l) (i : Int) = S [l.getD i 0] := by
  have h1 : seqIndex? (i : Int) (S l).length = some i := by
    rw [S_len]
    have := seqIndex_of (k := (i : Int)) (n := l.length) (by omega) (by omega)
    simpa using this
  unfold PySem.Txt.item PySem.Txt.charAt
  rw [h1]
  simp [S, hi]
theorem sign_item (m : Int) (i : Nat) (hi : i < 10) : PySem.Txt.item (signN m) (i : Int) = pickN i m (tabN.getD i []) := by
  rw [sign_S, item_S _ _ (by simpa using hi), pick_S]
  simp [hi]
theorem right_item {sg : List Str} {user : Int} {k : Nat} {m : Int} (h : sg.getD k (Str.ofString "") = signN m) (t : Nat) (ht : t < 3) :
    PySem.Txt.item (rightN sg user k) (t : Int) = pickN (((user + k) % 3).toNat * 3 + 1 + t) m (tabN.getD (((user + k) % 3).toNat * 3 + 1 + t) []) := by
  have hl : (sg.getD k (Str.ofString "")).length = 10 := by rw [h]; exact sign_len m
  have e := right_cps (user := user) hl
  rw [h, sign_S, S_list] at e
  have hlen := right_len (user := user) hl
  have hl3 : (rightN sg user k).cps.toList.length = 3 := by simpa [Str.length] using hlen
  rw [← S_cps (rightN sg user k), item_S _ _ (by rw [hl3]; exact ht), pick_S]
  congr 2
  rw [e]
  have h3 : ((user + k) % 3).toNat * 3 + 1 + t < 10 := by omega
  rw [List.getD_eq_getElem?_getD, List.getElem?_take_of_lt ht, List.getElem?_drop, List.getElem?_map, List.getElem?_range h3]
  rfl
-- bits
theorem and_shift (n c k : Nat) : n &&& (c * 2 ^ k) = ((n / 2 ^ k) &&& c) * 2 ^ k := by
  apply Nat.eq_of_testBit_eq
  intro i
  rw [Nat.testBit_and, Nat.testBit_mul_two_pow, Nat.testBit_mul_two_pow, Nat.testBit_and, Nat.testBit_div_two_pow]
  by_cases h : k ≤ i
  · rw [show i - k + k = i by omega]
    simp [h]
  · simp [h]
theorem and_pow (n k : Nat) : n &&& 2 ^ k = (n / 2 ^ k % 2) * 2 ^ k := by
  have := and_shift n 1 k
  rw [Nat.one_mul] at this
  rw [this, Nat.and_one_is_mod]
theorem bitAnd_nat (n c : Nat) : Builtin.bitAnd (n : Int) (c : Int) = ((n &&& c : Nat) : Int) := by
  rw [bitAnd_pp (by omega) (by omega)]; simp
theorem hit_pow (n k : Nat) : (Builtin.bitAnd (n : Int) ((2 ^ k : Nat) : Int) == ((2 ^ k : Nat) : Int)) = decide (n / 2 ^ k % 2 = 1) := by
  rw [bitAnd_nat, and_pow]
  have h2 : n / 2 ^ k % 2 < 2 := Nat.mod_lt _ (by decide)
  have hp : 0 < 2 ^ k := Nat.two_pow_pos k
  rw [Bool.eq_iff_iff, beq_iff_eq, decide_eq_true_eq]
  constructor
  · intro h
    have h : n / 2 ^ k % 2 * 2 ^ k = 2 ^ k := by exact_mod_cast h
    rcases Nat.lt_or_ge 0 (n / 2 ^ k % 2) with h0 | h0
    · omega
    · have : n / 2 ^ k % 2 = 0 := by omega
      rw [this, Nat.zero_mul] at h; omega
  · intro h
    rw [h, Nat.one_mul]
theorem hit_two (n A B : Nat) (x y : Nat) (hA : n &&& A = x * A) (hB : n &&& B = y * B) (hx : x < 2) (hy : y < 2) (h : ∀ x y : Fin 2, (((x.val * A) ||| (y.val * B)) == (A ||| B)) = (decide (x.val = 1) && decide (y.val = 1))) :
    (Builtin.bitAnd (n : Int) ((A ||| B : Nat) : Int) == ((A ||| B : Nat) : Int)) = (decide (x = 1) && decide (y = 1)) := by
  rw [bitAnd_nat, Nat.and_or_distrib_left, hA, hB]
  have := h ⟨x, hx⟩ ⟨y, hy⟩
  rw [← this, Bool.eq_iff_iff, beq_iff_eq, beq_iff_eq]
  constructor
  · intro e; exact_mod_cast e
  · intro e; exact_mod_cast e
theorem hitN_pos {i : Nat} (hi : i ≠ 0) (m : Int) (p : Int × Str) : hitN i m p = (Builtin.bitAnd m p.1 == p.1) := by rw [hitN, if_neg hi]
theorem pick_one {i : Nat} (hi : i ≠ 0) (n k : Nat) (c : Str) : pickN i n [(((2 ^ k : Nat) : Int), c)] = if n / 2 ^ k % 2 = 1 then c else Str.ofString "-" := by
  unfold pickN
  rw [List.find?_cons, hitN_pos hi, hit_pow]
  by_cases h : n / 2 ^ k % 2 = 1
  · rw [if_pos h]; simp [h]
  · rw [if_neg h]; simp [h, hi]
theorem pick_three {i : Nat} (hi : i ≠ 0) (n a b : Nat) (c1 c2 c3 : Str) (h : ∀ x y : Fin 2, (((x.val * 2 ^ a) ||| (y.val * 2 ^ b)) == (2 ^ a ||| 2 ^ b)) = (decide (x.val = 1) && decide (y.val = 1))) :
    pickN i n [(((2 ^ a ||| 2 ^ b : Nat) : Int), c1), (((2 ^ a : Nat) : Int), c2), (((2 ^ b : Nat) : Int), c3)] =
      if n / 2 ^ a % 2 = 1 then (if n / 2 ^ b % 2 = 1 then c1 else c2) else if n / 2 ^ b % 2 = 1 then c3 else Str.ofString "-" := by
  unfold pickN
  rw [List.find?_cons, hitN_pos hi, hit_two n _ _ _ _ (and_pow n a) (and_pow n b) (Nat.mod_lt _ (by decide)) (Nat.mod_lt _ (by decide)) h, List.find?_cons, hitN_pos hi, hit_pow, List.find?_cons, hitN_pos hi, hit_pow]
  by_cases h1 : n / 2 ^ a % 2 = 1 <;> by_cases h2 : n / 2 ^ b % 2 = 1 <;> simp [h1, h2, hi]
theorem pick_d (n : Nat) : (pickN 0 n (tabN.getD 0 []) == Str.ofString "d") = ((n : Int) / 4096 % 16 == 4) := by
  have e : Builtin.bitAnd (n : Int) 61440 = ((n / 4096 % 16 : Nat) : Int) * 4096 := by
    have h := and_shift n 15 12
    have h1 := Nat.and_two_pow_sub_one_eq_mod (n / 2 ^ 12) 4
    have h2 : Builtin.bitAnd (n : Int) ((61440 : Nat) : Int) = ((n &&& 61440 : Nat) : Int) := bitAnd_nat n 61440
    have h3 : n &&& 61440 = n / 4096 % 16 * 4096 := by
      have h : n &&& 61440 = (n / 4096 &&& 15) * 4096 := h
      have h1 : n / 4096 &&& 15 = n / 4096 % 16 := h1
      rw [h, h1]
    rw [h3] at h2
    rw [show (61440 : Int) = ((61440 : Nat) : Int) from rfl, h2]
    exact Int.natCast_mul _ _
  have e2 : ((n : Int) / 4096 % 16 == 4) = decide (n / 4096 % 16 = 4) := by
    rw [Bool.eq_iff_iff, beq_iff_eq, decide_eq_true_eq]; omega
  rw [e2]
  have hq : n / 4096 % 16 < 16 := Nat.mod_lt _ (by decide)
  have hh : ∀ p, hitN 0 (n : Int) p = (((n / 4096 % 16 : Nat) : Int) * 4096 == p.1) := fun p => by rw [hitN, if_pos rfl, e]
  have hp : pickN 0 n (tabN.getD 0 []) = match (tabN.getD 0 []).find? (fun p => ((n / 4096 % 16 : Nat) : Int) * 4096 == p.1) with | some p => p.2 | none => Str.ofString "?" := by
    unfold pickN
    rw [show hitN 0 (n : Int) = fun p => (((n / 4096 % 16 : Nat) : Int) * 4096 == p.1) from funext hh]
    rfl
  rw [hp]
  generalize n / 4096 % 16 = q at hq
  have := (by decide : ∀ q : Fin 16, ((match (tabN.getD 0 []).find? (fun p => ((q.val : Nat) : Int) * 4096 == p.1) with | some p => p.2 | none => Str.ofString "?") == Str.ofString "d") = decide (q.val = 4))
  exact this ⟨q, hq⟩
noncomputable def rowR (r : Nat) : Nat := 8 - 3 * r
theorem tab_r (r : Nat) (h : r < 3) : tabN.getD (r * 3 + 1 + 0) [] = [(((2 ^ (8 - 3 * r) : Nat) : Int), Str.ofString "r")] := by
  have := (by decide : ∀ r : Fin 3, tabN.getD (r.val * 3 + 1 + 0) [] = [(((2 ^ (8 - 3 * r.val) : Nat) : Int), Str.ofString "r")])
  exact this ⟨r, h⟩
theorem tab_w (r : Nat) (h : r < 3) : tabN.getD (r * 3 + 1 + 1) [] = [(((2 ^ (7 - 3 * r) : Nat) : Int), Str.ofString "w")] := by
  have := (by decide : ∀ r : Fin 3, tabN.getD (r.val * 3 + 1 + 1) [] = [(((2 ^ (7 - 3 * r.val) : Nat) : Int), Str.ofString "w")])
  exact this ⟨r, h⟩
theorem tab_3 : tabN.getD 3 [] = [(((2 ^ 11 ||| 2 ^ 6 : Nat) : Int), Str.ofString "s"), (((2 ^ 11 : Nat) : Int), Str.ofString "S"), (((2 ^ 6 : Nat) : Int), Str.ofString "x")] := by decide
theorem tab_6 : tabN.getD 6 [] = [(((2 ^ 10 ||| 2 ^ 3 : Nat) : Int), Str.ofString "s"), (((2 ^ 10 : Nat) : Int), Str.ofString "S"), (((2 ^ 3 : Nat) : Int), Str.ofString "x")] := by decide
theorem tab_9 : tabN.getD 9 [] = [(((2 ^ 9 ||| 2 ^ 0 : Nat) : Int), Str.ofString "t"), (((2 ^ 9 : Nat) : Int), Str.ofString "T"), (((2 ^ 0 : Nat) : Int), Str.ofString "x")] := by decide
theorem pick_3 (n : Nat) : PySem.Txt.contains (Str.ofString "xst") (pickN 3 n (tabN.getD 3 [])) = decide (n / 2 ^ 6 % 2 = 1) := by
  rw [tab_3, pick_three (by decide) n 11 6 _ _ _ (by decide)]
  by_cases h1 : n / 2 ^ 11 % 2 = 1 <;> by_cases h2 : n / 2 ^ 6 % 2 = 1 <;> simp only [h1, h2, if_true, if_false] <;> decide +kernel
theorem pick_6 (n : Nat) : PySem.Txt.contains (Str.ofString "xst") (pickN 6 n (tabN.getD 6 [])) = decide (n / 2 ^ 3 % 2 = 1) := by
  rw [tab_6, pick_three (by decide) n 10 3 _ _ _ (by decide)]
  by_cases h1 : n / 2 ^ 10 % 2 = 1 <;> by_cases h2 : n / 2 ^ 3 % 2 = 1 <;> simp only [h1, h2, if_true, if_false] <;> decide +kernel
theorem pick_9 (n : Nat) : PySem.Txt.contains (Str.ofString "xst") (pickN 9 n (tabN.getD 9 [])) = decide (n / 2 ^ 0 % 2 = 1) := by
  rw [tab_9, pick_three (by decide) n 9 0 _ _ _ (by decide)]
  by_cases h1 : n / 2 ^ 9 % 2 = 1 <;> by_cases h2 : n / 2 ^ 0 % 2 = 1 <;> simp only [h1, h2, if_true, if_false] <;> decide +kernel
theorem pick_t (n : Nat) : PySem.Txt.contains (Str.ofString "tT") (pickN 9 n (tabN.getD 9 [])) = decide (n / 2 ^ 9 % 2 = 1) := by
  rw [tab_9, pick_three (by decide) n 9 0 _ _ _ (by decide)]
  by_cases h1 : n / 2 ^ 9 % 2 = 1 <;> by_cases h2 : n / 2 ^ 0 % 2 = 1 <;> simp only [h1, h2, if_true, if_false] <;> decide +kernel
theorem bit_r (q : Nat) : q / 4 % 2 = 1 ↔ ¬ ((q % 8 : Nat) : Int) < 4 := by omega
theorem bit_w (q : Nat) : q / 2 % 2 = 1 ↔ ¬ ((q % 8 : Nat) : Int) / 2 % 2 = 0 := by omega
theorem bit_x (q : Nat) : q % 2 = 1 ↔ ((q % 8 : Nat) : Int) % 2 = 1 := by omega
section
variable {sg : List Str} {user : Int} {k : Nat} {m : Int}
theorem figI_cases (hu : 0 ≤ user) (n : Nat) : ∃ r : Nat, r < 3 ∧ ((user + k) % 3).toNat = r ∧ figI (n : Int) user k = ((n / 2 ^ (6 - 3 * r) % 8 : Nat) : Int) := by
  have h0 : 0 ≤ (user + (k : Int)) % 3 := by omega
  have h3 : (user + (k : Int)) % 3 < 3 := by omega
  refine ⟨((user + k) % 3).toNat, by omega, rfl, ?_⟩
  unfold figI
  generalize (user + (k : Int)) % 3 = r at h0 h3
  have : r = 0 ∨ r = 1 ∨ r = 2 := by omega
  rcases this with rfl | rfl | rfl
  · rfl
  · rfl
  · rfl
theorem sg_r (h : sg.getD k (Str.ofString "") = signN m) (hm : 0 ≤ m) (hu : 0 ≤ user) : (PySem.Txt.item (rightN sg user k) 0 == Str.ofString "r") = !decide (figI m user k < 4) := by
  obtain ⟨n, rfl⟩ := Int.eq_ofNat_of_zero_le hm
  obtain ⟨r, hr, e, ef⟩ := figI_cases (k := k) hu n
  have := right_item (user := user) h 0 (by decide)
  rw [e, tab_r r hr, pick_one (by omega)] at this
  rw [show (0 : Int) = ((0 : Nat) : Int) from rfl, this, ef]
  have hd : ((if n / 2 ^ (8 - 3 * r) % 2 = 1 then Str.ofString "r" else Str.ofString "-") == Str.ofString "r") = decide (n / 2 ^ (8 - 3 * r) % 2 = 1) := by
    by_cases h : n / 2 ^ (8 - 3 * r) % 2 = 1
    · rw [if_pos h, decide_eq_true h]; decide
    · rw [if_neg h, decide_eq_false h]; decide
  rw [hd, ← decide_not, decide_eq_decide]
  have : r = 0 ∨ r = 1 ∨ r = 2 := by omega
  rcases this with rfl | rfl | rfl
  · have := bit_r (n / 64); rw [Nat.div_div_eq_div_mul] at this; exact this
  · have := bit_r (n / 8); rw [Nat.div_div_eq_div_mul] at this; exact this
  · have := bit_r (n / 1); rw [Nat.div_div_eq_div_mul] at this; exact this
theorem sg_w (h : sg.getD k (Str.ofString "") = signN m) (hm : 0 ≤ m) (hu : 0 ≤ user) : (PySem.Txt.item (rightN sg user k) 1 == Str.ofString "w") = !(figI m user k / 2 % 2 == 0) := by
  obtain ⟨n, rfl⟩ := Int.eq_ofNat_of_zero_le hm
  obtain ⟨r, hr, e, ef⟩ := figI_cases (k := k) hu n
  have := right_item (user := user) h 1 (by decide)
  rw [e, tab_w r hr, pick_one (by omega)] at this
  rw [show (1 : Int) = ((1 : Nat) : Int) from rfl, this, ef]
  have hd : ((if n / 2 ^ (7 - 3 * r) % 2 = 1 then Str.ofString "w" else Str.ofString "-") == Str.ofString "w") = decide (n / 2 ^ (7 - 3 * r) % 2 = 1) := by
    by_cases h : n / 2 ^ (7 - 3 * r) % 2 = 1
    · rw [if_pos h, decide_eq_true h]; decide
    · rw [if_neg h, decide_eq_false h]; decide
  have hb : (((n / 2 ^ (6 - 3 * r) % 8 : Nat) : Int) / 2 % 2 == 0) = decide (((n / 2 ^ (6 - 3 * r) % 8 : Nat) : Int) / 2 % 2 = 0) := by
    rw [Bool.eq_iff_iff, beq_iff_eq, decide_eq_true_eq]
  rw [hd, hb, ← decide_not, decide_eq_decide]
  have : r = 0 ∨ r = 1 ∨ r = 2 := by omega
  rcases this with rfl | rfl | rfl
  · have := bit_w (n / 64); rw [Nat.div_div_eq_div_mul] at this; exact this
  · have := bit_w (n / 8); rw [Nat.div_div_eq_div_mul] at this; exact this
  · have := bit_w (n / 1); rw [Nat.div_div_eq_div_mul] at this; exact this
theorem sg_x (h : sg.getD k (Str.ofString "") = signN m) (hm : 0 ≤ m) (hu : 0 ≤ user) : PySem.Txt.contains (Str.ofString "xst") (PySem.Txt.item (rightN sg user k) 2) = (figI m user k % 2 == 1) := by
  obtain ⟨n, rfl⟩ := Int.eq_ofNat_of_zero_le hm
  obtain ⟨r, hr, e, ef⟩ := figI_cases (k := k) hu n
  have := right_item (user := user) h 2 (by decide)
  rw [e] at this
  rw [show (2 : Int) = ((2 : Nat) : Int) from rfl, this, ef]
  have hb : (((n / 2 ^ (6 - 3 * r) % 8 : Nat) : Int) % 2 == 1) = decide (((n / 2 ^ (6 - 3 * r) % 8 : Nat) : Int) % 2 = 1) := by
    rw [Bool.eq_iff_iff, beq_iff_eq, decide_eq_true_eq]
  rw [show ((2 : Nat) : Int) = 2 from rfl, hb]
  have : r = 0 ∨ r = 1 ∨ r = 2 := by omega
  rcases this with rfl | rfl | rfl
  · rw [show 0 * 3 + 1 + 2 = 3 from rfl, pick_3, decide_eq_decide]
    exact bit_x (n / 64)
  · rw [show 1 * 3 + 1 + 2 = 6 from rfl, pick_6, decide_eq_decide]
    exact bit_x (n / 8)
  · rw [show 2 * 3 + 1 + 2 = 9 from rfl, pick_9, decide_eq_decide]
    exact bit_x (n / 1)
theorem sg_d (h : sg.getD k (Str.ofString "") = signN m) (hm : 0 ≤ m) : (PySem.Txt.item (sg.getD k (Str.ofString "")) 0 == Str.ofString "d") = (m / 4096 % 16 == 4) := by
  obtain ⟨n, rfl⟩ := Int.eq_ofNat_of_zero_le hm
  rw [h, show (0 : Int) = ((0 : Nat) : Int) from rfl, sign_item _ 0 (by decide)]
  exact pick_d n
theorem sg_t (h : sg.getD k (Str.ofString "") = signN m) (hm : 0 ≤ m) : PySem.Txt.contains (Str.ofString "tT") (PySem.Txt.item (sg.getD k (Str.ofString "")) 9) = (m / 512 % 2 == 1) := by
  obtain ⟨n, rfl⟩ := Int.eq_ofNat_of_zero_le hm
  rw [h, show (9 : Int) = ((9 : Nat) : Int) from rfl, sign_item _ 9 (by decide), pick_t]
  rw [Bool.eq_iff_iff, beq_iff_eq, decide_eq_true_eq]
  show n / 512 % 2 = 1 ↔ _
  omega
end
-- the plain law: the walk down the tree tells the same
noncomputable def wssL (ms : List Mem) : List (List Str) := (List.range ms.length).map fun k => (upN ms 50 k).map (nameN ms)
section
variable {ms : List Mem} {user : Int}
theorem wss_get {k : Nat} (hk : k < ms.length) : (wssL ms).getD k [] = (upN ms 50 k).map (nameN ms) := by
  rw [List.getD_eq_getElem?_getD, wssL, List.getElem?_map, List.getElem?_range hk]; rfl
theorem mem_nat {k : Nat} (hk : k < ms.length) : ms[k]? = some (mem ms k) := by
  have := mem_get (ms := ms) (k := (k : Int)) (by omega) (by omega)
  simpa using this
theorem names_get {k : Nat} (hk : k < ms.length) : (namesN ms).getD k (Str.ofString "") = nameN ms k := by
  rw [List.getD_eq_getElem?_getD, namesN, List.getElem?_map, mem_nat hk]; rfl
theorem signs_get {k : Nat} (hk : k < ms.length) : (signsL ms).getD k (Str.ofString "") = signN (mem ms k).2.2 := by
  rw [List.getD_eq_getElem?_getD, signsL, List.getElem?_map, mem_nat hk]; rfl
theorem doors_get {k : Nat} (hk : k < ms.length) : (doorsL ms user).getD k [] = doorsN ms user 50 k := by
  rw [List.getD_eq_getElem?_getD, doorsL, List.getElem?_map, List.getElem?_range hk]; rfl
theorem free_eq (T : Tree ms) (hu : 0 ≤ user) {k : Nat} (hk : k < ms.length) : freeB (signsL ms) user k = opensM ms user k := by
  have hg := signs_get hk
  have hm := (T k hk).m0
  rw [freeB, sg_d hg hm, sg_x hg hm hu, opensM]
theorem free_mem (T : Tree ms) {k : Nat} (hk : k < ms.length) : nameN ms k ∈ freeL ms (signsL ms) user ↔ freeB (signsL ms) user k = true := by
  unfold freeL
  rw [List.mem_map]
  constructor
  · rintro ⟨a, ha, e⟩
    obtain ⟨h1, h2⟩ := List.mem_filter.mp ha
    have h1 := List.mem_range.mp h1
    rw [names_get h1] at e
    have := name_inj T h1 hk e
    subst this; exact h2
  · intro h
    exact ⟨k, List.mem_filter.mpr ⟨List.mem_range.mpr hk, h⟩, names_get hk⟩
theorem doors_up (T : Tree ms) (hu : 0 ≤ user) : ∀ (n k : Nat), k < ms.length → doorsN ms user n k = ((upN ms n k).map (nameN ms)).filter fun s => !decide (s ∈ freeL ms (signsL ms) user) := by
  intro n
  induction n with
  | zero => intro k hk; rfl
  | succ n ih =>
    intro k hk
    have t := T k hk
    have h1 := t.lo
    have h2 := t.hi
    rw [doorsN, upN]
    by_cases ha : (mem ms k).1 < 0
    · rw [if_pos ha, if_pos ha]; rfl
    · rw [if_neg ha, if_neg ha]
      have hc : (((mem ms k).1.toNat : Nat) : Int) = (mem ms k).1 := by omega
      have hl : (mem ms k).1.toNat < ms.length := by omega
      have hi := ih (mem ms k).1.toNat hl
      rw [hc] at hi
      rw [hi, List.map_cons, List.filter_cons]
      have hf := free_mem (user := user) T hl
      rw [free_eq T hu hl, hc] at hf
      have hn : nameN ms (mem ms k).1.toNat = (mem ms (mem ms k).1).2.1 := by rw [nameN, hc]
      cases ho : opensM ms user (mem ms k).1 with
      | true =>
        rw [ho] at hf
        rw [decide_eq_true (hf.mpr rfl)]
        rfl
      | false =>
        rw [ho] at hf
        rw [decide_eq_false (fun h => by have := hf.mp h; cases this), hn]
        rfl
theorem shut_eq (T : Tree ms) (hu : 0 ≤ user) : shutL ms (signsL ms) (wssL ms) user = doorsL ms user := by
  unfold shutL wssL doorsL
  rw [List.map_map]
  refine List.map_congr_left fun k hk => ?_
  rw [doors_up T hu 50 k (List.mem_range.mp hk)]
  rfl
theorem up_eq (T : Tree ms) (hl : ms.length ≤ 7) {k : Nat} (hk : k < ms.length) : upN ms 50 k = if (mem ms k).1 < 0 then [] else (mem ms k).1.toNat :: upN ms 50 (mem ms k).1.toNat := by
  have h2 := (T k hk).hi
  rw [show (50 : Nat) = 49 + 1 from rfl, upN]
  by_cases ha : (mem ms k).1 < 0
  · rw [if_pos ha, if_pos ha]
  · rw [if_neg ha, if_neg ha, up_fuel T 49 (49 + 1) _ (by omega) (by omega) (by omega)]
theorem up_trans (T : Tree ms) (hl : ms.length ≤ 7) {i k : Nat} (hp : (mem ms i).1 = k) : ∀ (n j : Nat), j < n → j < ms.length → i ∈ upN ms 50 j → k ∈ upN ms 50 j := by
  intro n
  induction n with
  | zero => intro j h; omega
  | succ n ih =>
    intro j hn hj hi
    have h2 := (T j hj).hi
    rw [up_eq T hl hj] at hi ⊢
    split at hi
    · simp at hi
    · rename_i ha
      rw [if_neg ha]
      rcases List.mem_cons.mp hi with e | hi
      · refine .tail _ ?_
        rw [← e, up_eq T hl (by omega), if_neg (by omega), hp]
        exact .head _
      · exact .tail _ (ih _ (by omega) (by omega) hi)
theorem up_self (T : Tree ms) (hl : ms.length ≤ 7) {i k : Nat} (hi : i < ms.length) (hp : (mem ms i).1 = k) : k ∈ upN ms 50 i := by
  rw [up_eq T hl hi, if_neg (by omega), hp]
  exact .head _
theorem up_desc (T : Tree ms) (hl : ms.length ≤ 7) {k : Nat} : ∀ (n j : Nat), j < n → j < ms.length → k ∈ upN ms 50 j → ∃ i, i < ms.length ∧ (i = j ∨ i ∈ upN ms 50 j) ∧ (mem ms i).1 = k := by
  intro n
  induction n with
  | zero => intro j h; omega
  | succ n ih =>
    intro j hn hj hk
    have h2 := (T j hj).hi
    have e := up_eq T hl hj
    rw [e] at hk
    split at hk
    · simp at hk
    · rename_i ha
      rw [if_neg ha] at e
      rcases List.mem_cons.mp hk with rfl | hk
      · exact ⟨j, hj, .inl rfl, by omega⟩
      · obtain ⟨i, h1, h3, h4⟩ := ih _ (by omega) (by omega) hk
        refine ⟨i, h1, .inr ?_, h4⟩
        rw [e]
        rcases h3 with rfl | h3
        · exact .head _
        · exact .tail _ h3
theorem below_iff (T : Tree ms) (hl : ms.length ≤ 7) {k n : Nat} (hk : k < ms.length) : n ∈ belowL ms (wssL ms) k ↔ n < ms.length ∧ k ∈ upN ms 50 n := by
  unfold belowL
  rw [List.mem_filter, List.mem_range]
  constructor
  · rintro ⟨h1, h2⟩
    refine ⟨h1, ?_⟩
    rw [wss_get h1, names_get hk] at h2
    obtain ⟨s, hs, e⟩ := List.any_eq_true.mp h2
    obtain ⟨a, ha, rfl⟩ := List.mem_map.mp hs
    have hlt := up_lt T 50 n h1 a ha
    have := name_inj T (show a < ms.length by omega) hk (beq_iff_eq.mp e)
    subst this; exact ha
  · rintro ⟨h1, h2⟩
    refine ⟨h1, ?_⟩
    rw [wss_get h1, names_get hk]
    exact List.any_eq_true.mpr ⟨_, List.mem_map_of_mem h2, by simp⟩
theorem inner_iff {k n : Nat} : n ∈ innerN ms k ↔ n < ms.length ∧ (mem ms n).1 = k := by
  unfold innerN
  rw [List.mem_filter, List.mem_range, beq_iff_eq]
theorem below_empty (T : Tree ms) (hl : ms.length ≤ 7) {k : Nat} (hk : k < ms.length) : (belowL ms (wssL ms) k).isEmpty = (innerN ms k).isEmpty := by
  rw [Bool.eq_iff_iff, List.isEmpty_iff, List.isEmpty_iff]
  constructor
  · intro h
    refine List.eq_nil_iff_forall_not_mem.mpr fun n hn => ?_
    obtain ⟨h1, h2⟩ := inner_iff.mp hn
    have := (below_iff T hl hk).mpr ⟨h1, up_self T hl h1 h2⟩
    rw [h] at this; simp at this
  · intro h
    refine List.eq_nil_iff_forall_not_mem.mpr fun n hn => ?_
    obtain ⟨h1, h2⟩ := (below_iff T hl hk).mp hn
    obtain ⟨i, a1, a2, a3⟩ := up_desc T hl (n + 1) n (by omega) h1 h2
    have := inner_iff.mpr ⟨a1, a3⟩
    rw [h] at this; simp at this
noncomputable def goodP (ms : List Mem) (user : Int) (k : Nat) : Bool := !bad1 ms (doorsL ms user) user k && !bad2 ms user k && !(!(innerN ms k).isEmpty && decide (figI (mem ms k).2.2 user k < 4))
theorem idx_name (T : Tree ms) {a : Nat} (ha : a < ms.length) : (namesN ms).idxOf (nameN ms a) = a := by
  have hm : nameN ms a ∈ namesN ms := by
    have := names_get ha
    rw [← this]
    exact getD_mem _ (by rw [namesN_len]; exact ha)
  have hlt := List.idxOf_lt_length_iff.mpr hm
  have hlt' : (namesN ms).idxOf (nameN ms a) < ms.length := by rw [namesN_len] at hlt; exact hlt
  have e : (namesN ms)[(namesN ms).idxOf (nameN ms a)]'hlt = nameN ms a := List.getElem_idxOf hlt
  have e2 := names_get hlt'
  rw [List.getD_eq_getElem?_getD, List.getElem?_eq_getElem hlt, e] at e2
  exact (name_inj T ha hlt' e2).symm
theorem fine_bool (b1 b2 b3 b4 b5 b6 b7 : Bool) : (if (b5 && !(!b6 && b7) && !false) = true then (!b1 && (!b2 || (b3 || b4))) else (b5 && !(!b6 && b7))) = (!(true && (!b5 || b1)) && !(true && (b2 && (!b3 && !b4))) && !(!b6 && b7)) := by
  revert b1 b2 b3 b4 b5 b6 b7
  decide
theorem fine_eq (T : Tree ms) (hl : ms.length ≤ 7) (hu : 0 ≤ user) {k : Nat} (hk : k < ms.length) : fineN ms (signsL ms) (wssL ms) user k = goodP ms user k := by
  have t := T k hk
  have h1 := t.lo
  have h2 := t.hi
  have hg := signs_get hk
  have f0 : fine0 ms (signsL ms) (wssL ms) user k = ((doorsN ms user 50 k).isEmpty && !(!(innerN ms k).isEmpty && decide (figI (mem ms k).2.2 user k < 4))) := by
    unfold fine0
    rw [shut_eq T hu, doors_get hk, below_empty T hl hk, sg_r hg t.m0 hu]
    cases (innerN ms k).isEmpty <;> cases decide (figI (mem ms k).2.2 user k < 4) <;> rfl
  have hdk : (doorsL ms user).getD (k : Int).toNat [] = doorsN ms user 50 k := by rw [Int.toNat_natCast, doors_get hk]
  unfold goodP bad1 bad2
  rw [hdk]
  by_cases ha : (mem ms k).1 < 0
  · have hup := up_eq T hl hk
    rw [if_pos ha] at hup
    have hw : (wssL ms).getD k [] = [] := by rw [wss_get hk, hup]; rfl
    have hd : doorsN ms user 50 k = [] := by rw [doors_up T hu 50 k hk, hup]; rfl
    unfold fineN
    rw [hw, f0, hd, decide_eq_false (by omega : ¬ 0 ≤ (mem ms k).1)]
    simp
  · have hup := up_eq T hl hk
    rw [if_neg ha] at hup
    have hc : (((mem ms k).1.toNat : Nat) : Int) = (mem ms k).1 := by omega
    have hal : (mem ms k).1.toNat < ms.length := by omega
    have hw : (wssL ms).getD k [] = nameN ms (mem ms k).1.toNat :: (upN ms 50 (mem ms k).1.toNat).map (nameN ms) := by rw [wss_get hk, hup]; rfl
    have hfo : foldN ms (wssL ms) k = (mem ms k).1.toNat := by
      unfold foldN
      rw [hw]
      exact idx_name T hal
    have hga := signs_get hal
    have ta := T _ hal
    have f1 : fine1 ms (signsL ms) (wssL ms) user k = (!(figI (mem ms (mem ms k).1).2.2 user (mem ms k).1 / 2 % 2 == 0) && (!((mem ms (mem ms k).1).2.2 / 512 % 2 == 1) || ((user + k) % 3 == 0 || (user + (mem ms k).1) % 3 == 0))) := by
      unfold fine1 ownsN
      rw [hfo, sg_w hga ta.m0 hu, sg_t hga ta.m0, hc]
    unfold fineN
    rw [hw, f0, f1, decide_eq_true (by omega : 0 ≤ (mem ms k).1)]
    simp only [bne, List.isEmpty_cons]
    exact fine_bool _ _ _ _ _ _ _
theorem goes_step (n : Nat) (k : Nat) : goesN ms (doorsL ms user) user (n + 1) k = (goodP ms user k && ((innerN ms k).filter fun i : Nat => !goesN ms (doorsL ms user) user n i).isEmpty) := by
  rw [goesN, goodP]
  generalize bad1 ms (doorsL ms user) user k = b1
  generalize bad2 ms user k = b2
  generalize (innerN ms k).isEmpty = b3
  generalize decide (figI (mem ms k).2.2 user k < 4) = b4
  generalize ((innerN ms k).filter fun i : Nat => !goesN ms (doorsL ms user) user n i).isEmpty = b5
  revert b1 b2 b3 b4 b5
  decide
theorem goes_iff (T : Tree ms) (hl : ms.length ≤ 7) : ∀ (n k : Nat), k < ms.length → ms.length < n + k → (goesN ms (doorsL ms user) user n k = true ↔ ∀ j, j < ms.length → (j = k ∨ k ∈ upN ms 50 j) → goodP ms user j = true) := by
  intro n
  induction n with
  | zero => intro k hk h; omega
  | succ n ih =>
    intro k hk hn
    rw [goes_step, Bool.and_eq_true, List.isEmpty_iff]
    have hin : ((innerN ms k).filter fun i : Nat => !goesN ms (doorsL ms user) user n i) = [] ↔ ∀ i ∈ innerN ms k, goesN ms (doorsL ms user) user n i = true := by
      rw [List.filter_eq_nil_iff]
      refine ⟨fun h i hi => ?_, fun h i hi => ?_⟩
      · have := h i hi; simpa using this
      · simp [h i hi]
    rw [hin]
    constructor
    · rintro ⟨h1, h2⟩ j hj hjk
      rcases hjk with rfl | hjk
      · exact h1
      · obtain ⟨i, a1, a2, a3⟩ := up_desc T hl (j + 1) j (by omega) hj hjk
        have hk2 := (T i a1).hi
        have hg := h2 i (inner_iff.mpr ⟨a1, a3⟩)
        exact (ih i a1 (by omega)).mp hg j hj (by rcases a2 with e | e; exact .inl e.symm; exact .inr e)
    · intro h
      refine ⟨h k hk (.inl rfl), fun i hi => ?_⟩
      obtain ⟨a1, a3⟩ := inner_iff.mp hi
      have hk2 := (T i a1).hi
      refine (ih i a1 (by omega)).mpr fun j hj hji => h j hj (.inr ?_)
      rcases hji with rfl | hji
      · exact up_self T hl hj a3
      · exact up_trans T hl a3 (j + 1) j (by omega) hj hji
theorem good_mem (T : Tree ms) (hl : ms.length ≤ 7) (hu : 0 ≤ user) {j : Nat} (hj : j < ms.length) : (j : Int) ∈ goodL ms (signsL ms) (wssL ms) user ms.length ↔ goodP ms user j = true := by
  unfold goodL
  rw [List.mem_map]
  constructor
  · rintro ⟨a, ha, e⟩
    obtain ⟨h1, h2⟩ := List.mem_filter.mp ha
    have : a = j := by omega
    subst this
    rw [fine_eq T hl hu hj] at h2; exact h2
  · intro h
    exact ⟨j, List.mem_filter.mpr ⟨List.mem_range.mpr hj, by rw [fine_eq T hl hu hj]; exact h⟩, rfl⟩
theorem gone_eq (T : Tree ms) (hl : ms.length ≤ 7) (hu : 0 ≤ user) {k : Nat} (hk : k < ms.length) : goneB ms (signsL ms) (wssL ms) user k = goesN ms (doorsL ms user) user 20 k := by
  rw [Bool.eq_iff_iff, goes_iff T hl 20 k hk (by omega)]
  unfold goneB
  rw [List.isEmpty_iff, List.filter_eq_nil_iff]
  have key : ∀ j : Nat, j < ms.length → (¬ (!decide ((j : Int) ∈ goodL ms (signsL ms) (wssL ms) user ms.length)) = true ↔ goodP ms user j = true) := fun j hj => by
    have := good_mem T hl hu hj
    by_cases h : (j : Int) ∈ goodL ms (signsL ms) (wssL ms) user ms.length
    · simp [h, this.mp h]
    · simp [h]
      cases e : goodP ms user j with
      | false => rfl
      | true => exact absurd (this.mpr e) h
  constructor
  · intro h j hj hjk
    refine (key j hj).mp (h j ?_)
    unfold selfL
    refine List.mem_map.mpr ⟨j, ?_, rfl⟩
    rcases hjk with rfl | hjk
    · exact .head _
    · exact .tail _ ((below_iff T hl hk).mpr ⟨hj, hjk⟩)
  · intro h v hv
    unfold selfL at hv
    obtain ⟨j, hj, rfl⟩ := List.mem_map.mp hv
    rcases List.mem_cons.mp hj with rfl | hj
    · exact (key j hk).mpr (h j hk (.inl rfl))
    · obtain ⟨h1, h2⟩ := (below_iff T hl hk).mp hj
      exact (key j h1).mpr (h j h1 (.inr h2))
end
theorem ok_rep (c n : Nat) (h : c < 0x110000) : (List.replicate n c).all (· < 0x110000) = true := by
  rw [List.all_eq_true]
  intro a ha
  rw [List.eq_of_mem_replicate ha]
  exact decide_eq_true h
theorem strOk_S (l : List Nat) : PyData.strOk (S l) = l.all (· < 0x110000) := by simp [PyData.strOk, S]
theorem name_ok {ms : List Mem} (T : Tree ms) : ∀ (n k : Nat), k < n → k < ms.length → PyData.strOk (nameN ms k) = true := by
  intro n
  induction n with
  | zero => intro k h; omega
  | succ n ih =>
    intro k hn hk
    have t := T k hk
    have h1 := t.lo
    have h2 := t.hi
    obtain ⟨j, _, hnm⟩ := t.nm
    rw [nameN, hnm, strOk_S, List.all_append, ok_rep 97 _ (by decide), Bool.and_true]
    by_cases ha : 0 ≤ (mem ms k).1
    · rw [if_pos ha, List.all_append, ok_rep 47 _ (by decide), Bool.and_true]
      have hc : (((mem ms k).1.toNat : Nat) : Int) = (mem ms k).1 := by omega
      have := ih (mem ms k).1.toNat (by omega) (by omega)
      rw [nameN, hc, ← S_cps (mem ms (mem ms k).1).2.1, strOk_S] at this
      exact this
    · rw [if_neg ha, ok_rep 47 _ (by decide)]
theorem up_len {ms : List Mem} (T : Tree ms) : ∀ (n k : Nat), k < ms.length → (upN ms n k).length ≤ k := by
  intro n
  induction n with
  | zero => intro k hk; simp [upN]
  | succ n ih =>
    intro k hk
    have h2 := (T k hk).hi
    rw [upN]
    split
    · simp
    · have := ih (mem ms k).1.toNat (by omega)
      rw [List.length_cons]; omega
theorem doors_any (ms : List Mem) (user : Int) : ∀ (n k : Nat) (s : Str), s ∈ doorsN ms user n k → Tree ms → k < ms.length → ∃ a, a < ms.length ∧ s = nameN ms a := by
  intro n
  induction n with
  | zero => intro k s hs; simp [doorsN] at hs
  | succ n ih =>
    intro k s hs T hk
    have h1 := (T k hk).lo
    have h2 := (T k hk).hi
    rw [doorsN] at hs
    split at hs
    · simp at hs
    · rename_i ha
      have hc : (((mem ms k).1.toNat : Nat) : Int) = (mem ms k).1 := by omega
      rcases List.mem_append.mp hs with hs | hs
      · split at hs
        · simp at hs
        · refine ⟨(mem ms k).1.toNat, by omega, ?_⟩
          rw [nameN, hc]
          simpa using hs
      · rw [← hc] at hs
        exact ih _ s hs T (by omega)
theorem plain (ns : List Int) : ∃ wss, LawOk (membersN ([44, 2139, 295376] ++ ns.take 4)) wss := by
  obtain ⟨xs, hxs⟩ : ∃ xs, xs = [44, 2139, 295376] ++ ns.take 4 := ⟨_, rfl⟩
  rw [← hxs]
  have hxl : xs.length ≤ 7 := by rw [hxs]; simp; omega
  have T := tree_all xs
  have hnm := names_len xs (by omega)
  have hml : (membersN xs).length ≤ 7 := by rw [membersN_len]; exact hxl
  generalize membersN xs = ms at T hnm hml
  have hok : ∀ k, k < ms.length → PyData.strOk (nameN ms k) = true := fun k hk => name_ok T (k + 1) k (by omega) hk
  have hws : ∀ l ∈ wssL ms, ∃ k, k < ms.length ∧ l = (upN ms 50 k).map (nameN ms) := by
    intro l hl
    obtain ⟨k, hk, rfl⟩ := List.mem_map.mp hl
    exact ⟨k, List.mem_range.mp hk, rfl⟩
  have hwn : ∀ l ∈ wssL ms, ∀ s ∈ l, ∃ a, a < ms.length ∧ s = nameN ms a := by
    intro l hl s hs
    obtain ⟨k, hk, rfl⟩ := hws l hl
    obtain ⟨a, ha, rfl⟩ := List.mem_map.mp hs
    have := up_lt T 50 k hk a ha
    exact ⟨a, by omega, rfl⟩
  refine ⟨wssL ms, ⟨tree_wf T (by omega), hml, by simp [wssL], ⟨?_⟩, ?_, ?_, ?_, ?_, ?_, ?_, ?_, ?_⟩⟩
  · intro l hl s hs
    obtain ⟨a, ha, rfl⟩ := hwn l hl s hs
    exact hok a ha
  · intro l hl
    obtain ⟨k, hk, rfl⟩ := hws l hl
    have := up_len T 50 k hk
    rw [List.length_map]; omega
  · intro l hl s hs
    obtain ⟨a, ha, rfl⟩ := hwn l hl s hs
    rw [← names_get ha]
    exact getD_mem _ (by rw [namesN_len]; exact ha)
  · intro m hm
    have := hnm m hm
    omega
  · intro k hk
    have hl := up_len T 50 k hk
    refine ⟨_, anc_way T hk 50 (k % 3) (by omega), by simp, by simp; omega, ?_⟩
    rw [List.tail_cons, wss_get hk]
  · intro s hs
    obtain ⟨m, _, rfl⟩ := List.mem_map.mp hs
    exact sign_len _
  · intro user
    refine ⟨fun l hl s hs => ?_⟩
    obtain ⟨k, hk, rfl⟩ := List.mem_map.mp hl
    have hk := List.mem_range.mp hk
    have := doors_any ms user 50 k s hs
    obtain ⟨a, ha, rfl⟩ := this T hk
    exact hok a ha
  · intro user h0 _
    exact shut_eq T h0
  · intro user h0 _ k hk
    exact gone_eq T hml h0 hk
end Mine
theorem PySem.Challenge.cw_ij0086_01_holds : PySem.Challenge.rw_ij0086_01.Holds :=
  Mine.fin Mine.plain
