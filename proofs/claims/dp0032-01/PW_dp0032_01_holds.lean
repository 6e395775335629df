import PyProof.Rows.All
import Wide.All
import OpenK.AllK
import Wide.FinOn
import PySem.Challenge.RW_dp0032_01
set_option Elab.async false
section
open PySem PySem.W PyProof.Rows
namespace Mine
set_option maxRecDepth 100000

/-! ## plain data: the row as a map of places, and what _siftdown makes of it -/
abbrev Row := Nat → Option Int
def upd (r : Row) (p : Nat) (x : Option Int) : Row := fun q => if q = p then x else r q
def sift (r : Row) (v : Int) (p : Nat) : Row :=
  if _h : p = 0 then upd r p (some v)
  else match r ((p - 1) / 2) with
    | some b => if v < b then sift (upd r p (some b)) v ((p - 1) / 2) else upd r p (some v)
    | none => upd r p (some v)
termination_by p
decreasing_by omega

set_option linter.unusedVariables false
theorem sift_zero (r : Row) (v : Int) : sift r v 0 = upd r 0 (some v) := by rw [sift]; rfl
theorem sift_up {r : Row} {v b : Int} {p : Nat} (hp : p ≠ 0) (hb : r ((p - 1) / 2) = some b) (hv : v < b) : sift r v p = sift (upd r p (some b)) v ((p - 1) / 2) := by
  rw [sift, dif_neg hp, hb]; simp [hv]
theorem sift_stay {r : Row} {v b : Int} {p : Nat} (hp : p ≠ 0) (hb : r ((p - 1) / 2) = some b) (hv : ¬ v < b) : sift r v p = upd r p (some v) := by
  rw [sift, dif_neg hp, hb]; simp [hv]

/-- all places above p hold a number -/
inductive Anc (r : Row) : Nat → Prop
  | top : Anc r 0
  | step {p : Nat} {b : Int} : p ≠ 0 → r ((p - 1) / 2) = some b → Anc r ((p - 1) / 2) → Anc r p

theorem Anc.upd {r : Row} {p : Nat} {x : Option Int} : ∀ {q : Nat}, Anc r q → q ≤ p → Anc (upd r p x) q
  | _, .top, _ => .top
  | q, .step (b := b) h0 hb ha, hq => .step (b := b) h0 (by
      have : (q - 1) / 2 ≠ p := by omega
      simp only [Mine.upd, this, if_false]; exact hb) (Anc.upd ha (by omega))

inductive VI : Value → Option Int → Prop
  | none : VI Value.none none
  | int (i : Int) (t : Tok) : VI (Value.int i t) (some i)

def RowIs (vs : Array Value) (r : Row) : Prop := vs.size = 63 ∧ ∀ i, i < 63 → ∃ v, vs[i]? = some v ∧ VI v (r i)

theorem VI.inv {v : Value} {b : Int} (h : VI v (some b)) : ∃ t, v = .int b t := by cases h; exact ⟨_, rfl⟩
theorem VI.invNone {v : Value} (h : VI v Option.none) : v = .none := by cases h; rfl
theorem RowIs.set {vs : Array Value} {r : Row} {p : Nat} {v : Value} {x : Option Int} (h : RowIs vs r) (hv : VI v x) : RowIs (vs.setIfInBounds p v) (upd r p x) := by
  refine ⟨by simp [h.1], fun i hi => ?_⟩
  by_cases e : i = p
  · subst e
    refine ⟨v, ?_, by simpa [upd] using hv⟩
    rw [Array.getElem?_setIfInBounds_self_of_lt (by rw [h.1]; exact hi)]
  · obtain ⟨u, hu, hV⟩ := h.2 i hi
    refine ⟨u, ?_, by simpa [upd, e] using hV⟩
    rw [Array.getElem?_setIfInBounds_ne (by omega)]; exact hu

/-! ## the parts of the text -/
def fnParams (i : Nat) : Arguments := match PySem.Challenge.pw_dp0032_01.main.body[i]? with
  | some (.FunctionDef _ a _ _ _ _ _ _ _ _) => a
  | _ => default
def fnBody (i : Nat) : List Stmt := match PySem.Challenge.pw_dp0032_01.main.body[i]? with
  | some (.FunctionDef _ _ b _ _ _ _ _ _ _) => b
  | _ => []
def fnScope (i : Nat) : Scope := match PySem.Challenge.pw_dp0032_01.main.body[i]? with
  | some (.FunctionDef _ _ _ _ _ _ sc _ _ _) => sc
  | _ => default

/-! ## a frame's names, one by one -/
def Has (h : Heap) (L : Addr) (x : Str) (v : Value) : Prop := ∃ m, h.Ns L m ∧ m x = some v
def IsNs (h : Heap) (L : Addr) : Prop := ∃ m, h.Ns L m
theorem Has.ns {h : Heap} {L : Addr} {x : Str} {v : Value} (a : Has h L x v) : IsNs h L := let ⟨m, hm, _⟩ := a; ⟨m, hm⟩
theorem Has.of {h : Heap} {L : Addr} {x : Str} {v : Value} {m} (hn : h.Ns L m) (e : m x = some v) : Has h L x v := ⟨m, hn, e⟩
theorem Has.at {h h' : Heap} {L : Addr} {x : Str} {v : Value} (a : Has h L x v) (k : ∀ o, h.get? L = some o → h'.get? L = some o) : Has h' L x v := let ⟨m, hm, e⟩ := a; ⟨m, Heap.Ns.at' hm k, e⟩
theorem IsNs.at {h h' : Heap} {L : Addr} (a : IsNs h L) (k : ∀ o, h.get? L = some o → h'.get? L = some o) : IsNs h' L := let ⟨m, hm⟩ := a; ⟨m, Heap.Ns.at' hm k⟩
theorem Has.but {h h' : Heap} {L b : Addr} {x : Str} {v : Value} (a : Has h L x v) (hs : Heap.SameBut b h h') (n : L ≠ b) : Has h' L x v := a.at fun o e => hs.extBut L o n e
theorem IsNs.but {h h' : Heap} {L b : Addr} (a : IsNs h L) (hs : Heap.SameBut b h h') (n : L ≠ b) : IsNs h' L := a.at fun o e => hs.extBut L o n e

section
variable {prog : Program} {w : World} {A : Around} {E : Value → Shared → Prop} {s : Shared}

/-- a local name read -/
theorem ldH {env : Env} {x : Str} {pos : Pos} {v : Value} {Q : Value → Shared → Prop} (a : Has s.heap env.locals x v) (h : Q v s)
    (hk : env.scope.kind = .function := by rfl) (hl : env.kindOf x = some .local := by rfl) (hd : (x == ("__debug__" : Str)) = false := by decide) :
    wpAny (model prog w) A (eval (.Name x pos) env) Q E s := let ⟨_, hn, hv⟩ := a; wpAny_Name (wpAny_loadName_local hk hl hn hv h) hd

/-- a store into a local name: the other names stand -/
theorem stH {env : Env} {x : Str} {v : Value} {Q : Unit → Shared → Prop} (a : IsNs s.heap env.locals)
    (h : ∀ h', Has h' env.locals x v → (∀ y u, ¬ y = x → Has s.heap env.locals y u → Has h' env.locals y u) → Heap.SameBut env.locals s.heap h' → Q () { s with heap := h', toks := s.toks + 1 })
    (hl : env.kindOf x = some .local := by rfl) (hp : (env.scope.kind == .class || (env.scope.kind == .module && env.locals != env.globals)) = false := by rfl) :
    wpAny (model prog w) A (storeName env x v) Q E s := by
  obtain ⟨m, hn⟩ := a
  refine wpAny_storeName_local hl hn (fun h' hn' hs => h h' ⟨_, hn', by simp⟩ (fun y u hne hu => ⟨_, hn', ?_⟩) hs) hp
  obtain ⟨m₁, hn₁, e⟩ := hu
  simp only [hne, if_false]
  exact (Heap.Ns.agree hn hn₁ y).trans e

/-- xs[i], both by local names -/
theorem itemH {env : Env} {x y : Str} {px py pos : Pos} {l : Addr} {items : Array Value} {k : Int} {t : Tok} {v : Value} {Q : Value → Shared → Prop}
    (hx : Has s.heap env.locals x (.ref l)) (hy : Has s.heap env.locals y (.int k t)) (hl : s.heap.IsList l items) (h0 : 0 ≤ k) (hk : k < 2 ^ 63) (hv : items[k.toNat]? = some v) (h : Q v s)
    (hkd : env.scope.kind = .function := by rfl) (hlx : env.kindOf x = some .local := by rfl) (hly : env.kindOf y = some .local := by rfl)
    (hdx : (x == ("__debug__" : Str)) = false := by decide) (hdy : (y == ("__debug__" : Str)) = false := by decide) :
    wpAny (model prog w) A (eval (.Subscript (.Name x px) (.Name y py) pos) env) Q E s :=
  wpAny_Subscript_Name slot_list_getitem.lookup (ldH hx (ldH hy ⟨hl.typeIs, wpAny_getItem_list hl h0 hk hv h⟩ hkd hly hdy) hkd hlx hdx)

/-- xs[i] = v, all three by local names -/
theorem storeH {env : Env} {x y z : Str} {px py pz pos pos' : Pos} {l : Addr} {items : Array Value} {k : Int} {t : Tok} {v : Value} {Q : Flow → Shared → Prop}
    (hx : Has s.heap env.locals x (.ref l)) (hy : Has s.heap env.locals y (.int k t)) (hz : Has s.heap env.locals z v) (hl : s.heap.IsList l items) (h0 : 0 ≤ k) (hk : k < 2 ^ 63) (hb : k < items.size)
    (h : ∀ h', h'.IsList l (items.setIfInBounds k.toNat v) → Heap.SameBut l s.heap h' → Q .next { s with heap := h' })
    (hkd : env.scope.kind = .function := by rfl) (hlx : env.kindOf x = some .local := by rfl) (hly : env.kindOf y = some .local := by rfl) (hlz : env.kindOf z = some .local := by rfl)
    (hdx : (x == ("__debug__" : Str)) = false := by decide) (hdy : (y == ("__debug__" : Str)) = false := by decide) (hdz : (z == ("__debug__" : Str)) = false := by decide) :
    wpAny (model prog w) A (exec (.Assign [.Subscript (.Name x px) (.Name y py) pos'] (.Name z pz) pos) env) Q E s :=
  wpAny_Assign_Subscript (ldH hz (ldH hx (ldH hy (wpAny_setItem_list hl h0 hk hb h) hkd hly hdy) hkd hlx hdx) hkd hlz hdz)
end

set_option maxHeartbeats 1000000 in
theorem sift_exec {prog : Program} {w : World} {A : Around} {E : Value → Shared → Prop} {s : Shared} {name qual : Str} {params : Arguments} {body : List Stmt} {dV kV doc pm cdv ct : Value} {an : Option Addr} {L a row : Addr}
    {vs : Array Value} {r : Row} {p : Nat} {v : Int} {t0 tp : Tok} {Q : Flow → Shared → Prop}
    (h1 : Has s.heap L "heap" (.ref row)) (h2 : Has s.heap L "startpos" (.int 0 t0)) (h3 : Has s.heap L "pos" (.int p tp))
    (hrow : s.heap.IsList row vs) (hr : RowIs vs r) (hp : p < 63) (hv : r p = some v) (ha : Anc r p) (hLr : L ≠ row)
    (hQ : ∀ h' tk vs', h'.IsList row vs' → RowIs vs' (sift r v p) → (∀ b o, b ≠ L → b ≠ row → s.heap.get? b = some o → h'.get? b = some o) → Q .next { s with heap := h', toks := tk }) :
    wpAny (model prog w) A (execs (fnBody 1) (callEnv (fnOf name qual params body (fnScope 1) dV kV doc pm an cdv ct) L a)) Q E s := by
  obtain ⟨nv, hnv, hV⟩ := hr.2 p hp
  rw [hv] at hV
  obtain ⟨tv, rfl⟩ := hV.inv
  with_unfolding_all refine wpAny_execs_cons ?_
  refine wpAny_Assign_Name (itemH h1 h3 hrow (by omega) (by omega) (by simpa using hnv) ?_)
  refine stH h1.ns fun h₁ n₁ k₁ hs₁ => ?_
  refine wpAny_execs_cons (wpAny_While ?_)
  refine codeAny_whileLoop (fun n s' => ∃ h' tk vs' r' p' tp', s' = { s with heap := h', toks := tk } ∧ Has h' L "heap" (.ref row) ∧ Has h' L "startpos" (.int 0 t0) ∧ Has h' L "pos" (.int (p' : Nat) tp') ∧ Has h' L "newitem" (.int v tv) ∧
      h'.IsList row vs' ∧ RowIs vs' r' ∧ p' < 63 ∧ Anc r' p' ∧ sift r v p = sift r' v p' ∧ n = p' ∧ (∀ b o, b ≠ L → b ≠ row → s.heap.get? b = some o → h'.get? b = some o)) ?_ p
    ⟨h₁, _, vs, r, p, tp, rfl, k₁ _ _ (by decide) h1, k₁ _ _ (by decide) h2, k₁ _ _ (by decide) h3, n₁, hrow.extBut hs₁.extBut (Ne.symm hLr), hr, hp, ha, rfl, rfl, fun b o hb _ e => hs₁.extBut b o hb e⟩
  rintro n s' ⟨h', tk, vs', r', p', tp', rfl, a1, a2, a3, a4, hrow', hr', hp', ha', hsift, rfl, hk⟩
  have hQ' : ∀ h'' tk' vs'' (r'' : Row) p'' tp'', Has h'' L "heap" (.ref row) → Has h'' L "pos" (.int (p'' : Nat) tp'') → Has h'' L "newitem" (.int v tv) → h''.IsList row vs'' → RowIs vs'' r'' → p'' < 63 →
      sift r v p = upd r'' p'' (some v) → (∀ b o, b ≠ L → b ≠ row → s.heap.get? b = some o → h''.get? b = some o) →
      wpAny (model prog w) A (execs ((fnBody 1).drop 2) (callEnv (fnOf name qual params body (fnScope 1) dV kV doc pm an cdv ct) L a)) Q E { s with heap := h'', toks := tk' } := by
    intro h'' tk' vs'' r'' p'' tp'' b2 b3 b4 b5 b6 b7 b8 b9
    with_unfolding_all refine wpAny_execs_cons ?_
    refine storeH b2 b3 b4 b5 (by omega) (by omega) (by rw [b6.1]; omega) fun h₃ hl₃ hs₃ => ?_
    refine wpAny_execs_nil (hQ _ _ _ hl₃ ?_ fun b o hbL hbr e => hs₃.extBut b o hbr (b9 b o hbL hbr e))
    rw [b8]
    exact b6.set (.int v tv)
  refine wpAny_isTrue_Compare1 (ldH a3 (ldH a2 (gt_int (wpAny_truthy_bool ?_))))
  by_cases hz : n = 0
  · subst hz
    rw [if_neg (by simp)]
    refine wpAny_execs_nil ?_
    exact hQ' h' tk vs' r' 0 tp' a1 a3 a4 hrow' hr' hp' (by rw [hsift, sift_zero]) hk
  · have hpos : (0 : Int) < (n : Int) := by omega
    rw [if_pos (by simpa using hpos)]
    obtain ⟨b, hb, hab⟩ : ∃ b, r' ((n - 1) / 2) = some b ∧ Anc r' ((n - 1) / 2) := by
      cases ha' with
      | top => exact absurd rfl hz
      | step _ hb ha => exact ⟨_, hb, ha⟩
    obtain ⟨pv, hpv, hPV⟩ := hr'.2 ((n - 1) / 2) (by omega)
    rw [hb] at hPV
    obtain ⟨tb, rfl⟩ := hPV.inv
    have e1 : ((n : Int) - 1) / 2 = (((n - 1) / 2 : Nat) : Int) := by omega
    refine wpAny_execs_cons (wpAny_Assign_Name (wpAny_BinOp (wpAny_BinOp (ldH a3 (wpAny_Constant_int (sub_int (wpAny_Constant_int (wpAny_rshift1_int (by omega) ?_))))))))
    rw [e1]
    refine stH a1.ns fun h₂ n₂ k₂ hs₂ => ?_
    have hrow₂ := hrow'.extBut hs₂.extBut (Ne.symm hLr)
    have a1 := k₂ _ _ (by decide) a1
    have a2 := k₂ _ _ (by decide) a2
    have a3 := k₂ _ _ (by decide) a3
    have a4 := k₂ _ _ (by decide) a4
    refine wpAny_execs_cons (wpAny_Assign_Name (itemH a1 n₂ hrow₂ (by omega) (by omega) (by exact hpv) ?_))
    refine stH a1.ns fun h₃ n₃ k₃ hs₃ => ?_
    have hrow₃ := hrow₂.extBut hs₃.extBut (Ne.symm hLr)
    have a1 := k₃ _ _ (by decide) a1
    have a2 := k₃ _ _ (by decide) a2
    have a3 := k₃ _ _ (by decide) a3
    have a4 := k₃ _ _ (by decide) a4
    have a5 := k₃ _ _ (by decide) n₂
    have hk₃ : ∀ b o, b ≠ L → b ≠ row → s.heap.get? b = some o → h₃.get? b = some o := fun b o hbL hbr e => hs₃.extBut b o hbL (hs₂.extBut b o hbL (hk b o hbL hbr e))
    refine wpAny_execs_cons (wpAny_If (wpAny_isTrue_Compare1 (ldH a4 (ldH n₃ (lt_int (wpAny_truthy_bool ?_))))))
    by_cases hvb : v < b
    · rw [if_pos (by simpa using hvb)]
      refine wpAny_execs_cons (storeH a1 a3 n₃ hrow₃ (by omega) (by omega) (by rw [hr'.1]; omega) fun h₄ hl₄ hs₄ => ?_)
      refine wpAny_execs_cons (wpAny_Assign_Name (ldH (a5.but hs₄ hLr) (stH (a1.ns.but hs₄ hLr) fun h₅ n₅ k₅ hs₅ => ?_)))
      refine wpAny_execs_cons (wpAny_Continue ?_)
      refine ⟨(n - 1) / 2, by omega, h₅, _, _, upd r' n (some b), (n - 1) / 2, _, rfl, k₅ _ _ (by decide) (a1.but hs₄ hLr), k₅ _ _ (by decide) (a2.but hs₄ hLr), n₅, k₅ _ _ (by decide) (a4.but hs₄ hLr),
        hl₄.extBut hs₅.extBut (Ne.symm hLr), hr'.set (.int b tb), by omega, hab.upd (by omega), ?_, rfl, fun b o hbL hbr e => hs₅.extBut b o hbL (hs₄.extBut b o hbr (hk₃ b o hbL hbr e))⟩
      rw [hsift, sift_up hz hb hvb]
    · rw [if_neg (by simpa using hvb)]
      refine wpAny_execs_nil ?_
      refine wpAny_execs_cons (wpAny_Break ?_)
      exact hQ' h₃ _ vs' r' n tp' a1 a3 a4 hrow₃ hr' hp' (by rw [hsift, sift_stay hz hb hvb]) hk₃

/-- the call _siftdown(row, 0, p) -/
theorem sift_call {prog : Program} {w : World} {A : Around} {s : Shared} {R : Result → Shared → Prop} {name qual : Str} {doc pm cdv ct oc : Value} {an od : Option Addr} {osl : Array (Option Value)} {f row : Addr}
    {vs : Array Value} {r : Row} {p : Nat} {v : Int} {t0 tp : Tok}
    (hroom : A.depth < recursionLimit) (ho : s.heap.get? f = some ⟨oc, od, .func (fnOf name qual (fnParams 1) (fnBody 1) (fnScope 1) .none .none doc pm an cdv ct), osl⟩) (hlim : s.heap.NoLimit) (hcd : s.heap.CodeRec cdv qual)
    (hrow : s.heap.IsList row vs) (hr : RowIs vs r) (hp : p < 63) (hv : r p = some v) (ha : Anc r p)
    (hR : ∀ h' tk vs', h'.IsList row vs' → RowIs vs' (sift r v p) → (∀ b o, b ≠ row → s.heap.get? b = some o → h'.get? b = some o) → R (.ok (.ret .none)) { s with heap := h', toks := tk }) :
    codeAny (model prog w) A (.call (.ref f) ⟨[.ref row, .int 0 t0, .int p tp], []⟩) R s := by
  have hlt : ∀ b o, s.heap.get? b = some o → b ≠ s.heap.objs.size := fun b o e => Nat.ne_of_lt (Heap.lt_size e)
  obtain ⟨orow, horow, _⟩ := id hrow
  refine codeAny_call_def (binds := [("heap", .ref row), ("startpos", .int 0 t0), ("pos", .int p tp)]) hroom ho rfl hlim hcd rfl (BindsTo.of_eq (by with_unfolding_all rfl))
    (by show ∀ x ∈ (fnScope 1).names, x.2 ≠ .cell; decide) (locs (by rfl)) fun h₁ hn₁ hk₁ => ?_
  refine sift_exec (s := { s with heap := h₁, toks := _ }) ⟨_, hn₁, rfl⟩ ⟨_, hn₁, rfl⟩ ⟨_, hn₁, rfl⟩ (hrow.at fun o e => hk₁ _ o e) hr hp hv ha (Ne.symm (hlt _ _ horow)) fun h' tk vs' hl' hr' hk' => ?_
  exact hR h' tk vs' hl' hr' fun b o hb e => hk' b o (hlt b o e) hb (hk₁ b o e)
end Mine
end
section
open PySem PySem.W PyProof.Rows
namespace Mine
set_option maxRecDepth 100000
set_option linter.unusedSimpArgs false

/-- all but what W names stands -/
def Kept (W : Addr → Prop) (h h' : Heap) : Prop := ∀ b o, ¬ W b → h.get? b = some o → h'.get? b = some o
theorem Kept.refl {W : Addr → Prop} {h : Heap} : Kept W h h := fun _ _ _ e => e
theorem Kept.trans {W : Addr → Prop} {h h' h'' : Heap} (x : Kept W h h') (y : Kept W h' h'') : Kept W h h'' := fun b o hb e => y b o hb (x b o hb e)
theorem Kept.mono {W W' : Addr → Prop} {h h' : Heap} (x : Kept W h h') (k : ∀ b, W b → W' b) : Kept W' h h' := fun b o hb e => x b o (fun w => hb (k b w)) e
theorem Kept.but {W : Addr → Prop} {h h' : Heap} {a : Addr} (hs : Heap.SameBut a h h') (ha : W a) : Kept W h h' := fun b o hb e => hs.extBut b o (fun q => hb (q ▸ ha)) e
theorem Kept.all {W : Addr → Prop} {h h' : Heap} (k : ∀ b o, h.get? b = some o → h'.get? b = some o) : Kept W h h' := fun b o _ e => k b o e

/-- no record (an iterator is one) -/
def NF (o : Obj) : Prop := ∀ vs, o.data ≠ .fields vs
/-- what no record can shake -/
def NFle (h h' : Heap) : Prop := ∀ b o, NF o → h.get? b = some o → h'.get? b = some o
theorem NFle.list {h h' : Heap} {l : Addr} {items : Array Value} (k : NFle h h') (x : h.IsList l items) : h'.IsList l items := by
  obtain ⟨o, ho, hc, n, hd⟩ := x
  exact ⟨o, k l o (fun vs e => by rw [hd] at e; cases e) ho, hc, n, hd⟩
theorem NFle.tup {h h' : Heap} {l : Addr} {items : Array Value} (k : NFle h h') (x : h.IsTuple l items) : h'.IsTuple l items := by
  obtain ⟨o, ho, hc, n, hd⟩ := x
  exact ⟨o, k l o (fun vs e => by rw [hd] at e; cases e) ho, hc, n, hd⟩
theorem NFle.has {h h' : Heap} {L : Addr} {x : Str} {v : Value} (k : NFle h h') (a : Has h L x v) : Has h' L x v := by
  obtain ⟨m, ⟨o, es, ep, ho, hd, r⟩, e⟩ := a
  exact ⟨m, ⟨o, es, ep, k L o (fun vs e => by rw [hd] at e; cases e) ho, hd, r⟩, e⟩
theorem NFle.ns {h h' : Heap} {L : Addr} (k : NFle h h') (a : IsNs h L) : IsNs h' L := by
  obtain ⟨m, ⟨o, es, ep, ho, hd, r⟩⟩ := a
  exact ⟨m, ⟨o, es, ep, k L o (fun vs e => by rw [hd] at e; cases e) ho, hd, r⟩⟩
theorem NFle.cell {h h' : Heap} {c : Addr} {v : Option Value} (k : NFle h h') (a : h.IsCell c v) : h'.IsCell c v := by
  obtain ⟨o, ho, hd⟩ := a
  exact ⟨o, k c o (fun vs e => by rw [hd] at e; cases e) ho, hd⟩

section
variable {prog : Program} {w : World} {A : Around} {E : Value → Shared → Prop} {s : Shared}

/-- a for over a list that no turn changes -/
theorem for_list {R : Result → Shared → Prop} {target : PySem.Expr} {body : List Stmt} {env : Env} {l : Addr} {items : Array Value} (W : Addr → Prop) (J : Nat → Heap → Prop)
    (hh : A.handled = none) (hl : s.heap.IsList l items) (hWl : ¬ W l) (hWs : ∀ b, W b → b < s.heap.objs.size) (h0 : J 0 s.heap)
    (mono : ∀ i h h', J i h → NFle h h' → J i h')
    (hgo : ∀ I i v (s' : Shared) (Q' : Unit → Shared → Prop) (E' : Value → Shared → Prop), items[i]? = some v → s'.heap.IsListIter I l (i + 1) → Q' () s' → wpAny (model prog w) A (letOwnedTupleGo target (.ref I) v) Q' E' s')
    (turn : ∀ i v h tk E', items[i]? = some v → J i h → Kept W s.heap h → h.IsList l items →
      wpAny (model prog w) A (assign target env v) (fun _ s₂ => wpAny (model prog w) A (execs body env) (fun f s₃ => match f with
        | .next | .cont => ∃ h' tk', s₃ = { s with heap := h', toks := tk' } ∧ J (i + 1) h' ∧ Kept W h h'
        | .brk => R (.ok .next) s₃
        | .ret v => R (.ok (.ret v)) s₃) E' s₂) E' { s with heap := h, toks := tk })
    (done : ∀ h tk, J items.size h → Kept W s.heap h → R (.ok .next) { s with heap := h, toks := tk }) :
    wpAny (model prog w) A (pyIter (.ref l)) (fun it s₂ => codeAny (model prog w) A (.forLoop target it body [] env) R s₂) E s := by
  obtain ⟨ol, hol, _⟩ := id hl
  have hlI : l ≠ s.heap.objs.size := Nat.ne_of_lt (Heap.lt_size hol)
  have hWI : ¬ W s.heap.objs.size := fun h => Nat.lt_irrefl _ (hWs _ h)
  refine wpAny_pyIter_list hl ?_
  have hlt : ∀ b o, s.heap.get? b = some o → b ≠ s.heap.objs.size := fun b o e => Nat.ne_of_lt (Heap.lt_size e)
  refine codeAny_forLoop_any
    (fun n s' => ∃ h' tk i, s' = { s with heap := h', toks := tk } ∧ h'.IsListIter s.heap.objs.size l i ∧ h'.IsList l items ∧ J i h' ∧ i ≤ items.size ∧ n = items.size + 1 - i ∧ Kept W s.heap h') ?_ (items.size + 1)
    ⟨_, s.toks, 0, rfl, ⟨_, Heap.get?_push_size _ rfl, rfl, rfl⟩, hl.push _, mono 0 _ _ h0 fun b o _ e => Heap.get?_push_of_some _ e, Nat.zero_le _, rfl, fun b o _ e => Heap.get?_push_of_some _ e⟩
  rintro n s' ⟨h', tk, i, rfl, hit', hl', hJ, hi, rfl, hk⟩
  have nf : ∀ h₁, Heap.ExtBut s.heap.objs.size h' h₁ → NFle h' h₁ := fun h₁ he b o hnf e => he b o (fun q => by
    obtain ⟨o', ho', _, hd'⟩ := hit'
    rw [q, ho'] at e
    cases e
    exact hnf _ hd') e
  cases hv : items[i]? with
  | none =>
    have hsz : i = items.size := Nat.le_antisymm hi (by simpa using hv)
    refine wpAny_pyNext_list_end hh hit' hl' hv fun h₁ he₁ => wpAny_execs_nil ?_
    exact done h₁ tk (hsz ▸ mono _ _ _ hJ (nf h₁ he₁)) fun b o hb e => he₁ b o (hlt b o e) (hk b o hb e)
  | some v =>
    have hlt' : i < items.size := (Array.getElem?_eq_some_iff.mp hv).1
    refine wpAny_pyNext_list_item hit' hl' hv fun h₁ hit₁ hs₁ => ?_
    refine hgo _ i v _ _ _ hv hit₁ ?_
    refine wpAny_mono (turn i v h₁ tk _ hv (mono _ _ _ hJ (nf h₁ hs₁.extBut)) (fun b o hb e => hs₁.extBut b o (hlt b o e) (hk b o hb e)) (hl'.extBut hs₁.extBut hlI)) (fun _ s₂ h₂ => wpAny_mono h₂ (fun f s₃ h₃ => ?_) fun _ _ e => e) fun _ _ e => e
    have fin : (∃ h' tk', s₃ = { s with heap := h', toks := tk' } ∧ J (i + 1) h' ∧ Kept W h₁ h') →
        ∃ m, m < items.size + 1 - i ∧ ∃ h' tk j, s₃ = { s with heap := h', toks := tk } ∧ h'.IsListIter s.heap.objs.size l j ∧ h'.IsList l items ∧ J j h' ∧ j ≤ items.size ∧ m = items.size + 1 - j ∧ Kept W s.heap h' := by
      rintro ⟨H₃, tk₃, rfl, hJ₃, hk₃⟩
      refine ⟨items.size + 1 - (i + 1), by omega, H₃, tk₃, i + 1, rfl, hit₁.at fun o e => hk₃ _ o hWI e, (hl'.extBut hs₁.extBut hlI).at fun o e => hk₃ _ o hWl e, hJ₃, hlt', rfl, fun b o hb e => hk₃ b o hb (hs₁.extBut b o (hlt b o e) (hk b o hb e))⟩
    cases f with
    | next => exact fin h₃
    | cont => exact fin h₃
    | brk => exact h₃
    | ret v => exact h₃

/-- way, item = T, the tuple's two parts, into two local names -/
theorem assign2 {env : Env} {a b : Str} {pa pb tp : Pos} {kk : Nat} {T : Addr} {x y : Value} {Q : Unit → Shared → Prop} (hh : A.handled = none) (ht : s.heap.IsTuple T #[x, y]) (hn : IsNs s.heap env.locals)
    (h : ∀ (h' : Heap) (tk : Nat), Has h' env.locals a x → Has h' env.locals b y → (∀ z u, ¬ z = a → ¬ z = b → Has s.heap env.locals z u → Has h' env.locals z u) → (∀ c o, c ≠ env.locals → s.heap.get? c = some o → h'.get? c = some o) → Q () { s with heap := h', toks := tk })
    (hab : ¬ a = b := by decide) (ha : env.kindOf a = some .local := by rfl) (hb : env.kindOf b = some .local := by rfl) (hp : (env.scope.kind == .class || (env.scope.kind == .module && env.locals != env.globals)) = false := by rfl) :
    wpAny (model prog w) A (assign (.Tuple [.Name a pa, .Name b pb] kk tp) env (.ref T)) Q E s := by
  obtain ⟨m, hm⟩ := hn
  refine kcp_assign hh ht ha hb hp hm fun h' tk hn' hk => h h' tk ⟨_, hn', by simp [hab]⟩ ⟨_, hn', by simp⟩ (fun z u hza hzb hu => ⟨_, hn', ?_⟩) hk
  obtain ⟨m₁, hn₁, e⟩ := hu
  simp only [hza, hzb, if_false]
  exact (Heap.Ns.agree hm hn₁ z).trans e

theorem nn {a b : Nat} (h : a ≠ b) : a ≠ b := h

/-- [b for a, b in l], l a list of pairs -/
theorem comp_pair {env : Env} {a b : Str} {pa pb tp pe : Pos} {kk : Nat} {iter : PySem.Expr} {scope : Scope} {pos : Pos} {l : Addr} {items : Array Value} {ys : List Value} {Q : Value → Shared → Prop} (hh : A.handled = none)
    (hl : s.heap.IsList l items) (hlen : ys.length = items.size) (hT : ∀ (i : Nat) (v : Value), items[i]? = some v → ∃ T x y, v = Value.ref T ∧ s.heap.IsTuple T #[x, y] ∧ ys[i]? = some y)
    (hiter : ∀ Q' : Value → Shared → Prop, Q' (.ref l) s → wpAny (model prog w) A (eval iter env) Q' E s)
    (h : ∀ D h' tk, s.heap.get? D = none → h'.IsList D ys.toArray → (∀ c o, s.heap.get? c = some o → h'.get? c = some o) → Q (.ref D) { s with heap := h', toks := tk })
    (hsz : items.size ≤ 1000) (hab : ¬ a = b := by decide)
    (hfree : ∀ y ∈ scope.names, y.2 ≠ .free := by decide) (hcell : ∀ y ∈ scope.names, y.2 ≠ .cell := by decide) (hkind : scope.kind = .function := by rfl)
    (hnames : ∀ y ∈ scope.names, y.2 = .local → scope.names.lookup y.1 = some .local := by decide) (hxa : scope.names.lookup a = some .local := by rfl) (hxb : scope.names.lookup b = some .local := by rfl)
    (hdb : (b == ("__debug__" : Str)) = false := by decide)
    (hs : ∀ x, foldedSetIterable iter env x = pure x := by intro _; rfl) :
    wpAny (model prog w) A (eval (.ListComp (.Name b pe) [⟨.Tuple [.Name a pa, .Name b pb] kk tp, iter, [], 0⟩] scope pos) env) Q E s := by
  obtain ⟨ol, hol, _⟩ := id hl
  have hlI : l ≠ s.heap.objs.size := Nat.ne_of_lt (Heap.lt_size hol)
  have hlt : ∀ (c : Nat) (o : Obj), s.heap.get? c = some o → c < s.heap.objs.size := fun c o e => Heap.lt_size e
  refine wpAny_ListComp hfree hkind hnames (hiter _ (wpAny_pyIter_list hl ?_)) hs
  refine wpAny_newObj_type (wpAny_newFunctionEnv hcell (by intro y hy; simp at hy) (fun h₁ hns₁ hsb₁ => ?_) hkind)
  dsimp only at hns₁ hsb₁ ⊢
  generalize hH1 : s.heap.push { cls := .type "list_iterator", data := .fields #[.ref l, .int 0 0] } = H1 at hns₁ hsb₁ ⊢
  generalize hH2 : H1.push { cls := .type "list", dict := none, data := .seq ([] : List Value).toArray } = H2 at hns₁ hsb₁ ⊢
  have z1 : H1.objs.size = s.heap.objs.size + 1 := by rw [← hH1, Heap.size_push]
  have z2 : H2.objs.size = s.heap.objs.size + 2 := by rw [← hH2, Heap.size_push, z1]
  have old : ∀ c o, s.heap.get? c = some o → h₁.get? c = some o := fun c o e =>
    hsb₁.extBut c o (nn (by have := hlt c o e; omega)) (Heap.get?_push_of_some _ (hH2 ▸ Heap.get?_push_of_some _ (hH1 ▸ Heap.get?_push_of_some _ e)))
  have hit₁ : h₁.IsListIter s.heap.objs.size l 0 := ⟨_, hsb₁.extBut _ _ (nn (by omega)) (Heap.get?_push_of_some _ (hH2 ▸ Heap.get?_push_of_some _ (hH1 ▸ Heap.get?_push_size _ rfl))), rfl, rfl⟩
  have hacc₁ : h₁.IsList H1.objs.size #[] := ⟨_, hsb₁.extBut _ _ (nn (by omega)) (Heap.get?_push_of_some _ (hH2 ▸ Heap.get?_push_size _ rfl)), rfl, 0, rfl⟩
  have loop : ∀ (s₃ : Shared) (R : Result → Shared → Prop), s₃ = { s with heap := h₁, toks := s.toks + ([] : List (Str × Value)).length } →
      (∀ h' tk, h'.IsList H1.objs.size ys.toArray → IsNs h' H2.objs.size → (∀ c o, s.heap.get? c = some o → h'.get? c = some o) → R (.ok .next) { s with heap := h', toks := tk }) →
      codeAny (model prog w) A (.compLoop (.ListComp (.Name b pe) [⟨.Tuple [.Name a pa, .Name b pb] kk tp, iter, [], 0⟩] scope pos) 0 (.ref s.heap.objs.size) (.ref H1.objs.size) (compEnv scope H2.objs.size env)) R s₃ := by
    rintro s₃ R rfl hR
    refine kcp_loop (fun n s' => ∃ h' tk i, s' = { s with heap := h', toks := tk } ∧ h'.IsListIter s.heap.objs.size l i ∧ h'.IsList H1.objs.size (ys.take i).toArray ∧ IsNs h' H2.objs.size ∧ i ≤ items.size ∧ n = items.size + 1 - i ∧ (∀ c o, s.heap.get? c = some o → h'.get? c = some o)) ?_ (items.size + 1)
      ⟨h₁, _, 0, rfl, hit₁, hacc₁, ⟨_, hns₁⟩, Nat.zero_le _, rfl, old⟩
    rintro n s' ⟨h', tk, i, rfl, hit', hacc', hn', hi, rfl, hk⟩
    have hl' : h'.IsList l items := hl.at fun o e => hk _ o e
    cases hv : items[i]? with
    | none =>
      have hin : i = items.size := Nat.le_antisymm hi (by simpa using hv)
      refine wpAny_pyNext_list_end hh hit' hl' hv fun h₂ he₂ => ?_
      refine hR h₂ tk ?_ (hn'.at fun o e => he₂ _ o (nn (by omega)) e) fun c o e => he₂ c o (nn (by have := hlt c o e; omega)) (hk c o e)
      rw [List.take_of_length_le (by omega)] at hacc'
      exact hacc'.at fun o e => he₂ _ o (nn (by omega)) e
    | some v =>
      have hlt' : i < items.size := (Array.getElem?_eq_some_iff.mp hv).1
      obtain ⟨T, x, y, rfl, hTT, hy⟩ := hT i v hv
      obtain ⟨oT, hoT, _⟩ := id hTT
      have hTlt := hlt _ _ hoT
      refine wpAny_pyNext_list_item hit' hl' hv fun h₂ hit₂ hs₂ => ?_
      refine wpAny_letOwnedTupleGo_listiter hit₂ ?_
      have hT₂ : h₂.IsTuple T #[x, y] := (hTT.at fun o e => hk _ o e).at fun o e => hs₂.extBut _ o (nn (by omega)) e
      refine assign2 (env := compEnv scope H2.objs.size env) hh hT₂ (hn'.at fun o e => hs₂.extBut _ o (show H2.objs.size ≠ _ from nn (by omega)) e) (fun h₃ tk₃ _ hB _ hs₃ => ?_) hab hxa hxb (by simp [compEnv, hkind])
      refine ldH (env := compEnv scope H2.objs.size env) hB ?_ hkind hxb hdb
      have hacc₃ : h₃.IsList H1.objs.size (ys.take i).toArray := (hacc'.at fun o e => hs₂.extBut _ o (nn (by omega)) e).at fun o e => hs₃ _ o (show H1.objs.size ≠ H2.objs.size from nn (by omega)) e
      refine wpAny_list_append hacc₃ (fun h₄ hl₄ hs₄ => ?_) (by simp only [List.size_toArray, List.length_take, sizeLine_eq]; omega)
      refine ⟨items.size + 1 - (i + 1), by omega, h₄, _, i + 1, rfl, ?_, ?_, ?_, hlt', rfl, ?_⟩
      · exact (hit₂.at fun o e => hs₃ _ o (show s.heap.objs.size ≠ H2.objs.size from nn (by omega)) e).at fun o e => hs₄.extBut _ o (nn (by omega)) e
      · rw [List.take_add_one, hy]
        simpa using hl₄
      · exact hB.ns.but hs₄ (show H2.objs.size ≠ H1.objs.size from nn (by omega))
      · intro c o e
        have := hlt c o e
        exact hs₄.extBut c o (nn (by omega)) (hs₃ c o (show c ≠ H2.objs.size from nn (by omega)) (hs₂.extBut c o (nn (by omega)) (hk c o e)))
  have fin : ∀ h' tk, h'.IsList H1.objs.size ys.toArray → IsNs h' H2.objs.size → (∀ c o, s.heap.get? c = some o → h'.get? c = some o) →
      ∃ m, h'.Ns H2.objs.size m ∧ ∀ h'', Heap.SameBut H2.objs.size h' h'' → Q (.ref H1.objs.size) { s with heap := h'', toks := tk } := by
    rintro h' tk hl' ⟨m, hm⟩ hk
    refine ⟨m, hm, fun h'' hs'' => h _ h'' tk ?_ (hl'.extBut hs''.extBut (nn (by omega))) fun c o e => hs''.extBut c o (nn (by have := hlt c o e; omega)) (hk c o e)⟩
    cases e : s.heap.get? H1.objs.size with
    | none => rfl
    | some o' => have := hlt _ _ e; omega
  exact codeAny_compStart_list (loop _ _ rfl fin) (wpAny_pyIter_listiter hit₁ (loop _ _ rfl fin))
end
end Mine
end
section
open PySem PySem.W PyProof.Rows
namespace Mine
set_option maxRecDepth 100000
set_option linter.unusedSimpArgs false

/-- the module's names and the built-in ones -/
structure Gnd (mg mb : Str → Option Value) (h : Heap) : Prop where
  g : h.Ns mainGlobals mg
  b : h.Ns builtinsNs mb
  lim : h.NoLimit
theorem Gnd.keeps {mg mb : Str → Option Value} {h h' : Heap} (G : Gnd mg mb h) (k : ∀ b o, h.get? b = some o → h'.get? b = some o) : Gnd mg mb h' := ⟨G.g.keeps k, G.b.keeps k, G.lim.keeps k⟩

section
variable {prog : Program} {w : World} {A : Around} {E : Value → Shared → Prop} {s : Shared} {mg mb : Str → Option Value} {env : Env}

/-- a built-in's name -/
theorem nameB {x : Str} {pos : Pos} {v : Value} {Q : Value → Shared → Prop} (G : Gnd mg mb s.heap) (h1 : mg x = none) (h2 : mb x = some v) (h : Q v s)
    (hk : env.scope.kind = .function := by rfl) (hx : env.kindOf x = some .globalImplicit := by rfl) (hg : env.globals = mainGlobals := by rfl) (hb : env.builtins = builtinsNs := by rfl) (hd : (x == ("__debug__" : Str)) = false := by decide) :
    wpAny (model prog w) A (eval (.Name x pos) env) Q E s :=
  Calls.Name_function_global hk hx (Calls.loadGlobal_builtin (by rw [hg]; exact G.g) h1 (by rw [hb]; exact G.b) h2 h) hd
/-- a global's name -/
theorem nameG {x : Str} {pos : Pos} {v : Value} {Q : Value → Shared → Prop} (G : Gnd mg mb s.heap) (h1 : mg x = some v) (h : Q v s)
    (hk : env.scope.kind = .function := by rfl) (hx : env.kindOf x = some .globalImplicit := by rfl) (hg : env.globals = mainGlobals := by rfl) (hd : (x == ("__debug__" : Str)) = false := by decide) :
    wpAny (model prog w) A (eval (.Name x pos) env) Q E s :=
  Calls.Name_function_global hk hx (Calls.loadGlobal_global (by rw [hg]; exact G.g) h1 h) hd

/-- f(e), f a built-in function -/
theorem call1 {f : Str} {fp pos : Pos} {id : String} {e : PySem.Expr} {Q : Value → Shared → Prop} (G : Gnd mg mb s.heap) (h1 : mg f = none) (h2 : mb f = some (.builtin id))
    (h : wpAny (model prog w) A (eval e env) (fun v s₁ => wpAny (model prog w) A (call (.builtin id) [v]) Q E s₁) E s)
    (hk : env.scope.kind = .function := by rfl) (hx : env.kindOf f = some .globalImplicit := by rfl) (hg : env.globals = mainGlobals := by rfl) (hb : env.builtins = builtinsNs := by rfl) (hd : (f == ("__debug__" : Str)) = false := by decide)
    (he : starEach [e] env = [(false, eval e env)] := by rfl) :
    wpAny (model prog w) A (eval (.Call (.Name f fp) [e] [] pos) env) Q E s := by
  refine wpAny_Call_NameR (nameB G h1 h2 ?_ hk hx hg hb hd)
  rw [he]
  exact Calls.callWith_builtin rfl (Calls.evalArgs_plain (Calls.spliced_cons (wpAny_mono h (fun v s₁ h₁ => Calls.spliced_nil h₁) fun _ _ x => x)))

/-- T(e), T a built-in class -/
theorem call1T {f : Str} {fp pos : Pos} {T : String} {e : PySem.Expr} {Q : Value → Shared → Prop} (G : Gnd mg mb s.heap) (h1 : mg f = none) (h2 : mb f = some (.type T))
    (h : wpAny (model prog w) A (eval e env) (fun v s₁ => wpAny (model prog w) A (call (.type T) [v]) Q E s₁) E s)
    (hk : env.scope.kind = .function := by rfl) (hx : env.kindOf f = some .globalImplicit := by rfl) (hg : env.globals = mainGlobals := by rfl) (hb : env.builtins = builtinsNs := by rfl) (hd : (f == ("__debug__" : Str)) = false := by decide)
    (he : starEach [e] env = [(false, eval e env)] := by rfl) :
    wpAny (model prog w) A (eval (.Call (.Name f fp) [e] [] pos) env) Q E s := by
  refine wpAny_Call_NameR (nameB G h1 h2 ?_ hk hx hg hb hd)
  rw [he]
  exact PySem.callWith_type rfl (Calls.evalArgs_plain (Calls.spliced_cons (wpAny_mono h (fun v s₁ h₁ => Calls.spliced_nil h₁) fun _ _ x => x)))

/-- xs[e] -/
theorem sub {value slice : PySem.Expr} {pos : Pos} {T id : String} {Q : Value → Shared → Prop} (hl : typeLookup (.type T) "__getitem__" = pure (some (.builtin id)))
    (h : wpAny (model prog w) A (eval value env) (fun o s₁ => wpAny (model prog w) A (eval slice env) (fun i s₂ => s₂.TypeIs o T ∧ wpAny (model prog w) A (getItem o i) Q E s₂) E s₁) E s)
    (hs : ∀ o i, subscripted slice false o i = operate [o, i] (getItem o i) := by intro _ _; rfl) :
    wpAny (model prog w) A (eval (.Subscript value slice pos) env) Q E s :=
  Subscript_ (wpAny_mono h (fun o s₁ h₁ => wpAny_mono h₁ (fun i s₂ h₂ => tail_any h₂.1 hl h₂.2 (hs o i)) fun _ _ x => x) fun _ _ x => x)

/-- a cell's name read -/
theorem ldC {x : Str} {pos : Pos} {c : Addr} {v : Value} {Q : Value → Shared → Prop} (hv : s.heap.IsCell c (some v)) (h : Q v s) (hc : env.cells.lookup x = some c := by rfl)
    (hk : env.scope.kind = .function := by rfl) (hl : env.kindOf x = some .cell := by rfl) (hd : (x == ("__debug__" : Str)) = false := by decide) :
    wpAny (model prog w) A (eval (.Name x pos) env) Q E s := wpAny_Name (wpAny_loadName_cell hk hl hc hv h) hd

/-- [v] * n -/
theorem mulL {l : Addr} {items : Array Value} {k : Nat} {x : Int} {u : Tok} {Q : Value → Shared → Prop}
    (hl : s.heap.get? l = some { cls := .type "list", dict := none, data := .seq items k, slots := #[] }) (hlo : -(2 ^ 63 : Int) ≤ x) (hhi : x < 2 ^ 63) (hsz : items.size * x.toNat ≤ 2 ^ 24)
    (h : Q (.ref s.heap.objs.size) { s with heap := s.heap.push { cls := .type "list", data := .seq (List.foldl (fun x1 x2 => x1 ++ x2) #[] (List.replicate (if items.isEmpty = true then 0 else x.toNat) items)) } }) :
    wpAny (model prog w) A (binaryOp .Mult (.ref l) (.int x u)) Q E s :=
  wpAny_binaryOp_repeat_ref (T := "list") (U := "int") (by decide) ⟨_, hl, rfl⟩ (fun s' => typeIs_int s' x u) noFill_list_mul PySem.F.fills_int_mul PySem.F.slot_int_rmul repeat_list PySem.F.slot_int_index.lookup
    (call_meets PySem.F.slot_int_rmul (typeIs_int s x u) PySem.F.entry_int_rmul (PySem.F.args_int_rmul_2 _ _) (int___rmul___int_list x u l items k)
      ⟨hl, rfl, ⟨_, hl, rfl⟩, call_meets PySem.F.slot_list_mul ⟨_, hl, rfl⟩ PySem.F.entry_list_mul (PySem.F.args_list_mul_2 _ _)
        (AutoListH.list___mul___list_int_3 l items k x u (by simp [Builtin.List.listFitsIndex]; omega) (by omega) (by simp [Builtin.List.listTooLong, sizeLine]; omega))
        ⟨hl, h⟩⟩)

/-- x = [v] * 63, v a constant: the new list -/
theorem rep63 (v : Value) : List.foldl (fun x1 x2 => x1 ++ x2) (#[] : Array Value) (List.replicate (if (#[v] : Array Value).isEmpty = true then 0 else (63 : Int).toNat) #[v]) = Array.replicate 63 v := by
  simp [List.replicate, Array.replicate]
end
end Mine
end
section
open PySem PySem.W PyProof.Rows
namespace Mine
set_option maxRecDepth 100000

/-! ## a set's table: its places rise, and it stays led -/
def Rises (xs : Array Nat) : Prop := ∀ (i k x y : Nat), i < k → xs[i]? = some x → xs[k]? = some y → x < y

theorem rises_of_pairwise {xs : Array Nat} (h : xs.toList.Pairwise (· < ·)) : Rises xs := by
  intro i k x y hik hx hy
  rw [← Array.getElem?_toList] at hx hy
  obtain ⟨hi, rfl⟩ := List.getElem?_eq_some_iff.mp hx
  obtain ⟨hk, rfl⟩ := List.getElem?_eq_some_iff.mp hy
  exact List.pairwise_iff_getElem.mp h i k hi hk hik
theorem pairwise_of_rises {xs : Array Nat} (h : Rises xs) : xs.toList.Pairwise (· < ·) := by
  rw [List.pairwise_iff_getElem]
  intro i k hi hk hik
  exact h i k _ _ hik (by rw [← Array.getElem?_toList]; exact List.getElem?_eq_getElem hi) (by rw [← Array.getElem?_toList]; exact List.getElem?_eq_getElem hk)

theorem below_go {xs : Array Nat} {j : Nat} (hR : Rises xs) : ∀ (fuel lo hi : Nat), lo ≤ hi → hi ≤ xs.size → hi - lo ≤ fuel → (∀ i x, xs[i]? = some x → i < lo → x < j) → (∀ i x, xs[i]? = some x → hi ≤ i → j ≤ x) →
    lo ≤ SetTable.below.go xs j fuel lo hi ∧ SetTable.below.go xs j fuel lo hi ≤ hi ∧ (∀ i x, xs[i]? = some x → i < SetTable.below.go xs j fuel lo hi → x < j) ∧ (∀ i x, xs[i]? = some x → SetTable.below.go xs j fuel lo hi ≤ i → j ≤ x)
  | 0, lo, hi, h1, h2, h3, h4, h5 => by
    have : lo = hi := by omega
    subst this
    simp only [SetTable.below.go]
    exact ⟨Nat.le_refl _, h1, h4, h5⟩
  | fuel + 1, lo, hi, h1, h2, h3, h4, h5 => by
    simp only [SetTable.below.go]
    by_cases hlt : lo < hi
    · simp only [hlt, if_true]
      have hm : (lo + hi) / 2 < xs.size := by omega
      have hget : xs[(lo + hi) / 2]? = some xs[(lo + hi) / 2] := Array.getElem?_eq_getElem hm
      have hgd : xs.getD ((lo + hi) / 2) j = xs[(lo + hi) / 2] := by simp [Array.getD, hm]
      rw [hgd]
      by_cases hc : xs[(lo + hi) / 2] < j
      · simp only [hc, if_true]
        have := below_go hR fuel ((lo + hi) / 2 + 1) hi (by omega) h2 (by omega) (fun i x hx hi' => ?_) h5
        · exact ⟨by omega, this.2.1, this.2.2⟩
        · rcases Nat.lt_or_eq_of_le (Nat.lt_succ_iff.mp hi') with h | h
          · exact Nat.lt_trans (hR i _ x _ h hx hget) hc
          · subst h; rw [hget] at hx; cases hx; exact hc
      · simp only [hc, if_false]
        have := below_go hR fuel lo ((lo + hi) / 2) (by omega) (by omega) (by omega) h4 (fun i x hx hi' => ?_)
        · exact ⟨this.1, by omega, this.2.2⟩
        · rcases Nat.lt_or_eq_of_le hi' with h | h
          · exact Nat.le_trans (Nat.not_lt.mp hc) (Nat.le_of_lt (hR _ i _ x h hget hx))
          · subst h; rw [hget] at hx; cases hx; exact Nat.not_lt.mp hc
    · have : lo = hi := by omega
      subst this
      simp only [Nat.lt_irrefl, if_false]
      exact ⟨Nat.le_refl _, h1, h4, h5⟩

theorem below_spec {xs : Array Nat} (hR : Rises xs) (j : Nat) : SetTable.below xs j ≤ xs.size ∧ (∀ i x, xs[i]? = some x → i < SetTable.below xs j → x < j) ∧ (∀ i x, xs[i]? = some x → SetTable.below xs j ≤ i → j ≤ x) := by
  have := below_go (j := j) hR xs.size 0 xs.size (Nat.zero_le _) (Nat.le_refl _) (by omega) (fun i x _ h => absurd h (Nat.not_lt_zero _)) (fun i x hx h => by
    have := (Array.getElem?_eq_some_iff.mp hx).1; omega)
  exact ⟨this.2.1, this.2.2⟩

theorem rises_put {t : SetTable} {j : Nat} (hR : Rises t.place) (hj : t.place[SetTable.below t.place j]? ≠ some j) : Rises (t.put j).1.place := by
  refine rises_of_pairwise ?_
  show (SetTable.insertAt t.place (SetTable.below t.place j) j).toList.Pairwise (· < ·)
  rw [SetTable.toList_insertAt]
  obtain ⟨hp, h1, h2⟩ := below_spec hR j
  have hpw := pairwise_of_rises hR
  have hlt : ∀ x ∈ t.place.toList.take (SetTable.below t.place j), x < j := by
    intro x hx
    obtain ⟨i, hi, rfl⟩ := List.mem_iff_getElem.mp hx
    rw [List.getElem_take]
    rw [List.length_take] at hi
    exact h1 i _ (by rw [← Array.getElem?_toList]; exact List.getElem?_eq_getElem (by omega)) (by omega)
  have hgt : ∀ x ∈ t.place.toList.drop (SetTable.below t.place j), j < x := by
    intro x hx
    obtain ⟨i, hi, rfl⟩ := List.mem_iff_getElem.mp hx
    rw [List.getElem_drop]
    rw [List.length_drop] at hi
    have hge := h2 (SetTable.below t.place j + i) _ (by rw [← Array.getElem?_toList]; exact List.getElem?_eq_getElem (by omega)) (by omega)
    have hp' : SetTable.below t.place j < t.place.toList.length := by omega
    have hb : t.place[SetTable.below t.place j]? = some (t.place.toList[SetTable.below t.place j]'hp') := by rw [← Array.getElem?_toList]; exact List.getElem?_eq_getElem hp'
    have hge0 := h2 _ _ hb (Nat.le_refl _)
    have hne0 : j ≠ t.place.toList[SetTable.below t.place j]'hp' := fun e => hj (by rw [hb, ← e])
    cases i with
    | zero => exact Nat.lt_of_le_of_ne hge0 hne0
    | succ i =>
      have := List.pairwise_iff_getElem.mp hpw (SetTable.below t.place j) (SetTable.below t.place j + (i + 1)) hp' (by omega) (by omega)
      omega
  rw [List.pairwise_append]
  refine ⟨hpw.sublist (List.take_sublist _ _), List.pairwise_cons.mpr ⟨hgt, hpw.sublist (List.drop_sublist _ _)⟩, fun a ha b hb => ?_⟩
  rcases List.mem_cons.mp hb with rfl | hb
  · exact hlt a ha
  · exact Nat.lt_trans (hlt a ha) (hgt b hb)

theorem slot_free {t : SetTable} {j : Nat} (h : ∀ i, t.slot j ≠ .live i) : t.place[SetTable.below t.place j]? ≠ some j := by
  intro e
  refine h (SetTable.below t.place j) ?_
  unfold SetTable.slot
  simp [e]

theorem probe_go {t : SetTable} {f : Nat → Int} {h : Int} : ∀ (fuel : Nat) (p : SetTable.Probe) (j : Nat) (d : Option Nat), (∀ q, p.dummy = some q → ∀ i, t.slot q ≠ .live i) →
    SetTable.probe.go t f h fuel p = some (.empty j d) → ∀ i, t.slot (d.getD j) ≠ .live i
  | 0, p, j, d, _, e => by simp [SetTable.probe.go] at e
  | fuel + 1, p, j, d, hp, e => by
    simp only [SetTable.probe.go] at e
    cases hs : t.slot p.j with
    | empty =>
      rw [hs] at e
      simp only [Option.some.injEq, SetTable.Met.empty.injEq] at e
      obtain ⟨rfl, rfl⟩ := e
      cases hd : p.dummy with
      | none => intro i; rw [Option.getD_none, hs]; exact fun x => nomatch x
      | some q => exact hp q hd
    | dummy =>
      rw [hs] at e
      refine probe_go fuel _ j d (fun q hq => ?_) e
      have hq' : q = p.j := by
        unfold SetTable.advance at hq
        split at hq
        · simpa using hq.symm
        · simpa using hq.symm
      subst hq'
      intro i; rw [hs]; exact fun x => nomatch x
    | live k =>
      rw [hs] at e
      dsimp only at e
      split at e
      · cases e
      · refine probe_go fuel _ j d (fun q hq => hp q ?_) e
        unfold SetTable.advance at hq
        split at hq
        · exact hq
        · exact hq

theorem freeSlot_free {t : SetTable} {h : Int} {j : Nat} {b : Bool} (e : t.freeSlot h = some (j, b)) : t.place[SetTable.below t.place j]? ≠ some j := by
  unfold SetTable.freeSlot at e
  split at e
  · rename_i j' d hm
    simp only [Option.some.injEq, Prod.mk.injEq] at e
    obtain ⟨rfl, _⟩ := e
    exact slot_free (probe_go _ _ _ _ (fun q hq => by simp [SetTable.probeStart] at hq) hm)
  · cases e

def TblOk (led : Bool) (t : SetTable) : Prop := t.led = led ∧ Rises t.place

theorem rises_range (n : Nat) : Rises (Array.range n) := by
  refine rises_of_pairwise ?_
  rw [Array.toList_range]
  exact List.pairwise_lt_range

theorem tblOk_fresh (led : Bool) : TblOk led (.fresh 0 0 led) := ⟨rfl, fun i k x y _ hx _ => by simp [SetTable.fresh] at hx⟩
theorem tblOk_standIn {led : Bool} {t : SetTable} (h : TblOk led t) (n : Nat) : TblOk led (t.standIn n) := ⟨h.1, rises_range n⟩
theorem tblOk_orStandIn {led : Bool} {t : SetTable} (h : TblOk led t) (n : Nat) : TblOk led (t.orStandIn n) := by
  unfold SetTable.orStandIn
  split
  · exact h
  · exact tblOk_standIn h n
theorem tblOk_layNew {led : Bool} {t : SetTable} (ht : TblOk led t) (es : Array (Int × Value)) (h : Int) (x : Value) : TblOk led (layNew t es h x).2.1 := by
  unfold layNew
  split
  · rename_i slot wasDummy e
    exact tblOk_orStandIn (t := (t.put slot).1) ⟨ht.1, rises_put ht.2 (freeSlot_free e)⟩ _
  · exact tblOk_standIn ht _

theorem laid_rises {mask finger moves : Nat} {led plain : Bool} {hs : Array Int} {t : SetTable} {o : Array Nat} (e : SetTable.laid mask finger moves led plain hs = some (t, o)) : TblOk led t := by
  unfold SetTable.laid at e
  cases ho : SetTable.layClean mask hs with
  | none => rw [ho] at e; cases e
  | some owner =>
    rw [ho] at e
    simp only [Option.bind_eq_bind, Option.bind_some, Option.pure_def, Option.some.injEq, Prod.mk.injEq] at e
    obtain ⟨rfl, _⟩ := e
    refine ⟨rfl, rises_of_pairwise ?_⟩
    dsimp only
    have key : ∀ (l : List Nat), (l.filterMap fun j => (owner.getD j none).map (j, ·)).map (·.1) = l.filter fun j => (owner.getD j none).isSome := by
      intro l
      induction l with
      | nil => rfl
      | cons a r ih =>
        cases ha : owner.getD a none with
        | none =>
          rw [List.filterMap_cons_none (by rw [ha]; rfl), List.filter_cons_of_neg (by rw [ha]; simp)]; exact ih
        | some k =>
          rw [List.filterMap_cons_some (b := (a, k)) (by rw [ha]; rfl), List.filter_cons_of_pos (by rw [ha]; rfl), List.map_cons, ih]
    rw [key]
    exact List.pairwise_lt_range.sublist List.filter_sublist

theorem tblOk_relayAll {led : Bool} {t : SetTable} (ht : TblOk led t) (es : Array (Int × Value)) (wanted : Nat) : TblOk led (relayAll t es wanted).2.1 := by
  unfold relayAll
  split
  · rename_i t' order e
    dsimp only
    split
    · unfold SetTable.relaid at e
      have := laid_rises e
      rw [ht.1] at this
      exact this
    · exact tblOk_standIn ht _
  · exact tblOk_standIn ht _
end Mine
end
section
open PySem PySem.W PyProof.Rows
namespace Mine
set_option maxRecDepth 100000

/-- is the set's order told by the text's own rows -/
def byTextOf (w : World) : Bool := w.params.followText "set-order"

/-- a set of ints at a, its entries and table known -/
def SetQ (prog : Program) (w : World) (h : Heap) (a : Addr) (es : Array (Int × Value)) : Prop :=
  ∃ o ep t, h.get? a = some o ∧ o.ExactSet ∧ o.data = .set es ep t ∧ ElemsOf (intKind prog w) es.toList ∧ es.size < scanBound ∧ t.fits es.size = true ∧ TblOk (!byTextOf w) t

theorem SetQ.at {prog : Program} {w : World} {h h' : Heap} {a : Addr} {es : Array (Int × Value)} (x : SetQ prog w h a es) (k : ∀ o, h.get? a = some o → h'.get? a = some o) : SetQ prog w h' a es :=
  let ⟨o, ep, t, ho, r⟩ := x; ⟨o, ep, t, k o ho, r⟩

section
variable {prog : Program} {w : World} {A : Around} {E : Value → Shared → Prop} {s : Shared}

theorem setQ_store {h : Heap} {a : Addr} {o : Obj} {es : Array (Int × Value)} {ep : Nat} {t : SetTable} (ho : h.get? a = some o) (hex : o.ExactSet) (hd : o.data = .set es ep t)
    {es' : Array (Int × Value)} {t' : SetTable} (hel : ElemsOf (intKind prog w) es'.toList) (hb : es'.size < scanBound) (hf : t'.fits es'.size = true) (ht : TblOk (!byTextOf w) t') :
    (h.update a (Obj.putSet es' t')).get? a = some { o with data := .set es' (ep + 1) t' } ∧ SetQ prog w (h.update a (Obj.putSet es' t')) a es' := by
  have hg : (h.update a (Obj.putSet es' t')).get? a = some { o with data := .set es' (ep + 1) t' } := by
    have := Heap.get?_update_self (Obj.putSet es' t') ho (by rw [putSet_of es' t' hd]; rfl)
    rw [putSet_of es' t' hd] at this; exact this
  exact ⟨hg, _, ep + 1, t', hg, hex, rfl, hel, hb, hf, ht⟩

theorem add_tail {g : Bool → Sem Unit} (hg : ∀ (b : Bool) (s₁ : Shared) (Q' : Unit → Shared → Prop), Q' () s₁ → wpAny (model prog w) A (g b) Q' E s₁)
    {a : Addr} {o : Obj} {es : Array (Int × Value)} {ep : Nat} {t : SetTable} (ho : s.heap.get? a = some o) (hex : o.ExactSet) (hd : o.data = .set es ep t)
    {es1 : Array (Int × Value)} {t2 : SetTable} (hel1 : ElemsOf (intKind prog w) es1.toList) (hb1 : es1.size < scanBound) (hf2 : t2.fits es1.size = true) (ht2 : TblOk (!byTextOf w) t2) {wasDummy : Bool} {R : Option Bool → Shared → Prop}
    (h : ∀ h' es', Heap.SameBut a s.heap h' → SetQ prog w h' a es' → es'.toList.Perm es1.toList → R (some true) { s with heap := h' }) :
    wpAny (model prog w) A (do
        storeSet a es1 t2
        if (!wasDummy && t2.tooFull) = true then do
            g (relayAll t2 es1 (SetTable.grown es1.size)).2.2
            storeSet a (relayAll t2 es1 (SetTable.grown es1.size)).1 (relayAll t2 es1 (SetTable.grown es1.size)).2.1
            pure (some true)
          else pure (some true)) R E s := by
  refine wpAny_bind (wpAny_storeSet_of ho hd ?_ (fits_of_scanBound hb1))
  obtain ⟨ho1, hS1⟩ := setQ_store (prog := prog) (w := w) ho hex hd hel1 hb1 hf2 ht2
  have hsb1 := Heap.SameBut.update s.heap a (Obj.putSet es1 t2)
  split
  · have hp := relayAll_perm t2 es1 (SetTable.grown es1.size)
    have hfr := relayAll_fits t2 es1 (SetTable.grown es1.size)
    have htr := tblOk_relayAll ht2 es1 (SetTable.grown es1.size)
    generalize relayAll t2 es1 (SetTable.grown es1.size) = Rl at hp hfr htr ⊢
    obtain ⟨es2, t3, gave2⟩ := Rl
    dsimp only at hp hfr htr ⊢
    have hel2 : ElemsOf (intKind prog w) es2.toList := hel1.perm hp
    have hsz : es2.size = es1.size := by rw [← Array.length_toList, hp.length_eq, Array.length_toList]
    have hb2 : es2.size < scanBound := by rw [hsz]; exact hb1
    refine wpAny_bind (hg _ _ _ ?_)
    refine wpAny_bind (wpAny_storeSet_of ho1 rfl ?_ (fits_of_scanBound hb2))
    obtain ⟨_, hS2⟩ := setQ_store (prog := prog) (w := w) ho1 hex rfl hel2 hb2 hfr htr
    exact wpAny_pure (h _ es2 (hsb1.trans (Heap.SameBut.update _ a _)) hS2 hp)
  · exact wpAny_pure (h _ es1 hsb1 hS1 .rfl)

/-- an int added to a set of ints -/
theorem add_q {a : Addr} {es : Array (Int × Value)} {k : Int} {u : Tok} {Q : Bool → Shared → Prop} (hS : SetQ prog w s.heap a es) (hroom : es.size + 1 < scanBound)
    (h : ∀ h' es' b, Heap.SameBut a s.heap h' → SetQ prog w h' a es' → es'.size ≤ es.size + 1 → (∀ k', (∃ e ∈ es'.toList, (intKind prog w).is k' e.2 = true) ↔ ((∃ e ∈ es.toList, (intKind prog w).is k' e.2 = true) ∨ k' = k)) → Q b { s with heap := h' }) :
    wpAny (model prog w) A (setAddHashed a (.int k u) ((intKind prog w).hash k)) Q E s := by
  obtain ⟨o, ep, t, ho, hex, hd, hel, hb, hf, ht⟩ := hS
  have hkey : (intKind prog w).is k (.int k u) = true := intKind_is _ _ _ _
  have hsc : (Value.int k u).scannable = true := rfl
  unfold setAddHashed setAddHashedIn
  refine wpAny_holding (wpAny_bind (wpAny_setState_of ho hd hf ?_))
  dsimp only
  rw [byScan_of hsc hb hel]
  simp only [↓reduceIte]
  unfold setAddByScan
  refine wpAny_bind ?_
  refine wpAny_bind (wpAny_rule ?_)
  refine wpAny_bind (wpAny_setScan_of hkey ho hd hf hel ?_)
  cases hr : List.findIdx? (fun e => (intKind prog w).is k e.2) es.toList with
  | some j =>
    dsimp only
    obtain ⟨hj, hpj, _⟩ := List.findIdx?_eq_some_iff_getElem.mp hr
    refine wpAny_pure (wpAny_pure ?_)
    have e : s = { s with heap := s.heap } := by cases s; rfl
    rw [e]
    refine h s.heap es _ (Heap.SameBut.refl a s.heap) ⟨o, ep, t, ho, hex, hd, hel, hb, hf, ht⟩ (Nat.le_succ _) fun k' => ?_
    exact ⟨.inl, fun x => x.elim id fun e => e ▸ ⟨_, List.getElem_mem hj, hpj⟩⟩
  | none =>
    dsimp only
    have hgw : ∀ (b : Bool) {s₁ : Shared} {Q' : Unit → Shared → Prop}, Q' () s₁ → wpAny (model prog w) A (match b with | true => rule "set.scan.the-table-gave-way" | false => pure ()) Q' E s₁ :=
      fun b s₁ Q' hq => by cases b <;> first | exact wpAny_pure hq | exact wpAny_rule hq
    have hperm := layNew_perm t es ((intKind prog w).hash k) (.int k u)
    have hfits := layNew_fits t es ((intKind prog w).hash k) (.int k u)
    have htbl := tblOk_layNew ht es ((intKind prog w).hash k) (.int k u)
    generalize layNew t es ((intKind prog w).hash k) (.int k u) = L at hperm hfits htbl ⊢
    obtain ⟨es1, t1, wasDummy, gave⟩ := L
    dsimp only at hperm hfits htbl ⊢
    rw [Array.toList_push] at hperm
    have hel1 : ElemsOf (intKind prog w) es1.toList := (hel.push hkey hsc).perm hperm
    have hsz1 : es1.size = es.size + 1 := by rw [← Array.length_toList, hperm.length_eq, List.length_append, Array.length_toList]; rfl
    have hb1' : es1.size < scanBound := by rw [hsz1]; exact hroom
    have hend : ∀ h' es', Heap.SameBut a s.heap h' → SetQ prog w h' a es' → es'.toList.Perm es1.toList → Q true { s with heap := h' } := by
      intro h' es' hsb hS' hp'
      refine h h' es' true hsb hS' (by rw [← Array.length_toList, hp'.length_eq, Array.length_toList, hsz1]; exact Nat.le_refl _) fun k' => ?_
      have hpp := hp'.trans hperm
      constructor
      · rintro ⟨e, he, hq⟩
        rcases List.mem_append.mp (hpp.mem_iff.mp he) with he | he
        · exact .inl ⟨e, he, hq⟩
        · rw [List.mem_singleton] at he; subst he
          exact .inr ((intKind prog w).inj _ k' k hq hkey)
      · rintro (⟨e, he, hq⟩ | rfl)
        · exact ⟨e, hpp.mem_iff.mpr (List.mem_append_left _ he), hq⟩
        · exact ⟨_, hpp.mem_iff.mpr (List.mem_append_right _ (List.mem_singleton.mpr rfl)), hkey⟩
    refine wpAny_bind (hgw _ ?_)
    split
    · refine wpAny_bind ?_
      rw [hashByValue_scannable 8 hsc]
      refine wpAny_pure ?_
      refine add_tail ?_ ho hex hd hel1 hb1' ?_ ?_ ?_
      · intro b s₁ Q' hq; cases b <;> first | exact wpAny_pure hq | exact wpAny_rule hq
      · split
        · exact hfits
        · exact SetTable.fits_plain_off hfits
      · split
        · exact htbl
        · exact htbl
      · intro h' es' hsb hS' hp'; dsimp only; exact wpAny_pure (hend h' es' hsb hS' hp')
    · refine wpAny_bind (wpAny_pure ?_)
      simp only [↓reduceIte]
      refine add_tail ?_ ho hex hd hel1 hb1' hfits htbl ?_
      · intro b s₁ Q' hq; cases b <;> first | exact wpAny_pure hq | exact wpAny_rule hq
      · intro h' es' hsb hS' hp'; dsimp only; exact wpAny_pure (hend h' es' hsb hS' hp')

/-- what a set holds: just the ints of ns -/
def Holds (prog : Program) (w : World) (es : Array (Int × Value)) (ns : List Int) : Prop := ∀ k, (∃ e ∈ es.toList, (intKind prog w).is k e.2 = true) ↔ k ∈ ns

theorem set_loop {I : Addr} {fp wr : List Addr} {G : Array GenState → Array GenState → Prop} {n : Nat} {P : Nat → Value → Prop} {St : Nat → Shared → Prop} {R : Result → Shared → Prop}
    (W : WalksS prog w A.in1 I fp wr G n P St) (S : Addr) (hSf : S ∉ fp) (ns : List Int) (hlen : ns.length = n) (hval : ∀ i v, P i v → ∃ t k, v = .int k t ∧ ns[i]? = some k) (hb : n + 1 < scanBound) :
    ∀ (k i : Nat) (s : Shared) (es : Array (Int × Value)), n - i = k → i ≤ n → St i s → SetQ prog w s.heap S es → Holds prog w es (ns.take i) → es.size ≤ i →
      (∀ s' es', Moved (S :: wr) G s s' → SetQ prog w s'.heap S es' → Holds prog w es' ns → es'.size ≤ n → R (.ok (.ret .none)) s') →
      codeAny (model prog w) A (.builtin "set.update.loop" ⟨[.ref S, .ref I], []⟩) R s := by
  have hSw : S ∉ wr := fun h => hSf (W.sub _ h)
  have hsub : ∀ b ∈ wr, b ∈ S :: wr := fun b hb => List.mem_cons_of_mem _ hb
  intro k
  induction k with
  | zero =>
    intro i s es hk hi hst hS hH hz hR
    have hin : i = n := by omega
    subst hin
    refine codeAny_builtin PyProof.Rows.F.entry_set_update_loop ?_
    rw [Around.under_plainId PyProof.Rows.F.plain_set_update_loop _]
    show wpAny _ A.in1 (pyNext (.ref I) >>= _) _ _ s
    refine wpAny_bind (W.done s _ _ hst fun s' hm => ?_)
    show wpAny _ A.in1 (ret Value.none) _ _ s'
    exact wpAny_pure (hR s' es (hm.mono hsub) (hS.at fun o e => hm.heap S o hSw e) (by rw [List.take_of_length_le (Nat.le_of_eq hlen)] at hH; exact hH) hz)
  | succ k ih =>
    intro i s es hk hi hst hS hH hz hR
    have hlt : i < n := by omega
    refine codeAny_builtin PyProof.Rows.F.entry_set_update_loop ?_
    rw [Around.under_plainId PyProof.Rows.F.plain_set_update_loop _]
    show wpAny _ A.in1 (pyNext (.ref I) >>= _) _ _ s
    refine wpAny_bind (W.item i s _ _ hlt hst fun v s' hP hst' hm => ?_)
    obtain ⟨t, c, rfl, hc⟩ := hval i v hP
    have hS' : SetQ prog w s'.heap S es := hS.at fun o e => hm.heap S o hSw e
    show wpAny _ A.in1 (holding [Value.int c t] (setAdd S (.int c t)) >>= _) _ _ s'
    refine wpAny_bind (wpAny_holding ?_)
    unfold setAdd
    refine wpAny_holding ?_
    refine wpAny_bind ((intKind prog w).pyHash (k := c) (intKind_is _ _ _ _) ?_)
    refine add_q (s := { s' with toks := s'.toks + 1 }) hS' (by omega) fun h' es' b hsb hS2 hz2 hm2 => ?_
    refine wpAny_pure ⟨plainId_quiet PyProof.Rows.F.plain_set_update_loop _, ih (i + 1) _ es' (by omega) hlt (W.frame _ s' _ _ hst' (Nat.le_succ _) fun b hb o e => ?_) hS2 (fun k' => ?_) (by omega) fun s'' es'' hm'' hS'' hH'' hz'' => ?_⟩
    · rw [hsb.2 b (fun h : b = S => hSf (by rw [← h]; exact hb))]; exact e
    · rw [hm2 k', hH k', List.take_add_one, hc]
      simp
    · refine hR s'' es'' (Moved.trans W.gtrans ((hm.mono hsub).then_heap (Nat.le_succ _) fun b o hb e => ?_) hm'') hS'' hH'' hz''
      rw [hsb.2 b (fun h : b = S => hb (by rw [h]; exact List.mem_cons_self))]; exact e

theorem ask_is {Q : Setting → Shared → Prop} (h : Q ⟨prog, w.params⟩ s) : wpAny (model prog w) A ask Q E s := fun Γ p _ => by rw [Sem.wp_cmd_ask]; exact h

theorem set_new_led (a : Value) {Q₁ : Value → Shared → Prop}
    (h : Q₁ (.ref s.heap.objs.size) { s with heap := s.heap.push { cls := .type "set", dict := none, data := .set #[] 0 (.fresh 0 0 (!byTextOf w)) } }) :
    codeAny (model prog w) A (.call (.builtin "set.__new__") ⟨[.type "set", a], []⟩) (wants Q₁ E) s := by
  refine codeAny_of_tree ?_
  show wpAny _ A.in1 (do checkBuiltinCall "set.__new__" ⟨[.type "set", a], []⟩; again (.builtin "set.__new__" ⟨[.type "set", a], []⟩)) _ _ s
  refine wpAny_bind (wpAny_of_eq (PySem.F.newCall_set_1 a) (wpAny_pure ⟨plainId_quiet PySem.F.plain_set_new _, codeAny_builtin PySem.F.entry_set_new ?_⟩))
  rw [Around.under_plainId PySem.F.plain_set_new _]
  unfold Builtin.«set.__new__» Builtin.Frozenset.newClass
  have hsub := sub_set_self
  obtain ⟨hp, g, d, tk, os⟩ := s
  dsimp only
  wp_walk
  refine ask_is (wpAny_pure ?_)
  dsimp only
  simp only [newObj]
  refine wpAny_bind (wpAny_alloc (wpAny_pure ?_))
  exact wpAny_pure h

set_option maxHeartbeats 3200000 in
/-- set(xs), xs a list of ints -/
theorem set_call {l : Addr} {items : Array Value} {ns : List Int} {Q : Value → Shared → Prop}
    (hh : A.handled = none) (hl : s.heap.IsList l items) (hi : IntsAre items.toList ns) (hb : items.size + 1 < scanBound)
    (h : ∀ (h' : Heap) (tk : Nat) es, SetQ prog w h' s.heap.objs.size es → Holds prog w es ns → es.size ≤ ns.length →
      (∀ b o, s.heap.get? b = some o → h'.get? b = some o) → Q (.ref s.heap.objs.size) { s with heap := h', toks := tk }) :
    wpAny (model prog w) A (call (.type "set") [.ref l]) Q E s := by
  obtain ⟨c, tl, hmro⟩ := PySem.F.called_set.mro
  have hmade := PySem.F.called_set.made
  have hsub := PySem.F.called_set.sub
  have hlen : ns.length = items.size := by have := hi.length; rw [← this]; simp
  refine wpAny_call (codeAny_of_tree ?_)
  show wpAny _ _ (callAny (.type "set") _) _ _ _
  refine wpAny_pure ⟨Code.quiet_builtin _ (by decide +kernel), codeAny_builtin PySem.F.entry_type_call ?_⟩
  rw [Around.under_plain (weight_type_call_type "set" [.ref l] []) rfl]
  have h1 := PySem.F.called_set.notType
  have h2 := PySem.F.called_set.canCreate
  have hct := PySem.F.typeCall_set_1 (.ref l)
  repeat (any_goals (first | assumption | wp_step))
  refine codeAny_mono (set_new_led (.ref l) (E := E) (Q₁ := fun obj s₁ => obj = .ref s.heap.objs.size ∧ s₁ = { s with heap := s.heap.push { cls := .type "set", dict := none, data := .set #[] 0 (.fresh 0 0 (!byTextOf w)) } }) ⟨rfl, rfl⟩) fun r s₁ hr => ?_
  cases r with
  | error e => exact hr
  | ok fl =>
    cases fl with
    | ret obj =>
      obtain ⟨rfl, rfl⟩ := hr
      have hS : (s.heap.push { cls := .type "set", dict := none, data := .set #[] 0 (.fresh 0 0 (!byTextOf w)) }).get? s.heap.objs.size = some { cls := .type "set", dict := none, data := .set #[] 0 (.fresh 0 0 (!byTextOf w)) } := Heap.get?_push_size _ rfl
      have hT : Shared.TypeIs { s with heap := s.heap.push { cls := .type "set", dict := none, data := .set #[] 0 (.fresh 0 0 (!byTextOf w)) } } (.ref s.heap.objs.size) "set" := ⟨_, hS, rfl⟩
      have hli := PySem.F.called_set.init.lookup
      have hbi := PySem.F.called_set.init.bind (.ref s.heap.objs.size)
      repeat (any_goals (first | assumption | wp_step))
      refine codeAny_mono (codeAny_call_builtin (R := wants (fun r s₂ => r = .none ∧ ∃ h' tk es, s₂ = { s with heap := h', toks := tk } ∧
          SetQ prog w h' s.heap.objs.size es ∧ Holds prog w es ns ∧ es.size ≤ ns.length ∧
          (∀ b o, s.heap.get? b = some o → h'.get? b = some o)) E) PySem.F.called_set.init.plain PySem.F.entry_set_init (check_set_init_1 hT ?_)) fun r₂ s₂ hr₂ => ?_
      · obtain ⟨ol, hol, hcl, nl, hdl⟩ := hl
        obtain ⟨ocls, odict, odata, oslots⟩ := ol
        simp only at hcl hdl
        subst hcl; subst hdl
        have hol' : (s.heap.push { cls := .type "set", dict := none, data := .set #[] 0 (.fresh 0 0 (!byTextOf w)) }).get? l = some { cls := .type "list", dict := odict, data := .seq items nl, slots := oslots } := Heap.get?_push_of_some _ hol
        have hsls := PySem.F.sub_list_set
        have hslf := PySem.F.sub_list_frozenset
        have hne : (Value.type "list" == Value.type "dict") = false := by decide
        have hl1 : (s.heap.push { cls := .type "set", dict := none, data := .set #[] 0 (.fresh 0 0 (!byTextOf w)) }).IsList l items := ⟨_, hol', rfl, nl, rfl⟩
        unfold Builtin.«set.__init__» noKeywords Builtin.Frozenset.updateFrom
        generalize hPI : pyIter = PI
        wp_walk
        subst hPI
        refine wpAny_pyIter_list hl1 ?_
        refine wpAny_bind (wpAny_runValue ?_)
        have hlS : l < s.heap.objs.size := Heap.lt_size hol
        have hh3 : A.in1.in1.in1.handled = none := by simp [hh]
        have hneI : l ≠ (s.heap.push { cls := .type "set", dict := none, data := .set #[] 0 (.fresh 0 0 (!byTextOf w)) }).objs.size := by
          rw [Heap.size_push]; exact Nat.ne_of_lt (Nat.lt_succ_of_lt hlS)
        have hSf : s.heap.objs.size ∉ [(s.heap.push { cls := .type "set", dict := none, data := .set #[] 0 (.fresh 0 0 (!byTextOf w)) }).objs.size, l] := by
          rw [Heap.size_push]; simp only [List.mem_cons, List.not_mem_nil, or_false, not_or]
          exact ⟨Nat.ne_of_lt (Nat.lt_succ_self _), Nat.ne_of_gt hlS⟩
        have hval : ∀ (i : Nat) (v : Value), items[i]? = some v → ∃ t k, v = .int k t ∧ ns[i]? = some k := fun i v hv => by
          have hv' : items.toList[i]? = some v := by rw [Array.getElem?_toList]; exact hv
          obtain ⟨t, e⟩ := PyProof.Rows.IntsAre.int_at hi i v hv'
          have hil : i < ns.length := by rw [hlen]; exact (Array.getElem?_eq_some_iff.mp hv).1
          exact ⟨t, _, e, by simp [List.getD, List.getElem?_eq_getElem hil]⟩
        refine set_loop ((Walks.list hh3 _ l hneI items).toS) s.heap.objs.size hSf ns hlen hval hb (items.size - 0) 0 _ #[] (by omega) (Nat.zero_le _)
          ⟨⟨_, Heap.get?_push_size _ rfl, rfl, rfl⟩, (hl1.push _)⟩ ?hS0 (fun k => by simp) (Nat.le_refl _) ?hR
        case hS0 =>
          have hget : ((s.heap.push { cls := .type "set", dict := none, data := .set #[] 0 (.fresh 0 0 (!byTextOf w)) }).push { cls := .type "list_iterator", data := .fields #[.ref l, .int 0 0] }).get? s.heap.objs.size
              = some { cls := .type "set", dict := none, data := .set #[] 0 (.fresh 0 0 (!byTextOf w)) } := Heap.get?_push_of_some _ hS
          exact ⟨_, _, _, hget, ⟨rfl, rfl, rfl⟩, rfl, fun e he => by simp at he, by decide, by rfl, tblOk_fresh _⟩
        case hR =>
          intro s' es' hm hS' hH' hz'
          obtain ⟨h', g', d', tk', os'⟩ := s'
          have eg : g' = s.gens := hm.gens
          have ed : d' = s.drawn := hm.drawn
          have eo : os' = s.os := hm.os
          subst eg; subst ed; subst eo
          show wpAny _ _ _ _ _ _
          refine wpAny_pure ?_
          show wpAny _ _ (ret Value.none) _ _ _
          refine wpAny_pure ⟨rfl, h', tk', es', rfl, hS', hH', by rw [hlen]; exact hz', fun b o e => ?_⟩
          have hb := Heap.lt_size e
          have hb1 : b ≠ s.heap.objs.size := Nat.ne_of_lt hb
          have hb2 : b ≠ (s.heap.push { cls := .type "set", dict := none, data := .set #[] 0 (.fresh 0 0 (!byTextOf w)) }).objs.size := by
            rw [Heap.size_push]; exact Nat.ne_of_lt (Nat.lt_succ_of_lt hb)
          exact hm.heap b o (by simp only [List.mem_cons, List.not_mem_nil, or_false, not_or]; exact ⟨hb1, hb2⟩) (Heap.get?_push_of_some _ (Heap.get?_push_of_some _ e))
      · cases r₂ with
        | error e => exact hr₂
        | ok fl₂ =>
          cases fl₂ with
          | ret r =>
            obtain ⟨rfl, h', tk, es, rfl, hS', hH', hz', hk'⟩ := hr₂
            repeat (any_goals (first | assumption | wp_step))
            exact h _ _ _ hS' hH' hz' hk'
          | _ => exact hr₂.elim
    | _ => exact hr.elim
end
end Mine
end
section
open PySem PySem.W PyProof.Rows
namespace Mine
set_option maxRecDepth 100000

/-! ## walking a set of ints -/
theorem slot_seti_next : Slot "set_iterator" "__next__" "set_iterator.__next__" :=
  .of (owner := "set_iterator") (n := "__next__") (by rw [typeLookup_type, builtinLookup_eq_fast]; kernel_rfl) (by decide +kernel) (by decide +kernel) (by decide +kernel)
    (by first | exact .inl (by decide +kernel) | exact .inr (by decide +kernel)) (by rw [isSubtype_type]; kernel_rfl)
theorem entry_seti_next : entryFor table "set_iterator.__next__" = some Builtin.«set_iterator.__next__» := entryFor_of_tree (by kernel_rfl)
theorem args_seti_next (a : Value) : argsOk "set_iterator.__next__" ⟨[a], []⟩ := by unfold argsOk; kernel_rfl
theorem slot_seti_iter : Slot "set_iterator" "__iter__" "set_iterator.__iter__" :=
  .of (owner := "set_iterator") (n := "__iter__") (by rw [typeLookup_type, builtinLookup_eq_fast]; kernel_rfl) (by decide +kernel) (by decide +kernel) (by decide +kernel)
    (by first | exact .inl (by decide +kernel) | exact .inr (by decide +kernel)) (by rw [isSubtype_type]; kernel_rfl)
theorem entry_seti_iter : entryFor table "set_iterator.__iter__" = some Builtin.«dict_keyiterator.__iter__» :=
  entryFor_alias (id' := "dict_keyiterator.__iter__") (by kernel_rfl) rfl (by decide +kernel) (by kernel_rfl)
theorem args_seti_iter (a : Value) : argsOk "set_iterator.__iter__" ⟨[a], []⟩ := by unfold argsOk; kernel_rfl
theorem entry_set_iter : entryFor table "set.__iter__" = some Builtin.«frozenset.__iter__» :=
  entryFor_alias (id' := "frozenset.__iter__") (by kernel_rfl) rfl (by decide +kernel) (by kernel_rfl)

theorem perm_erase {α : Type} : ∀ {l : List α} {i : Nat} (h : i < l.length), (l[i] :: l.eraseIdx i).Perm l
  | [], _, h => absurd h (Nat.not_lt_zero _)
  | a :: r, 0, _ => by simp
  | a :: r, i + 1, h => by
    have ih := perm_erase (l := r) (i := i) (by simpa using h)
    simp only [List.getElem_cons_succ, List.eraseIdx_cons_succ]
    exact (List.Perm.swap _ _ _).trans (List.Perm.cons _ ih)

theorem pickOrder_go {α : Type} (next : Nat → Nat) : ∀ (fuel k : Nat) (left : List α) (out : Array α), left.length = fuel → (pickOrder.go next fuel k left out).toList.Perm (out.toList ++ left)
  | 0, k, left, out, h => by
    have : left = [] := List.eq_nil_of_length_eq_zero h
    subst this
    simp [pickOrder.go]
  | fuel + 1, k, left, out, h => by
    simp only [pickOrder.go]
    have hlt : next k % left.length < left.length := Nat.mod_lt _ (by omega)
    rw [List.getElem?_eq_getElem hlt]
    dsimp only
    refine (pickOrder_go next fuel (k + 1) _ _ (by rw [List.length_eraseIdx_of_lt hlt]; omega)).trans ?_
    rw [Array.toList_push, List.append_assoc]
    exact List.Perm.append_left _ (perm_erase hlt)
theorem pickOrder_perm {α : Type} (next : Nat → Nat) (xs : Array α) : (pickOrder next xs).toList.Perm xs.toList := by
  unfold pickOrder
  exact (pickOrder_go next xs.size 0 xs.toList #[] (by simp)).trans (by simp)

section
variable {prog : Program} {w : World} {A : Around} {E : Value → Shared → Prop} {s : Shared}

theorem byText_is {Q : Bool → Shared → Prop} (h : Q (byTextOf w) s) : wpAny (model prog w) A setsByText Q E s := by
  unfold setsByText
  exact wpAny_bind (ask_is (wpAny_pure h))

theorem choose_is {n : Nat} {src : Source} {Q : Nat → Shared → Prop} (hn : 0 < n) (h : ∀ i dr, i < n → Q i { s with drawn := dr }) : wpAny (model prog w) A (choose src n) Q E s := fun Γ p _ => by
  unfold choose
  rw [Sem.wp_choose]
  exact ⟨by omega, h _ _ (Nat.mod_lt _ hn)⟩

theorem drawOrder_is {α : Type} : ∀ (n : Nat) (xs : List α) {s : Shared} {Q : List α → Shared → Prop}, xs.length = n → (∀ ys dr, ys.Perm xs → Q ys { s with drawn := dr }) → wpAny (model prog w) A (drawOrder n xs) Q E s
  | 0, xs, s, Q, h, hQ => by
    have : xs = [] := List.eq_nil_of_length_eq_zero h
    subst this
    exact wpAny_pure (hQ [] s.drawn .rfl)
  | n + 1, [], s, Q, h, hQ => by cases h
  | n + 1, x :: xs, s, Q, h, hQ => by
    unfold drawOrder
    refine wpAny_bind (choose_is (by simp) fun i dr hi => ?_)
    rw [List.getElem?_eq_getElem hi]
    dsimp only
    refine wpAny_bind (drawOrder_is n _ (by rw [List.length_eraseIdx_of_lt hi]; omega) fun ys dr' hp => wpAny_pure ?_)
    exact hQ _ _ ((List.Perm.cons _ hp).trans (perm_erase hi))

def SetIt (h : Heap) (I : Addr) (first : Value) (i : Nat) (S : Addr) (n ep : Nat) : Prop := ∃ o, h.get? I = some o ∧ o.cls = .type "set_iterator" ∧ o.data = .fields #[first, .int i 0, .ref S, .int n 0, .int ep 0]
theorem SetIt.typeIs {s : Shared} {I : Addr} {first : Value} {i : Nat} {S : Addr} {n ep : Nat} (x : SetIt s.heap I first i S n ep) : s.TypeIs (.ref I) "set_iterator" := let ⟨o, ho, hc, _⟩ := x; ⟨o, ho, hc⟩
theorem SetIt.at {h h' : Heap} {I : Addr} {first : Value} {i : Nat} {S : Addr} {n ep : Nat} (x : SetIt h I first i S n ep) (k : ∀ o, h.get? I = some o → h'.get? I = some o) : SetIt h' I first i S n ep := let ⟨o, ho, r⟩ := x; ⟨o, k o ho, r⟩

/-- the set stands: its entries, its count of changes, its table -/
structure SetS (prog : Program) (w : World) (h : Heap) (S : Addr) (es : Array (Int × Value)) (ep : Nat) (t : SetTable) : Prop where
  obj : ∃ o, h.get? S = some o ∧ o.cls = .type "set" ∧ o.data = .set es ep t
  fits : t.fits es.size = true
  led : t.led = !byTextOf w
  rises : Rises t.place
theorem SetS.at {h h' : Heap} {S : Addr} {es : Array (Int × Value)} {ep : Nat} {t : SetTable} (x : SetS prog w h S es ep t) (k : ∀ o, h.get? S = some o → h'.get? S = some o) : SetS prog w h' S es ep t :=
  ⟨let ⟨o, ho, r⟩ := x.obj; ⟨o, k o ho, r⟩, x.fits, x.led, x.rises⟩
theorem SetQ.stands {h : Heap} {S : Addr} {es : Array (Int × Value)} (x : SetQ prog w h S es) : ∃ ep t, SetS prog w h S es ep t := by
  obtain ⟨o, ep, t, ho, hex, hd, _, _, hf, ht⟩ := x
  exact ⟨ep, t, ⟨o, ho, hex.1, hd⟩, hf, ht.1, ht.2⟩

theorem state_is {S : Addr} {es : Array (Int × Value)} {ep : Nat} {t : SetTable} {Q : (Array (Int × Value) × Nat × SetTable) → Shared → Prop} (x : SetS prog w s.heap S es ep t) (h : Q (es, ep, t) s) : wpAny (model prog w) A (setState S) Q E s := by
  obtain ⟨o, ho, _, hd⟩ := x.obj
  exact wpAny_setState_of ho hd x.fits h

/-- the way of a walk: what stands in the iterator's first field, and what comes out -/
inductive Way (prog : Program) (w : World) (S : Addr) (es : Array (Int × Value)) (ep : Nat) (t : SetTable) : (Nat → Value) → List Value → (Heap → Prop) → Prop
  | text : byTextOf w = true → Way prog w S es ep t (fun _ => .int 0 0) ((pickOrder (w.params.setOrder S ep) es).toList.map (·.2)) (fun _ => True)
  | places : byTextOf w = false → (!t.plain && decide (es.size > 1)) = false → Way prog w S es ep t (fun i => .int ((if i = 0 then 0 else t.place.getD (i - 1) 0 + 1 : Nat) : Int) 0) (es.toList.map (·.2)) (fun _ => True)
  | drawn (T : Addr) (ord : List Nat) : byTextOf w = false → ord.Perm (List.range es.size) → Way prog w S es ep t (fun _ => .ref T) (ord.map fun j => (es.getD j (0, .none)).2) (fun h => h.IsTuple T (ord.map fun (i : Nat) => rawInt i).toArray)

theorem Way.length {S : Addr} {es : Array (Int × Value)} {ep : Nat} {t : SetTable} {fst : Nat → Value} {out : List Value} {Ex : Heap → Prop} (W : Way prog w S es ep t fst out Ex) : out.length = es.size := by
  cases W with
  | text _ => rw [List.length_map, (pickOrder_perm _ _).length_eq]; simp
  | places _ _ => simp
  | drawn T ord _ hp => rw [List.length_map, hp.length_eq]; simp
theorem Way.perm {S : Addr} {es : Array (Int × Value)} {ep : Nat} {t : SetTable} {fst : Nat → Value} {out : List Value} {Ex : Heap → Prop} (W : Way prog w S es ep t fst out Ex) : out.Perm (es.toList.map (·.2)) := by
  cases W with
  | text _ => exact (pickOrder_perm _ _).map _
  | places _ _ => exact .rfl
  | drawn T ord _ hp =>
    refine (hp.map _).trans (List.Perm.of_eq ?_)
    apply List.ext_getElem
    · simp
    · intro i h1 h2
      simp only [List.length_map, List.length_range] at h1
      simp [Array.getD, h1]
end
end Mine
end
section
open PySem PySem.W PyProof.Rows
namespace Mine
set_option maxRecDepth 100000
set_option linter.unusedSimpArgs false
section
variable {prog : Program} {w : World} {A : Around} {E : Value → Shared → Prop} {s : Shared}

theorem below_slot {xs : Array Nat} (hR : Rises xs) {i : Nat} (hi : i ≤ xs.size) : SetTable.below xs (if i = 0 then 0 else xs.getD (i - 1) 0 + 1) = i := by
  obtain ⟨h0, h1, h2⟩ := below_spec hR (if i = 0 then 0 else xs.getD (i - 1) 0 + 1)
  generalize hp : SetTable.below xs (if i = 0 then 0 else xs.getD (i - 1) 0 + 1) = p at h0 h1 h2 ⊢
  rcases Nat.lt_trichotomy p i with h | h | h
  · exfalso
    have hi0 : i ≠ 0 := by omega
    simp only [hi0, if_false] at h2
    have hlt : i - 1 < xs.size := by omega
    have := h2 (i - 1) _ (Array.getElem?_eq_getElem hlt) (by omega)
    simp [Array.getD, hlt] at this
    omega
  · exact h
  · exfalso
    have hlt : i < xs.size := by omega
    have h3 := h1 i _ (Array.getElem?_eq_getElem hlt) h
    by_cases hi0 : i = 0
    · subst hi0; simp at h3
    · simp only [hi0, if_false] at h3
      have hlt' : i - 1 < xs.size := by omega
      have h4 := hR (i - 1) i _ _ (by omega) (Array.getElem?_eq_getElem hlt') (Array.getElem?_eq_getElem hlt)
      simp [Array.getD, hlt'] at h3
      omega

theorem next_text {S : Addr} {es : Array (Int × Value)} {ep : Nat} {t : SetTable} {slot i : Nat} {Q : Option (Value × Nat) → Shared → Prop} (hb : byTextOf w = true) (x : SetS prog w s.heap S es ep t)
    (h : Q (((pickOrder (w.params.setOrder S ep) es)[i]?).map fun e => (e.2, slot)) s) : wpAny (model prog w) A (setNext S slot i ep) Q E s := by
  unfold setNext
  refine wpAny_bind (state_is x ?_)
  dsimp only
  refine wpAny_bind (byText_is ?_)
  rw [hb]
  simp only [if_true, bne_self_eq_false, Bool.false_eq_true, if_false]
  refine wpAny_bind ?_
  unfold setWalk
  refine wpAny_bind (state_is x ?_)
  dsimp only
  refine wpAny_bind (byText_is ?_)
  rw [hb]
  simp only [if_true]
  exact wpAny_bind (ask_is (wpAny_pure (wpAny_pure h)))

theorem next_places {S : Addr} {es : Array (Int × Value)} {ep : Nat} {t : SetTable} {slot i : Nat} {Q : Option (Value × Nat) → Shared → Prop} (hb : byTextOf w = false) (hdr : (!t.plain && decide (es.size > 1)) = false) (x : SetS prog w s.heap S es ep t)
    (h : Q (match es[SetTable.below t.place slot]?, t.place[SetTable.below t.place slot]? with | some (_, x), some j => some (x, j + 1) | _, _ => none) s) : wpAny (model prog w) A (setNext S slot i ep) Q E s := by
  unfold setNext
  refine wpAny_bind (state_is x ?_)
  dsimp only
  refine wpAny_bind (byText_is ?_)
  rw [hb]
  simp only [Bool.false_eq_true, if_false]
  rw [if_neg]
  rotate_left
  · exact fun q => Bool.false_ne_true (hdr.symm.trans q)
  have hled : t.led = true := by rw [x.led, hb]; rfl
  refine wpAny_bind ?_
  obtain ⟨f1, f2, f3, f4, f5, f6, f7⟩ := t
  dsimp only at hled
  subst hled
  refine wpAny_of_eq (a := ()) rfl ?_
  exact wpAny_pure h

theorem next_drawn {S : Addr} {es : Array (Int × Value)} {ep : Nat} {t : SetTable} {place : Nat} {y : Int × Value} {Q : Value → Shared → Prop} (x : SetS prog w s.heap S es ep t) (hy : es[place]? = some y)
    (h : Q y.2 s) : wpAny (model prog w) A (setNextDrawn S place ep) Q E s := by
  unfold setNextDrawn
  refine wpAny_bind (state_is x ?_)
  dsimp only
  simp only [bne_self_eq_false, Bool.false_eq_true, if_false]
  rw [hy]
  exact wpAny_pure h

theorem setIt_upd {h : Heap} {I : Addr} {o : Obj} {first first' : Value} {i i' : Nat} {S : Addr} {n ep : Nat} {f : Array Value → Array Value} (ho : h.get? I = some o) (hc : o.cls = .type "set_iterator") (hd : o.data = .fields #[first, .int i 0, .ref S, .int n 0, .int ep 0])
    (hf : f #[first, .int i 0, .ref S, .int n 0, .int ep 0] = #[first', .int i' 0, .ref S, .int n 0, .int ep 0]) : SetIt (h.update I (Obj.mapFields f)) I first' i' S n ep :=
  ⟨_, Heap.get?_update_self _ ho (Obj.isFreed_of_fields (Obj.data_mapFields hd _)), (Obj.cls_mapFields ..).trans hc, by rw [Obj.data_mapFields hd, hf]⟩

theorem entries_is {S : Addr} {es : Array (Int × Value)} {ep : Nat} {t : SetTable} {Q : Array (Int × Value) → Shared → Prop} (x : SetS prog w s.heap S es ep t) (h : Q es s) : wpAny (model prog w) A (setEntries S) Q E s := by
  unfold setEntries
  exact wpAny_bind (state_is x (wpAny_pure h))

set_option maxHeartbeats 1000000 in
theorem seti_item {I S : Addr} {es : Array (Int × Value)} {ep : Nat} {t : SetTable} {fst : Nat → Value} {out : List Value} {Ex : Heap → Prop} {i : Nat} {Q : Option Value → Shared → Prop} (W : Way prog w S es ep t fst out Ex) (x : SetS prog w s.heap S es ep t)
    (hx : Ex s.heap) (hit : SetIt s.heap I (fst i) i S es.size ep) (hi : i < es.size)
    (hQ : ∀ v h', out[i]? = some v → SetIt h' I (fst (i + 1)) (i + 1) S es.size ep → Heap.SameBut I s.heap h' → Q (some v) { s with heap := h' }) : wpAny (model prog w) A (pyNext (.ref I)) Q E s := by
  obtain ⟨o, ho, hc, hd⟩ := id hit
  have hlen := W.length
  unfold pyNext
  refine wpAny_bind (wpAny_attempt (wpAny_callSpecial?_slot (name := Str.ofString "__next__") hit.typeIs slot_seti_next
    (wpAny_call_entry slot_seti_next hit.typeIs entry_seti_next ?_ (args_seti_next _))))
  unfold Builtin.«set_iterator.__next__»
  refine wpAny_bind (wpAny_pure ?_)
  refine wpAny_bind (wpAny_fieldsOf ho hd ?_)
  dsimp only
  refine wpAny_bind (entries_is x ?_)
  rw [if_neg (by simp)]
  cases W with
  | text hb =>
    dsimp only
    simp only [Int.toNat_natCast]
    refine wpAny_bind (next_text hb x ?_)
    have hsz : (pickOrder (w.params.setOrder S ep) es).size = es.size := by have := (pickOrder_perm (w.params.setOrder S ep) es).length_eq; simpa using this
    rw [Array.getElem?_eq_getElem (by omega)]
    dsimp only [Option.map_some]
    refine wpAny_bind (wpAny_setField ho hd (by simp) ?_)
    obtain ⟨o2, ho2, hc2, hd2⟩ := setIt_upd (i' := i) (first' := .int 0 0) (f := (·.setIfInBounds 0 (rawInt ((0 : Nat) : Int)))) ho hc hd (by simp [rawInt])
    refine wpAny_bind (wpAny_setField ho2 hd2 (by simp) (wpAny_pure ⟨_, rfl, wpAny_pure (hQ _ _ ?_ (setIt_upd (i' := i + 1) (first' := .int 0 0) ho2 hc2 hd2 (by simp [rawInt])) ((Heap.SameBut.update ..).trans (Heap.SameBut.update ..)))⟩))
    simp [List.getElem?_map, Array.getElem?_toList, hsz, hi]
  | places hb hdr =>
    dsimp only
    simp only [Int.toNat_natCast]
    refine wpAny_bind (next_places hb hdr x ?_)
    have hps : t.place.size = es.size := by have := x.fits; simp only [SetTable.fits, Bool.and_eq_true, beq_iff_eq] at this; exact this.1
    rw [below_slot x.rises (by omega), Array.getElem?_eq_getElem hi, Array.getElem?_eq_getElem (by omega)]
    dsimp only
    refine wpAny_bind (wpAny_setField ho hd (by simp) ?_)
    obtain ⟨o2, ho2, hc2, hd2⟩ := setIt_upd (i' := i) (first' := .int ((t.place[i]'(by omega) + 1 : Nat) : Int) 0) (f := (·.setIfInBounds 0 (rawInt ((t.place[i]'(by omega) + 1 : Nat) : Int)))) ho hc hd (by simp [rawInt])
    refine wpAny_bind (wpAny_setField ho2 hd2 (by simp) (wpAny_pure ⟨_, rfl, wpAny_pure (hQ _ _ ?_ (setIt_upd (i' := i + 1) ho2 hc2 hd2 (by simp [rawInt, Array.getD, hps, hi])) ((Heap.SameBut.update ..).trans (Heap.SameBut.update ..)))⟩))
    simp [hi]
  | drawn T ord hb hp =>
    dsimp only
    obtain ⟨oT, hoT, hcT, nT, hdT⟩ := id hx
    refine wpAny_bind (wpAny_seqItems hoT hdT ?_)
    have hol : ord.length = es.size := by have := hp.length_eq; simpa using this
    have hlt : i < ord.length := by omega
    have hin : ord[i] < es.size := by have := hp.mem_iff.mp (List.getElem_mem hlt); simpa using this
    dsimp only
    rw [show ((ord.map fun (i : Nat) => rawInt i).toArray)[((i : Int)).toNat]? = some (rawInt ord[i]) from by simp [hlt]]
    simp only [rawInt, Int.toNat_natCast]
    refine wpAny_bind (next_drawn x (Array.getElem?_eq_getElem hin) ?_)
    refine wpAny_bind (wpAny_setField ho hd (by simp) (wpAny_pure ⟨_, rfl, wpAny_pure (hQ _ _ ?_ (setIt_upd (i' := i + 1) (first' := .ref T) ho hc hd (by simp)) (Heap.SameBut.update ..))⟩))
    simp [hlt, Array.getD, hin]

theorem stop_is {Q : Option Value → Shared → Prop} (hh : A.handled = none) (hQ : ∀ h', (∀ b o, s.heap.get? b = some o → h'.get? b = some o) → Q none { s with heap := h' }) :
    wpAny (model prog w) A (newExc (.type "StopIteration") [] >>= fun e => (raiseNew e : Sem Fin)) (fun _ _ => False)
      (fun e s' => wpAny (model prog w) A (isInstance e (.type "StopIteration")) (fun b s'' => b = true ∧ Q none s'') E s') s := by
  refine wpAny_bind ?_
  simp only [newExc, newTuple]
  refine wpAny_bind (wpAny_newObj_type ?_ (by size_fits))
  refine wpAny_bind (m := firstArgMember _ _) (wpAny_of_eq (a := Value.none) (by first | rfl | (simp only [firstArgMember]; rfl)) ?_)
  refine wpAny_newObj_type ?_ (by size_fits)
  simp only [raiseNew]
  refine wpAny_bind (wpAny_handled ?_)
  rw [hh]
  refine wpAny_bind (wpAny_pure (wpAny_throw ?_))
  refine wpAny_isInstance (T := "StopIteration") (b := true) ⟨_, Heap.get?_push_size _ rfl, rfl⟩ isSubtype_stop ⟨rfl, hQ _ fun b o e => ?_⟩
  exact Heap.get?_push_of_some _ (Heap.get?_push_of_some _ e)

set_option maxHeartbeats 1000000 in
theorem seti_done {I S : Addr} {es : Array (Int × Value)} {ep : Nat} {t : SetTable} {fst : Nat → Value} {out : List Value} {Ex : Heap → Prop} {Q : Option Value → Shared → Prop} (hh : A.handled = none) (W : Way prog w S es ep t fst out Ex) (x : SetS prog w s.heap S es ep t)
    (hx : Ex s.heap) (hit : SetIt s.heap I (fst es.size) es.size S es.size ep)
    (hQ : ∀ h', Heap.ExtBut I s.heap h' → Q none { s with heap := h' }) : wpAny (model prog w) A (pyNext (.ref I)) Q E s := by
  obtain ⟨o, ho, hc, hd⟩ := id hit
  have hlen := W.length
  unfold pyNext
  refine wpAny_bind (wpAny_attempt (wpAny_callSpecial?_slot (name := Str.ofString "__next__") hit.typeIs slot_seti_next
    (wpAny_call_entry slot_seti_next hit.typeIs entry_seti_next ?_ (args_seti_next _))))
  unfold Builtin.«set_iterator.__next__»
  refine wpAny_bind (wpAny_pure ?_)
  refine wpAny_bind (wpAny_fieldsOf ho hd ?_)
  dsimp only
  refine wpAny_bind (entries_is x ?_)
  rw [if_neg (by simp)]
  have fin : ∀ h₁, Heap.ExtBut I s.heap h₁ → wpAny (model prog w) A.in1 (newExc (.type "StopIteration") [] >>= fun e => (raiseNew e : Sem Fin))
      (fun fin s' => ∃ v, fin = .done (.ret v) ∧ wpAny (model prog w) A (pure (some v)) Q E s')
      (fun e s' => wpAny (model prog w) A (do if ← isInstance e (.type "StopIteration") then pure none else throw e) Q E s') { s with heap := h₁ } := by
    intro h₁ he₁
    refine wpAny_mono (stop_is (A := A.in1) (E := E) (Q := Q) hh fun h' hk => hQ h' fun b o hb e => hk b o (he₁ b o hb e)) (fun _ _ f => f.elim) fun e s' hE => ?_
    refine wpAny_bind (wpAny_mono (wpAny_of_in1 hE) (fun b s'' hb => ?_) fun _ _ z => z)
    obtain ⟨rfl, hq⟩ := hb
    exact wpAny_pure hq
  cases W with
  | text hb =>
    dsimp only
    simp only [Int.toNat_natCast]
    refine wpAny_bind (next_text hb x ?_)
    have hsz : (pickOrder (w.params.setOrder S ep) es).size = es.size := by have := (pickOrder_perm (w.params.setOrder S ep) es).length_eq; simpa using this
    rw [Array.getElem?_eq_none (by omega)]
    dsimp only [Option.map_none]
    refine wpAny_bind (wpAny_setField ho hd (by simp) ?_)
    exact fin _ (Heap.SameBut.update ..).extBut
  | places hb hdr =>
    dsimp only
    simp only [Int.toNat_natCast]
    refine wpAny_bind (next_places hb hdr x ?_)
    have hps : t.place.size = es.size := by have := x.fits; simp only [SetTable.fits, Bool.and_eq_true, beq_iff_eq] at this; exact this.1
    rw [below_slot x.rises (by omega), Array.getElem?_eq_none (Nat.le_refl _)]
    dsimp only
    refine wpAny_bind (wpAny_setField ho hd (by simp) ?_)
    exact fin _ (Heap.SameBut.update ..).extBut
  | drawn T ord hb hp =>
    dsimp only
    obtain ⟨oT, hoT, hcT, nT, hdT⟩ := id hx
    refine wpAny_bind (wpAny_seqItems hoT hdT ?_)
    have hol : ord.length = es.size := by have := hp.length_eq; simpa using this
    dsimp only
    rw [show ((ord.map fun (i : Nat) => rawInt i).toArray)[((es.size : Int)).toNat]? = none from by simp [hol]]
    dsimp only
    refine wpAny_bind (wpAny_setField ho hd (by simp) ?_)
    have ho2 := Heap.get?_update_self (Obj.mapFields (·.setIfInBounds 0 (rawInt 0))) ho (Obj.isFreed_of_fields (Obj.data_mapFields hd _))
    refine wpAny_bind (wpAny_setField ho2 (Obj.data_mapFields hd _) (by simp) ?_)
    exact fin _ ((Heap.SameBut.update ..).trans (Heap.SameBut.update ..)).extBut

/-- the walk over a set of ints -/
theorem seti_walks {I S : Addr} {es : Array (Int × Value)} {ep : Nat} {t : SetTable} {fst : Nat → Value} {out : List Value} {Ex : Heap → Prop} (fp : List Addr) (hh : A.handled = none) (W : Way prog w S es ep t fst out Ex) (hIS : S ≠ I) (hfI : I ∈ fp) (hfS : S ∈ fp)
    (hEx : ∀ h h' : Heap, Ex h → (∀ b ∈ fp, b ≠ I → ∀ o, h.get? b = some o → h'.get? b = some o) → Ex h') :
    Walks prog w A I fp [I] es.size (fun i v => out[i]? = some v) (fun i h => SetS prog w h S es ep t ∧ Ex h ∧ SetIt h I (fst i) i S es.size ep) where
  sub := fun b hb => by rw [List.mem_singleton.mp hb]; exact hfI
  frame := fun i h h' st hk => ⟨st.1.at fun o e => hk S hfS o e, hEx h h' st.2.1 fun b hb _ o e => hk b hb o e, st.2.2.at fun o e => hk I hfI o e⟩
  item := fun i s Q E hi st hQ => by
    refine seti_item W st.1 st.2.1 st.2.2 hi fun v h' hv hit' hs' => ?_
    exact hQ v h' s.toks hv ⟨st.1.at fun o e => hs'.extBut S o hIS e, hEx _ _ st.2.1 fun b _ hb o e => hs'.extBut b o hb e, hit'⟩ fun b o hb e => hs'.extBut b o (fun h => hb (by simp [h])) e
  done := fun s Q E st hQ => seti_done hh W st.1 st.2.1 st.2.2 fun h' he => hQ h' s.toks fun b o hb e => he b o (fun h => hb (by simp [h])) e
  self := fun i s Q E st hQ => by
    refine wpAny_pyIter_slot st.2.2.typeIs slot_seti_iter (wpAny_call_entry slot_seti_iter st.2.2.typeIs entry_seti_iter ?_ (args_seti_iter _))
    show wpAny _ _ (ret (.ref I)) _ _ s
    exact wpAny_pure ⟨_, rfl, "set_iterator", _, st.2.2.typeIs, slot_seti_next.lookup, hQ⟩
end
end Mine
end
section
open PySem PySem.W PyProof.Rows
namespace Mine
set_option maxRecDepth 100000
set_option linter.unusedSimpArgs false
section
variable {prog : Program} {w : World} {A : Around} {E : Value → Shared → Prop} {s : Shared}

theorem itePos {α : Type} {M : Model} {c : Prop} [Decidable c] {a b : Sem α} {Q : α → Shared → Prop} (hc : c) (h : wpAny M A a Q E s) : wpAny M A (if c then a else b) Q E s := by rw [if_pos hc]; exact h

/-- iter(S), S a set of ints -/
theorem iter_set {S : Addr} {es : Array (Int × Value)} {ep : Nat} {t : SetTable} {Q : Value → Shared → Prop} (x : SetS prog w s.heap S es ep t) (hsz : es.size ≤ 1000)
    (hQ : ∀ h' dr I fst out Ex (fp : List Addr), Way prog w S es ep t fst out Ex → SetIt h' I (fst 0) 0 S es.size ep → Ex h' → (∀ b o, s.heap.get? b = some o → h'.get? b = some o) → s.heap.get? I = none → I ∈ fp → S ∈ fp → (∀ b ∈ fp, b = S ∨ s.heap.get? b = none) →
      (∀ h h' : Heap, Ex h → (∀ b ∈ fp, b ≠ I → ∀ o, h.get? b = some o → h'.get? b = some o) → Ex h') → Q (.ref I) { s with heap := h', drawn := dr }) :
    wpAny (model prog w) A (pyIter (.ref S)) Q E s := by
  obtain ⟨o, ho, hc, hd⟩ := x.obj
  have hT : s.TypeIs (.ref S) "set" := ⟨o, ho, hc⟩
  have hlt : S < s.heap.objs.size := Heap.lt_size ho
  refine wpAny_pyIter_slot hT PySem.F.slot_set_iter (wpAny_call_entry PySem.F.slot_set_iter hT entry_set_iter ?_ (PySem.F.args_set_iter_1 _))
  unfold Builtin.«frozenset.__iter__»
  refine wpAny_bind (wpAny_pure ?_)
  refine wpAny_bind ?_
  unfold Builtin.Frozenset.sizeOf
  refine wpAny_bind (entries_is x (wpAny_pure ?_))
  unfold setDrawn
  refine wpAny_bind (wpAny_bind (state_is x ?_))
  dsimp only
  refine wpAny_bind (byText_is (wpAny_pure ?_))
  have fresh : ∀ a, s.heap.objs.size ≤ a → s.heap.get? a = none := fun a ha => by
    cases e : s.heap.get? a with
    | none => rfl
    | some o' => exact absurd (Heap.lt_size e) (Nat.not_lt.mpr ha)
  have fin : ∀ (h₁ : Heap) dr (first : Value), (∀ b o, s.heap.get? b = some o → h₁.get? b = some o) → (s.heap.get? h₁.objs.size = none → (h₁.push { cls := .type "set_iterator", data := .fields #[first, .int 0 0, .ref S, .int es.size 0, .int ep 0] }).get? h₁.objs.size = some { cls := .type "set_iterator", data := .fields #[first, .int 0 0, .ref S, .int es.size 0, .int ep 0] } →
      Q (.ref h₁.objs.size) { s with heap := h₁.push { cls := .type "set_iterator", data := .fields #[first, .int 0 0, .ref S, .int es.size 0, .int ep 0] }, drawn := dr }) →
      wpAny (model prog w) A.in1 (do ret (← newFields "set_iterator" [first, rawInt 0, .ref S, rawInt es.size, rawInt (← setEpoch S)])) (fun fin s' => ∃ v, fin = .done (.ret v) ∧ ∃ T' r, s'.TypeIs v T' ∧ typeLookup (.type T') "__next__" = pure (some r) ∧ Q v s') E { s with heap := h₁, drawn := dr } := by
    intro h₁ dr first hk hq
    have x₁ : SetS prog w h₁ S es ep t := x.at fun o e => hk S o e
    refine wpAny_bind ?_
    unfold setEpoch
    refine wpAny_bind (state_is (s := { s with heap := h₁, drawn := dr }) x₁ (wpAny_pure ?_))
    refine wpAny_bind (wpAny_newObj_type (wpAny_pure ⟨_, rfl, "set_iterator", _, ⟨_, Heap.get?_push_size _ rfl, rfl⟩, slot_seti_next.lookup, ?_⟩))
    refine hq ?_ (Heap.get?_push_size _ rfl)
    cases e : s.heap.get? h₁.objs.size with
    | none => rfl
    | some o' => exact absurd (Heap.lt_size (hk _ _ e)) (Nat.lt_irrefl _)
  by_cases hdr : (!byTextOf w && (!t.plain && decide (es.size > 1))) = true
  · rw [if_pos]
    rotate_left
    · exact hdr
    have hb : byTextOf w = false := by
      cases h : byTextOf w with
      | false => rfl
      | true => rw [h] at hdr; simp at hdr
    refine wpAny_bind (drawOrder_is es.size (List.range es.size) (by simp) fun ys dr hp => ?_)
    have hyl : ys.length = es.size := by have := hp.length_eq; simpa using this
    refine wpAny_bind (wpAny_newObj_type ?_ (by show (ys.map fun (i : Nat) => rawInt i).toArray.size ≤ sizeLine; rw [List.size_toArray, List.length_map, sizeLine_eq]; omega))
    refine fin _ dr _ (fun b o e => Heap.get?_push_of_some _ e) fun hn hg => ?_
    refine hQ _ dr _ _ _ _ [s.heap.objs.size + 1, S, s.heap.objs.size] (.drawn s.heap.objs.size ys hb hp) ⟨_, hg, rfl, rfl⟩ ⟨_, Heap.get?_push_of_some _ (Heap.get?_push_size _ rfl), rfl, 0, rfl⟩ (fun b o e => Heap.get?_push_of_some _ (Heap.get?_push_of_some _ e)) hn (by rw [Heap.size_push]; simp) (by simp) ?_ ?_
    · intro b hb'
      rcases List.mem_cons.mp hb' with rfl | hb'
      · exact .inr (fresh _ (Nat.le_succ _))
      · rcases List.mem_cons.mp hb' with rfl | hb'
        · exact .inl rfl
        · rw [List.mem_singleton.mp hb']; exact .inr (fresh _ (Nat.le_refl _))
    · intro h h' hx hk
      obtain ⟨o1, ho1, r⟩ := hx
      exact ⟨o1, hk s.heap.objs.size (by simp) (by rw [Heap.size_push]; exact Nat.ne_of_lt (Nat.lt_succ_self _)) _ ho1, r⟩
  · rw [if_neg]
    rotate_left
    · exact hdr
    refine wpAny_bind (wpAny_pure ?_)
    have e0 : s = { s with heap := s.heap, drawn := s.drawn } := by cases s; rfl
    rw [e0]
    refine fin _ s.drawn _ (fun b o e => e) fun hn hg => ?_
    have hfp : ∀ b ∈ [s.heap.objs.size, S], b = S ∨ s.heap.get? b = none := by
      intro b hb'
      rcases List.mem_cons.mp hb' with rfl | hb'
      · exact .inr (fresh _ (Nat.le_refl _))
      · exact .inl (List.mem_singleton.mp hb')
    cases hb : byTextOf w with
    | true => exact hQ _ s.drawn _ _ _ _ [_, S] (.text hb) ⟨_, hg, rfl, rfl⟩ trivial (fun b o e => Heap.get?_push_of_some _ e) hn (by simp) (by simp) hfp fun _ _ _ _ => trivial
    | false => exact hQ _ s.drawn _ _ _ _ [_, S] (.places hb (by simpa [hb] using hdr)) ⟨_, hg, rfl, rfl⟩ trivial (fun b o e => Heap.get?_push_of_some _ e) hn (by simp) (by simp) hfp fun _ _ _ _ => trivial

theorem sub_set_set : isSubtype (.type "set") (.type "set") = pure true := sub_set_self

set_option maxHeartbeats 1000000 in
/-- the items of a set of ints, drawn into a list -/
theorem collect_set {S : Addr} {es : Array (Int × Value)} {Q : List Value → Shared → Prop} (hh : A.handled = none) (hq : SetQ prog w s.heap S es) (hsz : es.size ≤ 1000)
    (hQ : ∀ h' tk dr (out : List Value), out.Perm (es.toList.map (·.2)) → (∀ b o, s.heap.get? b = some o → h'.get? b = some o) → Q out { s with heap := h', toks := tk, drawn := dr }) :
    wpAny (model prog w) A (collect (.ref S)) Q E s := by
  obtain ⟨ep, t, x⟩ := hq.stands
  obtain ⟨o, ho, hc, hd⟩ := x.obj
  have hlt : S < s.heap.objs.size := Heap.lt_size ho
  unfold collect
  refine wpAny_bind (wpAny_runValue (codeAny_builtin PySem.F.entry_proto_collect ?_))
  rw [Around.under_plainId PySem.F.plain_proto_collect _]
  show wpAny _ A.in1 (newList [] >>= fun l => again (.builtin "list.__iadd__" ⟨[l, .ref S], []⟩)) _ _ s
  refine wpAny_bind (wpAny_newObj_type ?_)
  refine wpAny_pure ⟨plainId_quiet PySem.F.plain_list_iadd _, codeAny_builtin PySem.F.entry_list_iadd ?_⟩
  rw [Around.under_plainId PySem.F.plain_list_iadd _]
  show wpAny _ A.in1 (Builtin.List.listExtendWith (.ref s.heap.objs.size) (.ref S) (.ref s.heap.objs.size)) _ _ _
  unfold Builtin.List.listExtendWith
  have hT₁ : Shared.TypeIs { s with heap := s.heap.push { cls := .type "list", data := .seq ([] : List Value).toArray } } (.ref S) "set" := ⟨o, Heap.get?_push_of_some _ ho, hc⟩
  refine wpAny_bind (wpAny_typeOf hT₁ ?_)
  have hSI : s.heap.objs.size ≠ S := Nat.ne_of_gt hlt
  have h1 : Builtin.List.listSameRef (.ref s.heap.objs.size) (.ref S) = false := by simp [Builtin.List.listSameRef, hSI]
  have h2 : (Value.type "set" == Value.type "list") = false := by decide
  have h3 : (Value.type "set" == Value.type "tuple") = false := by decide
  simp only [h1, h2, h3, Bool.or_false, Bool.false_eq_true, if_false]
  have x₁ : SetS prog w (s.heap.push { cls := .type "list", data := .seq ([] : List Value).toArray }) S es ep t := x.at fun o e => Heap.get?_push_of_some _ e
  refine wpAny_bind (iter_set (s := { s with heap := s.heap.push { cls := .type "list", data := .seq ([] : List Value).toArray } }) x₁ hsz fun h' dr I fst out Ex fp W hit hx hk hI hfI hfS hfp hEx => ?_)
  refine wpAny_bind (wpAny_holding ?_)
  unfold Builtin.List.listLengthHint
  have hT₂ : Shared.TypeIs { s with heap := h', drawn := dr } (.ref S) "set" := ⟨o, hk _ _ (Heap.get?_push_of_some _ ho), hc⟩
  refine wpAny_bind (wpAny_specialOf hT₂ PySem.F.slot_set_len.lookup ?_)
  have hsp : splitId "set.__len__" = some ("set", "__len__") := by kernel_rfl
  simp only [hsp]
  refine wpAny_bind (wpAny_isInstance hT₂ sub_set_self ?_)
  simp only [Bool.not_true, Bool.false_eq_true, if_false]
  refine itePos (by decide) ?_
  refine wpAny_bind (wpAny_typeOf hT₂ (wpAny_pure ?_))
  refine itePos (by decide) ?_
  refine wpAny_bind (wpAny_rule ?_)
  have hS₁ : (s.heap.push { cls := .type "list", data := .seq ([] : List Value).toArray }).get? s.heap.objs.size = some { cls := .type "list", data := .seq ([] : List Value).toArray } := Heap.get?_push_size _ rfl
  have hS₁' := hk _ _ hS₁
  refine wpAny_bind ?_
  show wpAny _ A.in1 (updateSeq s.heap.objs.size (·.push .none) >>= fun _ => updateSeq s.heap.objs.size (·.pop)) _ _ _
  refine wpAny_bind (wpAny_updateSeq hS₁' rfl ?_)
  have hS₂ := Heap.get?_update_self (Obj.mapSeq (·.push Value.none)) hS₁' rfl
  refine wpAny_updateSeq hS₂ rfl ?_
  have hS₃ := Heap.get?_update_self (Obj.mapSeq (·.pop)) hS₂ rfl
  have oth : ∀ b o, b ≠ s.heap.objs.size → h'.get? b = some o → ((h'.update s.heap.objs.size (Obj.mapSeq (·.push Value.none))).update s.heap.objs.size (Obj.mapSeq (·.pop))).get? b = some o :=
    fun b o hb e => (Heap.get?_update_other _ _ (Ne.symm hb)).trans ((Heap.get?_update_other _ _ (Ne.symm hb)).trans e)
  have hIs : I ≠ s.heap.objs.size := fun e => by
    have hI' := hI
    rw [e] at hI'
    exact absurd (hI'.symm.trans hS₁) (by simp)
  have hDf : s.heap.objs.size ∉ fp := fun hm => by
    rcases hfp _ hm with e | e
    · exact hSI e
    · exact absurd (e.symm.trans hS₁) (by simp)
  have hSne : S ≠ I := fun e => by
    have h1 : (s.heap.push { cls := .type "list", data := .seq ([] : List Value).toArray }).get? S = some o := Heap.get?_push_of_some _ ho
    rw [e] at h1
    exact absurd (hI.symm.trans h1) (by simp)
  have WW := (seti_walks (A := A.in1) fp hh W hSne hfI hfS hEx).toS
  have x₃ : SetS prog w h' S es ep t := x₁.at fun o e => hk _ o e
  refine wpAny_pure ⟨plainId_quiet PySem.F.plain_extend_loop _, codeAny_extend_loopS WW (by rw [sizeLine_eq]; omega) s.heap.objs.size hDf _ es.size 0 _ _ _ rfl (Nat.zero_le _)
    (WW.frame 0 ({ s with heap := h', drawn := dr } : Shared) _ s.toks ⟨x₃, hx, hit⟩ (Nat.le_refl _) fun b hb o e => oth b o (fun h => hDf (h ▸ hb)) e) hS₃ (ItemsOf.nil _) fun s' acc' c' hm hS' hacc => ?_⟩
  show wpAny _ A (load s.heap.objs.size >>= _) _ _ s'
  refine wpAny_bind (wpAny_load hS' (wpAny_pure ?_))
  obtain ⟨h₄, g₄, d₄, tk₄, os₄⟩ := s'
  have eg : g₄ = s.gens := hm.gens
  have ed : d₄ = dr := hm.drawn
  have eo : os₄ = s.os := hm.os
  subst eg; subst ed; subst eo
  have hout : acc'.toList = out := by
    have hl := W.length
    apply List.ext_getElem?
    intro i
    by_cases hi : i < acc'.size
    · have h1 := hacc.2 i _ (Array.getElem?_eq_getElem hi)
      rw [h1, Array.getElem?_toList, Array.getElem?_eq_getElem hi]
    · rw [Array.getElem?_toList, Array.getElem?_eq_none (by omega), List.getElem?_eq_none (by rw [hl, ← hacc.1]; omega)]
  rw [hout]
  refine hQ h₄ tk₄ _ out W.perm fun b o e => ?_
  have hbD : b ≠ s.heap.objs.size := Nat.ne_of_lt (Heap.lt_size e)
  have hbI : b ≠ I := fun e' => by
    have h1 := Heap.get?_push_of_some { cls := .type "list", data := .seq ([] : List Value).toArray } e
    rw [e'] at h1
    exact absurd (hI.symm.trans h1) (by simp)
  exact hm.heap b o (by simp [hbD, hbI]) (oth b o hbD (hk b o (Heap.get?_push_of_some _ e)))

set_option maxHeartbeats 1000000 in
/-- sorted(S), S a set of ints, below 64 of them -/
theorem sorted_set {S : Addr} {es : Array (Int × Value)} {ns : List Int} {Q : Value → Shared → Prop} (hh : A.handled = none) (hq : SetQ prog w s.heap S es) (hH : Holds prog w es ns) (hsz : es.size < 64)
    (h : ∀ D h' tk dr (out : Array Value) (ls : List Int), h'.IsList D out → IntsAre out.toList ls → ls.Pairwise (· ≤ ·) → (∀ k, k ∈ ls ↔ k ∈ ns) → ls.length = es.size → s.heap.get? D = none → (∀ b o, s.heap.get? b = some o → h'.get? b = some o) → Q (.ref D) { s with heap := h', toks := tk, drawn := dr }) :
    wpAny (model prog w) A (call (.builtin "sorted") [.ref S]) Q E s := by
  obtain ⟨o, ep, t, ho, hex, hd, hel, _⟩ := id hq
  refine Calls.call_function_entry kind_sorted plain_sorted entry_sorted (args_sorted1 _) ?_
  unfold Builtin.«sorted»
  refine wpAny_bind (m := checkCount "sorted" 1 1 _) (wpAny_pure ?_)
  refine wpAny_bind (collect_set (A := A.in1) hh hq (by omega) fun h' tk dr out hp hk => ?_)
  have hol : out.length = es.size := by rw [hp.length_eq]; simp
  have hints : ∃ ks, IntsAre out ks ∧ ∀ k, k ∈ ks ↔ k ∈ ns := by
    have hall : ∀ v ∈ out, ∃ k u, v = .int k u := fun v hv => by
      obtain ⟨e, he, rfl⟩ := List.mem_map.mp (hp.mem_iff.mp hv)
      obtain ⟨⟨k, hk, _⟩, _⟩ := hel e he
      obtain ⟨u, hu⟩ := Value.isInt_shape hk
      exact ⟨k, u, hu⟩
    have gen : ∀ l : List Value, (∀ v ∈ l, ∃ k u, v = .int k u) → ∃ ks, IntsAre l ks ∧ ∀ k, k ∈ ks ↔ ∃ v ∈ l, (intKind prog w).is k v = true := by
      intro l
      induction l with
      | nil => intro _; exact ⟨[], .nil, fun k => by simp⟩
      | cons v r ih =>
        intro hv
        obtain ⟨k, u, rfl⟩ := hv v List.mem_cons_self
        obtain ⟨ks, h1, h2⟩ := ih fun v hv' => hv v (List.mem_cons_of_mem _ hv')
        refine ⟨k :: ks, .cons k u h1, fun k' => ?_⟩
        rw [List.mem_cons, h2 k']
        constructor
        · rintro (rfl | ⟨v, hv', e⟩)
          · exact ⟨_, List.mem_cons_self, intKind_is _ _ _ _⟩
          · exact ⟨v, List.mem_cons_of_mem _ hv', e⟩
        · rintro ⟨v, hv', e⟩
          rcases List.mem_cons.mp hv' with rfl | hv'
          · exact .inl ((intKind prog w).inj _ k' k e (intKind_is _ _ _ _))
          · exact .inr ⟨v, hv', e⟩
    obtain ⟨ks, h1, h2⟩ := gen out hall
    refine ⟨ks, h1, fun k => ?_⟩
    rw [h2, ← hH k]
    constructor
    · rintro ⟨v, hv, e⟩
      obtain ⟨e', he', rfl⟩ := List.mem_map.mp (hp.mem_iff.mp hv)
      exact ⟨e', he', e⟩
    · rintro ⟨e', he', e⟩
      exact ⟨_, hp.mem_iff.mpr (List.mem_map.mpr ⟨e', he', rfl⟩), e⟩
  obtain ⟨ks, hI, hks⟩ := hints
  refine wpAny_bind (wpAny_newList ?_ (by rw [sizeLine_eq]; omega))
  have hoL : (h'.push (seqObj "list" out.toArray 0)).get? h'.objs.size = some (seqObj "list" out.toArray 0) := Heap.get?_push_size _ rfl
  refine wpAny_bind (wpAny_holding (wpAny_call_entry slot_list_sort ⟨_, hoL, rfl⟩ entry_list_sort (list_sort_tree hoL hI (by omega) fun out' ns' a1 a2 a3 => ⟨_, rfl, ?_⟩) (args_list_sort _)))
  refine wpAny_pure ⟨_, rfl, ?_⟩
  obtain ⟨e9, he9⟩ := sortedHeap_at (out := out') hoL
  have hlen : ks.length = es.size := by rw [← hI.length]; exact hol
  refine h _ _ _ _ out' ns' ⟨_, he9, rfl, e9, rfl⟩ a1 a3 (fun k => (a2.mem_iff).trans (hks k)) (by rw [a2.length_eq, hlen]) ?_ fun b o e => ?_
  · cases e : s.heap.get? h'.objs.size with
    | none => rfl
    | some o' => exact absurd (Heap.lt_size (hk _ _ e)) (Nat.lt_irrefl _)
  · have hb := Heap.lt_size (hk _ _ e)
    show (sortedHeap (h'.push (seqObj "list" out.toArray 0)) h'.objs.size out out').get? b = some o
    rw [sortedHeap_old (Nat.ne_of_lt hb) (by rw [Heap.size_push]; exact Nat.lt_succ_of_lt hb)]
    exact Heap.get?_push_of_some _ (hk _ _ e)
end
end Mine
end
section
open PySem PySem.W PyProof.Rows
namespace Mine
set_option maxRecDepth 100000
set_option linter.unusedSimpArgs false
set_option linter.unusedVariables false

/-! ## plain data: what _law_told reckons -/
def wayN (p : Nat) : List Nat := if _h : p = 0 then [0] else wayN ((p - 1) / 2) ++ [p]
termination_by p
decreasing_by omega
def firstFree (T : Nat → Bool) (ws : List Nat) : Nat := (ws.filter fun a => !T a).headD 0
def takeStep (c : Int) (T : Nat → Bool) (x : Nat × Int) : Nat → Bool := if x.2 < c then (fun q => if q = firstFree T (wayN x.1) then true else T q) else T
def takenOf (c : Int) (ps : List (Nat × Int)) : Nat → Bool := ps.foldl (takeStep c) (fun _ => false)
def tellStep (T : Nat → Bool) (c : Int) (r : Row) (x : Nat × Int) : Row := if T x.1 = true then r else upd r x.1 (some c)
def tell (ps : List (Nat × Int)) (c : Int) (r : Row) : Row := ps.foldl (tellStep (takenOf c ps) c) r
def toldOf (ps : List (Nat × Int)) (ls : List Int) : Row := ls.foldl (fun r c => tell ps c r) (fun _ => none)

theorem wayN_ne (p : Nat) : wayN p ≠ [] := by rw [wayN]; split <;> simp
theorem wayN_last (p : Nat) : (wayN p).getLast? = some p := by
  rw [wayN]; split
  · rename_i h; subst h; rfl
  · simp
theorem wayN_le : ∀ (p : Nat), ∀ a ∈ wayN p, a ≤ p := by
  intro p
  induction p using Nat.strongRecOn with
  | ind p ih =>
    intro a ha
    rw [wayN] at ha
    split at ha
    · simp at ha; omega
    · rename_i h
      rcases List.mem_append.mp ha with h1 | h1
      · have := ih ((p - 1) / 2) (by omega) a h1; omega
      · simp at h1; omega
theorem wayN_length : ∀ (p : Nat), p < 63 → (wayN p).length ≤ 6 := by
  have step : ∀ p, p ≠ 0 → (wayN p).length = (wayN ((p - 1) / 2)).length + 1 := fun p hp => by rw [wayN, dif_neg hp]; simp
  have h0 : (wayN 0).length = 1 := by rw [wayN]; rfl
  have h1 : ∀ p, p < 3 → (wayN p).length ≤ 2 := fun p hp => by
    by_cases e : p = 0
    · subst e; omega
    · have e2 : (p - 1) / 2 = 0 := by omega
      rw [step p e, e2]; omega
  have h2 : ∀ p, p < 7 → (wayN p).length ≤ 3 := fun p hp => by
    by_cases e : p = 0
    · subst e; omega
    · have := h1 ((p - 1) / 2) (by omega); rw [step p e]; omega
  have h3 : ∀ p, p < 15 → (wayN p).length ≤ 4 := fun p hp => by
    by_cases e : p = 0
    · subst e; omega
    · have := h2 ((p - 1) / 2) (by omega); rw [step p e]; omega
  have h4 : ∀ p, p < 31 → (wayN p).length ≤ 5 := fun p hp => by
    by_cases e : p = 0
    · subst e; omega
    · have := h3 ((p - 1) / 2) (by omega); rw [step p e]; omega
  intro p hp
  by_cases e : p = 0
  · subst e; omega
  · have := h4 ((p - 1) / 2) (by omega); rw [step p e]; omega

def natInts (ns : List Nat) : List Int := ns.map fun (n : Nat) => (n : Int)
def BoolsAre (vs : Array Value) (T : Nat → Bool) : Prop := vs.size = 63 ∧ ∀ i, i < 63 → vs[i]? = some (.bool (T i))
theorem BoolsAre.set {vs : Array Value} {T : Nat → Bool} {p : Nat} {b : Bool} (h : BoolsAre vs T) : BoolsAre (vs.setIfInBounds p (.bool b)) (fun q => if q = p then b else T q) := by
  refine ⟨by simp [h.1], fun i hi => ?_⟩
  by_cases e : i = p
  · subst e; rw [Array.getElem?_setIfInBounds_self_of_lt (by rw [h.1]; exact hi)]; simp
  · rw [Array.getElem?_setIfInBounds_ne (by omega), h.2 i hi]; simp [e]

/-- what laid holds -/
structure LaidIs (h : Heap) (laid : Addr) (items : Array Value) (ps : List (Nat × Int)) : Prop where
  list : h.IsList laid items
  len : items.size = ps.length
  parts : ∀ (i : Nat) (x : Nat × Int), ps[i]? = some x → x.1 < 63 ∧ ∃ T W ws tv, items[i]? = some (Value.ref T) ∧ h.IsTuple T #[.ref W, .int x.2 tv] ∧ h.IsList W ws ∧ IntsAre ws.toList (natInts (wayN x.1))
theorem LaidIs.keeps {h h' : Heap} {laid : Addr} {items : Array Value} {ps : List (Nat × Int)} (x : LaidIs h laid items ps) (k : ∀ b o, h.get? b = some o → h'.get? b = some o) : LaidIs h' laid items ps :=
  ⟨x.list.at fun o e => k _ o e, x.len, fun i y hy => by
    obtain ⟨hp, T, W, ws, tv, a, b, c, d⟩ := x.parts i y hy
    exact ⟨hp, T, W, ws, tv, a, b.at fun o e => k _ o e, c.at fun o e => k _ o e, d⟩⟩

theorem IntsAre.filterN {T : Nat → Bool} : ∀ {vs : List Value} {ns : List Nat}, IntsAre vs (natInts ns) → IntsAre (vs.filter fun v => match v with | .int k _ => !T k.toNat | _ => false) (natInts (ns.filter fun a => !T a))
  | _, [], h => by cases h; exact .nil
  | _, n :: ns, h => by
    cases h with
    | cons _ t hr =>
      have ih := IntsAre.filterN (T := T) hr
      cases hT : T n with
      | true =>
        rw [List.filter_cons_of_neg (by simp [hT]), List.filter_cons_of_neg (by simp [hT])]; exact ih
      | false =>
        rw [List.filter_cons_of_pos (by simp [hT]), List.filter_cons_of_pos (by simp [hT])]; exact .cons _ t ih

section
variable {prog : Program} {w : World} {A : Around} {E : Value → Shared → Prop} {s : Shared}

theorem paired_eq {α : Type} : ∀ {l l' : List α}, Paired (fun v y => y = v) l l' → l' = l
  | _, _, .nil => rfl
  | _, _, .cons h r => by rw [h, paired_eq r]

/-- y = [x for x in ws if not tk[x]], tk a cell's list of bools -/
theorem comp_not {env : Env} {x y wn tn : Str} {pe px px2 pw pt ps pn py pos spos : Pos} {scope : Scope} {c W D : Addr} {ws vs : Array Value} {T : Nat → Bool} {ns : List Nat} {Q : Flow → Shared → Prop} (hh : A.handled = none)
    (hn : IsNs s.heap env.locals) (hw : Has s.heap env.locals wn (.ref W)) (hW : s.heap.IsList W ws) (hi : IntsAre ws.toList (natInts ns)) (hlt : ∀ n ∈ ns, n < 63) (hlen : ns.length ≤ 1000) (hc : s.heap.IsCell c (some (.ref D))) (hD : s.heap.IsList D vs) (hv : BoolsAre vs T)
    (h : ∀ F h' tk ys, h'.IsList F ys → IntsAre ys.toList (natInts (ns.filter fun a => !T a)) → s.heap.get? F = none → Has h' env.locals y (.ref F) → (∀ z u, ¬ z = y → Has s.heap env.locals z u → Has h' env.locals z u) → (∀ b o, b ≠ env.locals → s.heap.get? b = some o → h'.get? b = some o) → Q .next { s with heap := h', toks := tk })
    (hsw : swapsWith (.ListComp (.Name x pe) [⟨.Name x px, .Name wn pw, [.UnaryOp .Not (.Subscript (.Name tn pt) (.Name x px2) ps) pn], 0⟩] scope pos) (some (.Name y py)) spos.line env = pure true)
    (hclos : closureFor scope env = pure [(tn, c)]) (hcell : ∀ z ∈ scope.names, z.2 ≠ .cell := by decide) (hkind : scope.kind = .function := by rfl)
    (hnames : ∀ z ∈ scope.names, z.2 = .local → scope.names.lookup z.1 = some .local := by decide) (hx : scope.names.lookup x = some .local := by rfl)
    (hy : env.kindOf y = some .local := by rfl) (hp : (env.scope.kind == .class || (env.scope.kind == .module && env.locals != env.globals)) = false := by rfl)
    (hkw : env.kindOf wn = some .local := by rfl) (hek : env.scope.kind = .function := by rfl) (hdw : (wn == ("__debug__" : Str)) = false := by decide) (hdx : (x == ("__debug__" : Str)) = false := by decide) (hdt : (tn == ("__debug__" : Str)) = false := by decide)
    (hkt : ∀ C, (compEnvC scope [(tn, c)] C env).kindOf tn = some .cell := by intro _; rfl) :
    wpAny (model prog w) A (exec (.Assign [.Name y py] (.ListComp (.Name x pe) [⟨.Name x px, .Name wn pw, [.UnaryOp .Not (.Subscript (.Name tn pt) (.Name x px2) ps) pn], 0⟩] scope pos) spos) env) Q E s := by
  obtain ⟨oW, hoW, _⟩ := id hW
  obtain ⟨m, hm⟩ := id hn
  have hlen' : ws.size = ns.length := by have := hi.length; simpa [natInts] using this
  have hWI : W ≠ s.heap.objs.size := Nat.ne_of_lt (Heap.lt_size hoW)
  have hold : ∀ b o, s.heap.get? b = some o → b ≠ s.heap.objs.size := fun b o e => Nat.ne_of_lt (Heap.lt_size e)
  refine wpAny_Assign_ListComp_free (fun v => match v with | .int k _ => !T k.toNat | _ => false) (fun v y => y = v) hsw hclos hcell hkind hnames hx hy hp (ldH hw (wpAny_pyIter_list hW ?_) hek hkw hdw)
  have hkI : ∀ (s₃ : Shared), (∀ b o, b ∉ [s.heap.objs.size] → (s.heap.push { cls := .type "list_iterator", data := .fields #[.ref W, .int 0 0] }).get? b = some o → s₃.heap.get? b = some o) → ∀ b o, s.heap.get? b = some o → s₃.heap.get? b = some o :=
    fun s₃ hk b o e => hk b o (by simp; exact hold b o e) (Heap.get?_push_of_some _ e)
  refine ⟨_, _, _, _, _, _, m, rfl, Walks.list hh _ W hWI ws, by rw [hlen', sizeLine_eq]; omega, ⟨⟨_, Heap.get?_push_size _ rfl, rfl, rfl⟩, hW.push _⟩, ?_, ?_, hm.push _, ⟨?_, ?_⟩, ?_⟩
  · intro b hb
    rw [Heap.size_push]
    rcases List.mem_cons.mp hb with rfl | hb
    · exact Nat.lt_succ_self _
    · rw [List.mem_singleton.mp hb]; exact Nat.lt_succ_of_lt (Heap.lt_size hoW)
  · intro hb
    exact absurd hm.lt (by rw [List.mem_singleton.mp hb]; exact Nat.lt_irrefl _)
  · intro C i v s₃ m₃ E' hC hP hn₃ hx₃ hk htk
    have hk' := hkI s₃ hk
    obtain ⟨n, t, rfl, hnn⟩ : ∃ (n : Nat) (t : Tok), v = .int (n : Int) t ∧ n ∈ ns := by
      have hv' : ws.toList[i]? = some v := by rw [Array.getElem?_toList]; exact hP
      obtain ⟨k, t, rfl, hk9⟩ := IntsAre.at hi i v hv'
      have := List.mem_of_getElem? hk9
      obtain ⟨n, hn9, rfl⟩ := List.mem_map.mp this
      exact ⟨n, t, rfl, hn9⟩
    have hl := hlt n hnn
    refine wpAny_tests_one (wpAny_isTrue_Not (wpAny_isTrue_value (sub slot_list_getitem.lookup (ldC (env := compEnvC scope [(tn, c)] C env) (hc.keeps hk') ?_ (by simp [compEnvC]) hkind (hkt C) hdt))))
    refine ldH (env := compEnvC scope [(tn, c)] C env) ⟨m₃, hn₃, hx₃⟩ ?_ hkind (lookup_relabel_local hx) hdx
    refine ⟨(hD.at fun o e => hk' _ o e).typeIs, wpAny_getItem_list (hD.at fun o e => hk' _ o e) (by omega) (by omega) (by simpa using hv.2 n hl) (wpAny_truthy_bool ⟨by simp, s₃.heap, s₃.toks, rfl, fun b o e => e⟩)⟩
  · intro C i v s₃ m₃ E' hC hP hpv hn₃ hx₃ hk htk
    exact ldH (env := compEnvC scope [(tn, c)] C env) ⟨m₃, hn₃, hx₃⟩ ⟨rfl, s₃.heap, s₃.toks, rfl, fun b o e => e⟩ hkind (lookup_relabel_local hx) hdx
  · intro F h' tk ys us hF hl hpl hul huP hpair hns hk
    have hF' : s.heap.get? F = none := by
      cases e : s.heap.get? F with
      | none => rfl
      | some o' => have := Heap.get?_push_of_some { cls := .type "list_iterator", data := .fields #[.ref W, .int 0 0] } e; rw [hF] at this; cases this
    have hus : us = ws.toList := by
      apply List.ext_getElem?
      intro j
      by_cases hj : j < us.length
      · rw [List.getElem?_eq_getElem hj, Array.getElem?_toList, huP j _ (List.getElem?_eq_getElem hj)]
      · rw [List.getElem?_eq_none (by omega), Array.getElem?_toList, Array.getElem?_eq_none (by omega)]
    have hys := paired_eq hpair
    rw [hus] at hys
    refine h F h' tk ys hl (by rw [hys]; exact IntsAre.filterN hi) hF' ⟨_, hns, by simp⟩ (fun z u hz hu => ⟨_, hns, ?_⟩) fun b o hb e => hk b o hb (by simp; exact hold b o e) (Heap.get?_push_of_some _ e)
    obtain ⟨m₁, hn₁, e⟩ := hu
    simp only [hz, if_false]
    exact (Heap.Ns.agree hm hn₁ z).trans e
end
end Mine
end
section
open PySem PySem.W PyProof.Rows
namespace Mine
set_option maxRecDepth 100000
set_option linter.unusedSimpArgs false
set_option linter.unusedVariables false

/-! ## objects of unlike make lie apart -/
theorem ne_list_ns {h : Heap} {D L : Addr} {vs : Array Value} (x : h.IsList D vs) (y : IsNs h L) : D ≠ L := by
  rintro rfl
  obtain ⟨o, ho, _, n, hd⟩ := x
  obtain ⟨m, o', es, ep, ho', hd', _⟩ := y
  rw [ho] at ho'; cases ho'; rw [hd] at hd'; cases hd'
theorem ne_list_cell {h : Heap} {D c : Addr} {vs : Array Value} {v : Option Value} (x : h.IsList D vs) (y : h.IsCell c v) : D ≠ c := by
  rintro rfl
  obtain ⟨o, ho, _, n, hd⟩ := x
  obtain ⟨o', ho', hd'⟩ := y
  rw [ho] at ho'; cases ho'; rw [hd] at hd'; cases hd'
theorem ne_cell_ns {h : Heap} {c L : Addr} {v : Option Value} (x : h.IsCell c v) (y : IsNs h L) : c ≠ L := by
  rintro rfl
  obtain ⟨o, ho, hd⟩ := x
  obtain ⟨m, o', es, ep, ho', hd', _⟩ := y
  rw [ho] at ho'; cases ho'; rw [hd] at hd'; cases hd'
theorem cell_at {h h' : Heap} {c : Addr} {v : Option Value} (x : h.IsCell c v) (k : ∀ o, h.get? c = some o → h'.get? c = some o) : h'.IsCell c v := let ⟨o, ho, hd⟩ := x; ⟨o, k o ho, hd⟩

/-! ## the parts of _law_told -/
abbrev tEnv (fd : FuncData) (L a : Addr) : Env := callEnvC { fd with scope := fnScope 3 } L a
def st3 (i : Nat) : Stmt := (fnBody 3).getD i (.Pass ⟨0, 0, 0, 0⟩)
def inFor (s : Stmt) (i : Nat) : Stmt := match s with
  | .For _ _ b _ _ => b.getD i (.Pass ⟨0, 0, 0, 0⟩)
  | s => s

theorem takenOf_snoc (c : Int) {ps : List (Nat × Int)} {i : Nat} {x : Nat × Int} (hx : ps[i]? = some x) : takenOf c (ps.take (i + 1)) = takeStep c (takenOf c (ps.take i)) x := by
  unfold takenOf
  rw [List.take_add_one, hx]
  simp

section
variable {prog : Program} {w : World} {A : Around} {E : Value → Shared → Prop} {s : Shared}

set_option maxHeartbeats 1000000 in
/-- the first inner loop -/
theorem told_take {fd : FuncData} {L a laid D Dt : Addr} {h₀ : Heap} {items vs : Array Value} {ps : List (Nat × Int)} {c : Int} {tc : Tok} {Q : Flow → Shared → Prop} (hh : A.handled = none)
    (hB : LaidIs h₀ laid items ps) (hk₀ : ∀ b o, h₀.get? b = some o → s.heap.get? b = some o) (hD₀ : h₀.get? D = none) (hL₀ : h₀.get? L = none)
    (hok : ∀ k x, ps[k]? = some x → x.2 < c → (wayN x.1).filter (fun a => !takenOf c (ps.take k) a) ≠ [])
    (h1 : Has s.heap L "laid" (.ref laid)) (h2 : Has s.heap L "limit" (.int c tc)) (h3 : Has s.heap L "told" (.ref Dt)) (h4 : s.heap.IsCell (L + 1) (some (.ref D))) (h5 : s.heap.IsList D vs) (h6 : BoolsAre vs fun _ => false)
    (hQ : ∀ h' tk vs', Has h' L "laid" (.ref laid) → Has h' L "limit" (.int c tc) → Has h' L "told" (.ref Dt) → h'.IsList D vs' → BoolsAre vs' (takenOf c ps) → Kept (fun b => b = L ∨ b = D) s.heap h' → Q .next { s with heap := h', toks := tk }) :
    wpAny (model prog w) A (exec (inFor (st3 1) 1) (tEnv fd L a)) Q E s := by
  have hDL : D ≠ L := ne_list_ns h5 h1.ns
  have hDc : D ≠ L + 1 := ne_list_cell h5 h4
  have hcL : L + 1 ≠ L := ne_cell_ns h4 h1.ns
  obtain ⟨ol, hol, _⟩ := id hB.list
  have hll : laid ≠ L := fun e => by rw [e, hL₀] at hol; cases hol
  have hlD : laid ≠ D := fun e => by rw [e, hD₀] at hol; cases hol
  obtain ⟨oD, hoD, _⟩ := id h5
  obtain ⟨m, hm⟩ := id h1.ns
  with_unfolding_all refine wpAny_For ?_
  refine ldH h1 ?_
  refine for_list (fun b => b = L ∨ b = D) (fun i h => Has h L "laid" (.ref laid) ∧ Has h L "limit" (.int c tc) ∧ Has h L "told" (.ref Dt) ∧ ∃ vs, h.IsList D vs ∧ BoolsAre vs (takenOf c (ps.take i)))
    hh (hB.list.at fun o e => hk₀ _ o e) (by rintro (e | e); exact hll e; exact hlD e) (by rintro b (rfl | rfl); exact hm.lt; exact Heap.lt_size hoD) ⟨h1, h2, h3, vs, h5, h6⟩
    (fun i h h' J k => ⟨k.has J.1, k.has J.2.1, k.has J.2.2.1, J.2.2.2.choose, k.list J.2.2.2.choose_spec.1, J.2.2.2.choose_spec.2⟩) ?_ ?_ ?_
  · intro I i v s' Q' E' hv hit hq
    have hi : i < ps.length := by rw [← hB.len]; exact (Array.getElem?_eq_some_iff.mp hv).1
    obtain ⟨_, T, _, _, _, hT, _⟩ := hB.parts i _ (List.getElem?_eq_getElem hi)
    rw [hT] at hv; cases hv
    exact wpAny_letOwnedTupleGo_listiter hit hq
  · rintro i v h tk E' hv ⟨a1, a2, a3, ws, a4, a5⟩ hK hl
    have hi : i < ps.length := by rw [← hB.len]; exact (Array.getElem?_eq_some_iff.mp hv).1
    have hx : ps[i]? = some ps[i] := List.getElem?_eq_getElem hi
    generalize ps[i] = x at hx
    obtain ⟨hp63, T, W, wv, tv, hT, hTup, hW, hWi⟩ := hB.parts i x hx
    rw [hT] at hv; cases hv
    have base : ∀ b o, h₀.get? b = some o → h.get? b = some o := fun b o e => hK b o (by rintro (q | q) <;> (rw [q] at e; simp_all)) (hk₀ b o e)
    obtain ⟨oT, hoT, _⟩ := id hTup
    obtain ⟨oW, hoW, _⟩ := id hW
    have hWL : W ≠ L := fun e => by rw [e, hL₀] at hoW; cases hoW
    have hWD : W ≠ D := fun e => by rw [e, hD₀] at hoW; cases hoW
    refine assign2 (s := { s with heap := h, toks := tk }) hh (hTup.at fun o e => base _ o e) a1.ns fun h₁ tk₁ w1 w2 kk₁ hs₁ => ?_
    have c4 : h₁.IsCell (L + 1) (some (.ref D)) := cell_at h4 fun o e => hs₁ _ o hcL (hK _ o (by rintro (q | q); exact hcL q; exact hDc q.symm) e)
    have c5 : h₁.IsList D ws := a4.at fun o e => hs₁ _ o hDL e
    have a1 := kk₁ _ _ (by decide) (by decide) a1
    have a2 := kk₁ _ _ (by decide) (by decide) a2
    have a3 := kk₁ _ _ (by decide) (by decide) a3
    have hK₁ : Kept (fun b => b = L ∨ b = D) h h₁ := fun b o hb e => hs₁ b o (fun q => hb (.inl q)) e
    refine wpAny_execs_cons (wpAny_If (wpAny_isTrue_Compare1 (ldH w2 (ldH a2 (lt_int (wpAny_truthy_bool ?_))))))
    by_cases hlt : x.2 < c
    · rw [if_pos (by simpa using hlt)]
      have hne := hok i x hx hlt
      refine wpAny_execs_cons (comp_not (T := takenOf c (ps.take i)) (ns := wayN x.1) (c := L + 1) (s := { s with heap := h₁, toks := tk₁ }) hh a1.ns w1 ((hW.at fun o e => base _ o e).at fun o e => hs₁ _ o hWL e) hWi (fun n hn => by have := wayN_le x.1 n hn; omega) (by have := wayN_length x.1 hp63; omega) c4 c5 a5 (fun F h₂ tk₂ ys hF hys hFn f1 kk₂ hk₂ => ?_)
        (by with_unfolding_all rfl) (by with_unfolding_all rfl))
      have hff : ∃ t, ys[0]? = some (.int ((firstFree (takenOf c (ps.take i)) (wayN x.1) : Nat) : Int) t) ∧ firstFree (takenOf c (ps.take i)) (wayN x.1) < 63 := by
        unfold firstFree
        cases hfl : (wayN x.1).filter (fun a => !takenOf c (ps.take i) a) with
        | nil => exact absurd hfl hne
        | cons n r =>
          rw [hfl] at hys
          obtain ⟨t, vs', e1, _⟩ := IntsAre.cons_inv hys
          refine ⟨t, by rw [← Array.getElem?_toList, e1]; rfl, ?_⟩
          have : n ∈ (wayN x.1).filter (fun a => !takenOf c (ps.take i) a) := by rw [hfl]; exact List.mem_cons_self
          have := wayN_le x.1 n (List.mem_filter.mp this).1
          simp only [List.headD_cons]
          omega
      obtain ⟨tf, hy0, hf63⟩ := hff
      have d4 : h₂.IsCell (L + 1) (some (.ref D)) := cell_at c4 fun o e => hk₂ _ o hcL e
      have d5 : h₂.IsList D ws := c5.at fun o e => hk₂ _ o hDL e
      refine wpAny_execs_cons (wpAny_Assign_Subscript (wpAny_Constant_bool (ldC (c := L + 1) d4 (sub slot_list_getitem.lookup (ldH f1 (wpAny_Constant_int ⟨hF.typeIs, wpAny_getItem_list hF (by decide) (by decide) (by exact hy0) ?_⟩))))))
      refine wpAny_setItem_list d5 (by omega) (by omega) (by rw [a5.1]; omega) fun h₃ hl₃ hs₃ => ?_
      refine wpAny_execs_nil (wpAny_execs_nil ⟨h₃, _, rfl, ⟨(kk₂ _ _ (by decide) a1).but hs₃ (Ne.symm hDL), (kk₂ _ _ (by decide) a2).but hs₃ (Ne.symm hDL), (kk₂ _ _ (by decide) a3).but hs₃ (Ne.symm hDL), _, hl₃, ?_⟩, ?_⟩)
      · rw [takenOf_snoc c hx]
        unfold takeStep
        rw [if_pos hlt]
        simpa using a5.set (p := firstFree (takenOf c (ps.take i)) (wayN x.1)) (b := true)
      · exact fun b o hb e => hs₃.extBut b o (fun q => hb (.inr q)) (hk₂ b o (fun q => hb (.inl q)) (hK₁ b o hb e))
    · rw [if_neg (by simpa using hlt)]
      refine wpAny_execs_nil (wpAny_execs_nil ⟨h₁, _, rfl, ⟨a1, a2, a3, ws, c5, ?_⟩, hK₁⟩)
      rw [takenOf_snoc c hx]
      unfold takeStep
      rw [if_neg hlt]
      exact a5
  · rintro h tk ⟨a1, a2, a3, ws, a4, a5⟩ hK
    rw [List.take_of_length_le (by rw [hB.len]; exact Nat.le_refl _)] at a5
    exact hQ h tk ws a1 a2 a3 a4 a5 hK

theorem way_last {ws : Array Value} {p : Nat} (h : IntsAre ws.toList (natInts (wayN p))) : 0 < ws.size ∧ ∃ t, ws[((-1 : Int) + (ws.size : Int)).toNat]? = some (.int (p : Int) t) := by
  have hlen : ws.size = (wayN p).length := by have := h.length; simpa [natInts] using this
  have hne := wayN_ne p
  have hpos : 0 < (wayN p).length := List.length_pos_iff.mpr hne
  refine ⟨by omega, ?_⟩
  have hl := wayN_last p
  rw [List.getLast?_eq_getElem?] at hl
  have hg : (natInts (wayN p))[(wayN p).length - 1]? = some (p : Int) := by simp [natInts, hl]
  obtain ⟨t, ht⟩ := h.get _ _ hg
  refine ⟨t, ?_⟩
  rw [← Array.getElem?_toList]
  have e : ((-1 : Int) + (ws.size : Int)).toNat = (wayN p).length - 1 := by omega
  rw [e]; exact ht

theorem tell_snoc (T : Nat → Bool) (c : Int) (r : Row) {ps : List (Nat × Int)} {i : Nat} {x : Nat × Int} (hx : ps[i]? = some x) : (ps.take (i + 1)).foldl (tellStep T c) r = tellStep T c ((ps.take i).foldl (tellStep T c) r) x := by
  rw [List.take_add_one, hx]
  simp

set_option maxHeartbeats 1000000 in
/-- the second inner loop -/
theorem told_tell {fd : FuncData} {L a laid D Dt : Addr} {h₀ : Heap} {items vs rs : Array Value} {ps : List (Nat × Int)} {c : Int} {tc : Tok} {T : Nat → Bool} {r : Row} {Q : Flow → Shared → Prop} (hh : A.handled = none)
    (hB : LaidIs h₀ laid items ps) (hk₀ : ∀ b o, h₀.get? b = some o → s.heap.get? b = some o) (hD₀ : h₀.get? Dt = none) (hL₀ : h₀.get? L = none) (hDD : D ≠ Dt)
    (h1 : Has s.heap L "laid" (.ref laid)) (h2 : Has s.heap L "limit" (.int c tc)) (h3 : Has s.heap L "told" (.ref Dt)) (h4 : s.heap.IsCell (L + 1) (some (.ref D))) (h5 : s.heap.IsList D vs) (h6 : BoolsAre vs T) (h7 : s.heap.IsList Dt rs) (h8 : RowIs rs r)
    (hQ : ∀ h' tk rs', Has h' L "laid" (.ref laid) → Has h' L "told" (.ref Dt) → h'.IsList Dt rs' → RowIs rs' (ps.foldl (tellStep T c) r) → Kept (fun b => b = L ∨ b = Dt) s.heap h' → Q .next { s with heap := h', toks := tk }) :
    wpAny (model prog w) A (exec (inFor (st3 1) 2) (tEnv fd L a)) Q E s := by
  have hDL : D ≠ L := ne_list_ns h5 h1.ns
  have hDtL : Dt ≠ L := ne_list_ns h7 h1.ns
  have hDc : Dt ≠ L + 1 := ne_list_cell h7 h4
  have hcL : L + 1 ≠ L := ne_cell_ns h4 h1.ns
  obtain ⟨ol, hol, _⟩ := id hB.list
  have hll : laid ≠ L := fun e => by rw [e, hL₀] at hol; cases hol
  have hlD : laid ≠ Dt := fun e => by rw [e, hD₀] at hol; cases hol
  obtain ⟨oD, hoD, _⟩ := id h7
  obtain ⟨m, hm⟩ := id h1.ns
  with_unfolding_all refine wpAny_For ?_
  refine ldH h1 ?_
  refine for_list (fun b => b = L ∨ b = Dt) (fun i h => Has h L "laid" (.ref laid) ∧ Has h L "limit" (.int c tc) ∧ Has h L "told" (.ref Dt) ∧ ∃ vs, h.IsList Dt vs ∧ RowIs vs ((ps.take i).foldl (tellStep T c) r))
    hh (hB.list.at fun o e => hk₀ _ o e) (by rintro (e | e); exact hll e; exact hlD e) (by rintro b (rfl | rfl); exact hm.lt; exact Heap.lt_size hoD) ⟨h1, h2, h3, rs, h7, h8⟩
    (fun i h h' J k => ⟨k.has J.1, k.has J.2.1, k.has J.2.2.1, J.2.2.2.choose, k.list J.2.2.2.choose_spec.1, J.2.2.2.choose_spec.2⟩) ?_ ?_ ?_
  · intro I i v s' Q' E' hv hit hq
    have hi : i < ps.length := by rw [← hB.len]; exact (Array.getElem?_eq_some_iff.mp hv).1
    obtain ⟨_, T, _, _, _, hT, _⟩ := hB.parts i _ (List.getElem?_eq_getElem hi)
    rw [hT] at hv; cases hv
    exact wpAny_letOwnedTupleGo_listiter hit hq
  · rintro i v h tk E' hv ⟨a1, a2, a3, ws, a4, a5⟩ hK hl
    have hi : i < ps.length := by rw [← hB.len]; exact (Array.getElem?_eq_some_iff.mp hv).1
    have hx : ps[i]? = some ps[i] := List.getElem?_eq_getElem hi
    generalize ps[i] = x at hx
    obtain ⟨hp63, T', W, wv, tv, hT, hTup, hW, hWi⟩ := hB.parts i x hx
    rw [hT] at hv; cases hv
    have base : ∀ b o, h₀.get? b = some o → h.get? b = some o := fun b o e => hK b o (by rintro (q | q) <;> (rw [q] at e; simp_all)) (hk₀ b o e)
    obtain ⟨oW, hoW, _⟩ := id hW
    have hWL : W ≠ L := fun e => by rw [e, hL₀] at hoW; cases hoW
    refine assign2 (s := { s with heap := h, toks := tk }) hh (hTup.at fun o e => base _ o e) a1.ns fun h₁ tk₁ w1 w2 kk₁ hs₁ => ?_
    have c4 : h₁.IsCell (L + 1) (some (.ref D)) := cell_at h4 fun o e => hs₁ _ o hcL (hK _ o (by rintro (q | q); exact hcL q; exact hDc q.symm) e)
    have c5 : h₁.IsList D vs := h5.at fun o e => hs₁ _ o hDL (hK _ o (by rintro (q | q); exact hDL q; exact hDD q) e)
    have c7 : h₁.IsList Dt ws := a4.at fun o e => hs₁ _ o hDtL e
    have cW : h₁.IsList W wv := (hW.at fun o e => base _ o e).at fun o e => hs₁ _ o hWL e
    have a1 := kk₁ _ _ (by decide) (by decide) a1
    have a2 := kk₁ _ _ (by decide) (by decide) a2
    have a3 := kk₁ _ _ (by decide) (by decide) a3
    have hK₁ : Kept (fun b => b = L ∨ b = Dt) h h₁ := fun b o hb e => hs₁ b o (fun q => hb (.inl q)) e
    obtain ⟨hpos, tl, hlast⟩ := way_last hWi
    refine wpAny_execs_cons (wpAny_If (wpAny_isTrue_Not (wpAny_isTrue_value (sub slot_list_getitem.lookup (ldC (c := L + 1) c4 (sub slot_list_getitem.lookup (ldH w1 (wpAny_UnaryOp (wpAny_Constant_int (neg_int
      ⟨cW.typeIs, wpAny_getItem_list_neg cW (by decide) (by omega) (by decide) hlast ⟨c5.typeIs, wpAny_getItem_list c5 (by omega) (by omega) (by simpa using h6.2 x.1 hp63) (wpAny_truthy_bool ?_)⟩⟩))))))))))
    by_cases hT : T x.1 = true
    · rw [if_neg (by simp [hT])]
      refine wpAny_execs_nil (wpAny_execs_nil ⟨h₁, _, rfl, ⟨a1, a2, a3, ws, c7, ?_⟩, hK₁⟩)
      rw [tell_snoc T c r hx, show ∀ r', tellStep T c r' x = r' from fun r' => if_pos hT]
      exact a5
    · rw [if_pos (by simp [hT])]
      refine wpAny_execs_cons (wpAny_Assign_Subscript (ldH a2 (ldH a3 (sub slot_list_getitem.lookup (ldH w1 (wpAny_UnaryOp (wpAny_Constant_int (neg_int
        ⟨cW.typeIs, wpAny_getItem_list_neg cW (by decide) (by omega) (by decide) hlast ?_⟩))))))))
      refine wpAny_setItem_list c7 (by omega) (by omega) (by rw [a5.1]; omega) fun h₃ hl₃ hs₃ => ?_
      refine wpAny_execs_nil (wpAny_execs_nil ⟨h₃, _, rfl, ⟨a1.but hs₃ (Ne.symm hDtL), a2.but hs₃ (Ne.symm hDtL), a3.but hs₃ (Ne.symm hDtL), _, hl₃, ?_⟩, fun b o hb e => hs₃.extBut b o (fun q => hb (.inr q)) (hK₁ b o hb e)⟩)
      rw [tell_snoc T c r hx, show ∀ r', tellStep T c r' x = upd r' x.1 (some c) from fun r' => if_neg hT]
      simpa using a5.set (p := x.1) (VI.int c tc)
  · rintro h tk ⟨a1, a2, a3, ws, a4, a5⟩ hK
    rw [List.take_of_length_le (by rw [hB.len]; exact Nat.le_refl _)] at a5
    exact hQ h tk ws a1 a3 a4 a5 hK

theorem gets_none {h : Heap} {a : Addr} (ha : h.objs.size ≤ a) : h.get? a = none := by
  cases e : h.get? a with
  | none => rfl
  | some o => exact absurd (Heap.lt_size e) (Nat.not_lt.mpr ha)
theorem gets_new {h h' : Heap} (k : ∀ b o, h.get? b = some o → h'.get? b = some o) {a : Addr} (ha : h'.get? a = none) : h.get? a = none := by
  cases e : h.get? a with
  | none => rfl
  | some o => rw [k a o e] at ha; cases ha
theorem rowIs_nones : RowIs (Array.replicate 63 Value.none) (fun _ => none) := ⟨by simp, fun i hi => ⟨.none, by simp [hi], .none⟩⟩
theorem boolsAre_false : BoolsAre (Array.replicate 63 (Value.bool false)) (fun _ => false) := ⟨by simp, fun i hi => by simp [hi]⟩
theorem toldOf_snoc (ps : List (Nat × Int)) {ls : List Int} {i : Nat} {c : Int} (hc : ls[i]? = some c) : toldOf ps (ls.take (i + 1)) = tell ps c (toldOf ps (ls.take i)) := by
  unfold toldOf
  rw [List.take_add_one, hc]
  simp

theorem list_of {β : Type} {P : Nat → β → Prop} : ∀ (n : Nat), (∀ i, i < n → ∃ y, P i y) → ∃ ys : List β, ys.length = n ∧ ∀ i y, ys[i]? = some y → P i y
  | 0, _ => ⟨[], rfl, fun i y h => by simp at h⟩
  | n + 1, h => by
    obtain ⟨ys, hl, hp⟩ := list_of n fun i hi => h i (by omega)
    obtain ⟨y, hy⟩ := h n (by omega)
    refine ⟨ys ++ [y], by simp [hl], fun i z hz => ?_⟩
    rcases Nat.lt_trichotomy i n with e | e | e
    · exact hp i z (by rwa [List.getElem?_append_left (by omega)] at hz)
    · subst e
      rw [List.getElem?_append_right (by omega), hl] at hz
      simp at hz; subst hz; exact hy
    · rw [List.getElem?_eq_none (by simp [hl]; omega)] at hz; cases hz

theorem laid_items {h : Heap} {laid : Addr} {items : Array Value} {ps : List (Nat × Int)} (x : LaidIs h laid items ps) :
    ∃ ys : List Value, ys.length = items.size ∧ IntsAre ys (ps.map (·.2)) ∧ ∀ (i : Nat) (v : Value), items[i]? = some v → ∃ T x y, v = Value.ref T ∧ h.IsTuple T #[x, y] ∧ ys[i]? = some y := by
  obtain ⟨ys, hl, hp⟩ := list_of (P := fun i y => ∃ z t, ps[i]? = some z ∧ y = Value.int z.2 t ∧ ∃ T W, items[i]? = some (Value.ref T) ∧ h.IsTuple T #[W, y]) ps.length fun i hi => by
    obtain ⟨_, T, W, ws, tv, a, b, _⟩ := x.parts i _ (List.getElem?_eq_getElem hi)
    exact ⟨_, _, tv, List.getElem?_eq_getElem hi, rfl, T, _, a, b⟩
  refine ⟨ys, by rw [hl, x.len], ?_, fun i v hv => ?_⟩
  · have gen : ∀ (ys : List Value) (zs : List Int), ys.length = zs.length → (∀ (i : Nat) (y : Value), ys[i]? = some y → ∃ k t, zs[i]? = some k ∧ y = Value.int k t) → IntsAre ys zs := by
      intro ys
      induction ys with
      | nil => intro zs hz _; cases zs with
        | nil => exact .nil
        | cons _ _ => simp at hz
      | cons y ys ih =>
        intro zs hz hp
        cases zs with
        | nil => simp at hz
        | cons z zs =>
          obtain ⟨k, t, e1, e2⟩ := hp 0 y rfl
          simp at e1; subst e1; subst e2
          exact .cons _ t (ih zs (by simpa using hz) fun i y hy => by simpa using hp (i + 1) y (by simpa using hy))
    refine gen ys _ (by simp [hl]) fun i y hy => ?_
    obtain ⟨z, t, e1, e2, _⟩ := hp i y hy
    exact ⟨z.2, t, by simp [e1], e2⟩
  · have hi : i < ys.length := by rw [hl, ← x.len]; exact (Array.getElem?_eq_some_iff.mp hv).1
    obtain ⟨z, t, e1, e2, T, W, e3, e4⟩ := hp i _ (List.getElem?_eq_getElem hi)
    rw [e3] at hv; cases hv
    exact ⟨T, W, _, rfl, e4, List.getElem?_eq_getElem hi⟩

set_option maxHeartbeats 2000000 in
/-- the body of _law_told -/
theorem told_exec {fd : FuncData} {L a laid : Addr} {h₀ : Heap} {items : Array Value} {ps : List (Nat × Int)} {mg mb : Str → Option Value} {Q : Flow → Shared → Prop} (hh : A.handled = none)
    (hgl : fd.globals = mainGlobals) (hbl : fd.builtins = builtinsNs) (G : Gnd mg mb h₀) (g1 : mg "sorted" = none) (g2 : mb "sorted" = some (.builtin "sorted")) (g3 : mg "set" = none) (g4 : mb "set" = some (.type "set"))
    (hB : LaidIs h₀ laid items ps) (hps : ps.length ≤ 60) (hk₀ : ∀ b o, h₀.get? b = some o → s.heap.get? b = some o) (hL₀ : h₀.get? L = none) (hc₀ : h₀.get? (L + 1) = none)
    (hok : ∀ c k x, ps[k]? = some x → x.2 < c → (wayN x.1).filter (fun a => !takenOf c (ps.take k) a) ≠ [])
    (h1 : Has s.heap L "laid" (.ref laid)) (h2 : s.heap.IsCell (L + 1) none)
    (hQ : ∀ D h' tk dr rs ls, h'.IsList D rs → RowIs rs (toldOf ps ls) → ls.Pairwise (· ≤ ·) → (∀ k, k ∈ ls ↔ k ∈ ps.map (·.2)) → (∀ b o, h₀.get? b = some o → h'.get? b = some o) → h₀.get? D = none → Q (.ret (.ref D)) { s with heap := h', toks := tk, drawn := dr }) :
    wpAny (model prog w) A (execs (fnBody 3) (tEnv fd L a)) Q E s := by
  have hcL : L + 1 ≠ L := ne_cell_ns h2 h1.ns
  with_unfolding_all refine wpAny_execs_cons ?_
  -- told = [None] * 63
  refine wpAny_Assign_Name (wpAny_BinOp (wpAny_List (wpAny_items_cons (wpAny_Constant_none (wpAny_items_nil ⟨by simp [sizeLine_eq], wpAny_Constant_int (mulL (Heap.get?_push_size _ rfl) (by decide) (by decide) (by decide) ?_)⟩)))))
  rw [rep63]
  generalize hH1 : s.heap.push { cls := .type "list", data := .seq [Value.none].toArray } = H1
  have k1 : ∀ b o, s.heap.get? b = some o → H1.get? b = some o := fun b o e => hH1 ▸ Heap.get?_push_of_some _ e
  dsimp only
  have k2 : ∀ b o, s.heap.get? b = some o → (H1.push { cls := .type "list", data := .seq (Array.replicate 63 Value.none) }).get? b = some o := fun b o e => Heap.get?_push_of_some _ (k1 b o e)
  have hDt : (H1.push { cls := .type "list", data := .seq (Array.replicate 63 Value.none) }).IsList H1.objs.size (Array.replicate 63 Value.none) := ⟨_, Heap.get?_push_size _ rfl, rfl, 0, rfl⟩
  have hDs : s.heap.get? H1.objs.size = none := gets_new k1 (gets_none (Nat.le_refl _))
  have hD₀ : h₀.get? H1.objs.size = none := gets_new hk₀ hDs
  generalize H1.objs.size = Dt at hDt hDs hD₀ ⊢
  generalize H1.push { cls := .type "list", data := .seq (Array.replicate 63 Value.none) } = H2 at k2 hDt ⊢
  refine stH (s := { s with heap := H2, toks := s.toks + 1 }) ((h1.at fun o e => k2 _ o e).ns) fun h₁ n₁ kk₁ hs₁ => ?_
  have hDtL : Dt ≠ L := ne_list_ns hDt (h1.at fun o e => k2 _ o e).ns
  have h1 : Has h₁ L "laid" (.ref laid) := kk₁ _ _ (by decide) (h1.at fun o e => k2 _ o e)
  replace n₁ : Has h₁ L "told" (.ref Dt) := n₁
  replace hs₁ : Heap.SameBut L H2 h₁ := hs₁
  have h2 : h₁.IsCell (L + 1) none := (cell_at h2 fun o e => k2 _ o e).sameBut hs₁ hcL
  have h3 : h₁.IsList Dt (Array.replicate 63 Value.none) := hDt.extBut hs₁.extBut hDtL
  have k₁ : ∀ b o, h₀.get? b = some o → h₁.get? b = some o := fun b o e => hs₁.extBut b o (fun (q : b = L) => by rw [q, hL₀] at e; cases e) (k2 b o (hk₀ b o e))
  -- for limit in sorted(set([item for way, item in laid]))
  obtain ⟨ys, hyl, hyi, hyT⟩ := laid_items (hB.keeps k₁)
  refine wpAny_execs_cons (wpAny_For ?_)
  refine call1 (G.keeps k₁) g1 g2 (call1T (G.keeps k₁) g3 g4 (comp_pair hh (hB.list.at fun o e => k₁ _ o e) hyl hyT (fun Q' hq => ldH h1 hq) (fun Dc h₂ tk₂ hDc hcl k₂ => ?_) (by rw [hB.len]; omega)) rfl rfl hgl hbl) rfl rfl hgl hbl
  have hys : (ys.toArray).toList = ys := by simp
  refine set_call hh hcl (by rw [hys]; exact hyi) (by have := hB.len; simp only [List.size_toArray]; unfold scanBound; omega) fun h₃ tk₃ es hq hH hez k₃ => ?_
  refine sorted_set hh hq hH (by simp at hez; omega) fun Ds h₄ tk₄ dr out ls hDs hls hpw hmem hlsz hDn k₄ => ?_
  have k41 : ∀ b o, h₁.get? b = some o → h₄.get? b = some o := fun b o e => k₄ b o (k₃ b o (k₂ b o e))
  have k40 : ∀ b o, h₀.get? b = some o → h₄.get? b = some o := fun b o e => k41 b o (k₁ b o e)
  have hDn1 : h₁.get? Ds = none := gets_new (fun b o e => k₃ b o (k₂ b o e)) hDn
  have h1 : Has h₄ L "laid" (.ref laid) := h1.at fun o e => k41 _ o e
  have n₁ : Has h₄ L "told" (.ref Dt) := n₁.at fun o e => k41 _ o e
  have h2' : h₄.IsCell (L + 1) none := cell_at h2 fun o e => k41 _ o e
  have h3' : h₄.IsList Dt (Array.replicate 63 Value.none) := h3.at fun o e => k41 _ o e
  have hDsL : Ds ≠ L := ne_list_ns hDs h1.ns
  have hDsc : Ds ≠ L + 1 := ne_list_cell hDs h2'
  have hDsD : Ds ≠ Dt := fun e => by obtain ⟨o, ho, _⟩ := h3; rw [e, ho] at hDn1; cases hDn1
  have hDtc : Dt ≠ L + 1 := ne_list_cell h3' h2'
  refine for_list (s := { s with heap := h₄, toks := tk₄, drawn := dr }) (fun b => b = L ∨ b = L + 1 ∨ b = Dt)
    (fun i h => Has h L "laid" (.ref laid) ∧ Has h L "told" (.ref Dt) ∧ (∃ v, h.IsCell (L + 1) v) ∧ ∃ rs, h.IsList Dt rs ∧ RowIs rs (toldOf ps (ls.take i)))
    hh hDs (by rintro (e | e | e); exact hDsL e; exact hDsc e; exact hDsD e) ?_ ⟨h1, n₁, ⟨_, h2'⟩, _, h3', rowIs_nones⟩
    (fun i h h' J k => ⟨k.has J.1, k.has J.2.1, ⟨_, k.cell J.2.2.1.choose_spec⟩, _, k.list J.2.2.2.choose_spec.1, J.2.2.2.choose_spec.2⟩) (fun I i v s' Q' E' _ _ hq => wpAny_of_eq rfl hq) ?_ ?_
  · rintro b (rfl | rfl | rfl)
    · obtain ⟨m, hm⟩ := h1.ns; exact hm.lt
    · exact h2'.lt
    · obtain ⟨o, ho, _⟩ := h3'; exact Heap.lt_size ho
  · rintro i v h tk E' hv ⟨a1, a2, ⟨cv, a3⟩, rs, a4, a5⟩ hK hl
    obtain ⟨c, tc, rfl, hci⟩ := IntsAre.at hls i v (by rw [Array.getElem?_toList]; exact hv)
    have base : ∀ b o, h₀.get? b = some o → h.get? b = some o := fun b o e => hK b o (by rintro (q | q | q) <;> (rw [q] at e; simp_all)) (k40 b o e)
    have hDt0 : Dt ≠ L := ne_list_ns a4 a1.ns
    refine wpAny_assign_Name (stH (s := { s with heap := h, toks := tk, drawn := dr }) a1.ns fun h₅ n₅ kk₅ hs₅ => ?_)
    replace n₅ : Has h₅ L "limit" (.int c tc) := n₅
    replace hs₅ : Heap.SameBut L h h₅ := hs₅
    have a1 : Has h₅ L "laid" (.ref laid) := kk₅ _ _ (by decide) a1
    have a2 : Has h₅ L "told" (.ref Dt) := kk₅ _ _ (by decide) a2
    have a3 : h₅.IsCell (L + 1) cv := a3.sameBut hs₅ hcL
    have a4 : h₅.IsList Dt rs := a4.extBut hs₅.extBut hDt0
    have base5 : ∀ b o, h₀.get? b = some o → h₅.get? b = some o := fun b o e => hs₅.extBut b o (fun (q : b = L) => by rw [q, hL₀] at e; cases e) (base b o e)
    -- taken = [False] * 63
    refine wpAny_execs_cons (wpAny_Assign_Name (wpAny_BinOp (wpAny_List (wpAny_items_cons (wpAny_Constant_bool (wpAny_items_nil ⟨by simp [sizeLine_eq], wpAny_Constant_int (mulL (Heap.get?_push_size _ rfl) (by decide) (by decide) (by decide) ?_)⟩))))))
    rw [rep63]
    generalize hH3 : h₅.push { cls := .type "list", data := .seq [Value.bool false].toArray } = H3
    have k6 : ∀ b o, h₅.get? b = some o → H3.get? b = some o := fun b o e => hH3 ▸ Heap.get?_push_of_some _ e
    dsimp only
    have k7 : ∀ b o, h₅.get? b = some o → (H3.push { cls := .type "list", data := .seq (Array.replicate 63 (Value.bool false)) }).get? b = some o := fun b o e => Heap.get?_push_of_some _ (k6 b o e)
    have hTk : (H3.push { cls := .type "list", data := .seq (Array.replicate 63 (Value.bool false)) }).IsList H3.objs.size (Array.replicate 63 (Value.bool false)) := ⟨_, Heap.get?_push_size _ rfl, rfl, 0, rfl⟩
    have hTn : h₅.get? H3.objs.size = none := gets_new k6 (gets_none (Nat.le_refl _))
    generalize H3.objs.size = Tk at hTk hTn ⊢
    generalize H3.push { cls := .type "list", data := .seq (Array.replicate 63 (Value.bool false)) } = H4 at k7 hTk ⊢
    have hT₀ : h₀.get? Tk = none := gets_new base5 hTn
    have hTD : Tk ≠ Dt := fun e => by obtain ⟨o, ho, _⟩ := a4; rw [e, ho] at hTn; cases hTn
    have hTc : Tk ≠ L + 1 := fun e => by obtain ⟨o, ho, _⟩ := a3; rw [e, ho] at hTn; cases hTn
    have hTL : Tk ≠ L := fun e => by obtain ⟨m, o, _, _, ho, _⟩ := a1.ns; rw [e, ho] at hTn; cases hTn
    refine wpAny_storeName_cell (c := L + 1) rfl rfl rfl (cell_at a3 fun o e => k7 _ o e) fun h₆ c₆ hs₆ => ?_
    replace hs₆ : Heap.SameBut (L + 1) H4 h₆ := hs₆
    have up6 : ∀ b o, b ≠ L + 1 → h₅.get? b = some o → h₆.get? b = some o := fun b o hb e => hs₆.extBut b o hb (k7 b o e)
    have base6 : ∀ b o, h₀.get? b = some o → h₆.get? b = some o := fun b o e => up6 b o (fun q => by rw [q, hc₀] at e; cases e) (base5 b o e)
    have b1 : Has h₆ L "laid" (.ref laid) := a1.at fun o e => up6 _ o (Ne.symm hcL) e
    have b2 : Has h₆ L "told" (.ref Dt) := a2.at fun o e => up6 _ o (Ne.symm hcL) e
    have b3 : Has h₆ L "limit" (.int c tc) := n₅.at fun o e => up6 _ o (Ne.symm hcL) e
    have b4 : h₆.IsList Dt rs := a4.at fun o e => up6 _ o hDtc e
    have b5 : h₆.IsList Tk (Array.replicate 63 (Value.bool false)) := hTk.extBut hs₆.extBut hTc
    have hKa : Kept (fun b => b = L ∨ b = L + 1 ∨ b = Dt) h h₆ := fun b o hb e => up6 b o (fun q => hb (.inr (.inl q))) (hs₅.extBut b o (fun q => hb (.inl q)) e)
    refine wpAny_execs_cons ?_
    with_unfolding_all refine told_take (s := { s with heap := h₆, toks := _, drawn := dr }) hh hB base6 hT₀ hL₀ (fun k x hx hlt => hok c k x hx hlt) b1 b3 b2 c₆ b5 boolsAre_false fun h₇ tk₇ vs₇ d1 d2 d3 d4 d5 hK₇ => ?_
    have base7 : ∀ b o, h₀.get? b = some o → h₇.get? b = some o := fun b o e => hK₇ b o (by rintro (q | q) <;> (rw [q] at e; simp_all)) (base6 b o e)
    have d6 : h₇.IsCell (L + 1) (some (.ref Tk)) := cell_at c₆ fun o e => hK₇ _ o (by rintro (q | q); exact hcL q; exact hTc q.symm) e
    have d7 : h₇.IsList Dt rs := b4.at fun o e => hK₇ _ o (by rintro (q | q); exact hDt0 q; exact hTD q.symm) e
    refine wpAny_execs_cons ?_
    with_unfolding_all refine told_tell (s := { s with heap := h₇, toks := _, drawn := dr }) hh hB base7 hD₀ hL₀ hTD d1 d2 d3 d6 d4 d5 d7 a5 fun h₈ tk₈ rs₈ e1 e2 e3 e4 hK₈ => ?_
    refine wpAny_execs_nil ⟨h₈, tk₈, rfl, ⟨e1, e2, ⟨_, cell_at d6 fun o e => hK₈ _ o (by rintro (q | q); exact hcL q; exact hDtc q.symm) e⟩, rs₈, e3, ?_⟩, fun b o hb e => ?_⟩
    · rw [toldOf_snoc ps hci]
      exact e4
    · have hbL : b ≠ L := fun q => hb (.inl q)
      have hbD : b ≠ Dt := fun q => hb (.inr (.inr q))
      have hbT : b ≠ Tk := fun q => by
        have := hs₅.extBut b o hbL e
        rw [q, hTn] at this; cases this
      exact hK₈ b o (by rintro (q | q); exact hbL q; exact hbD q) (hK₇ b o (by rintro (q | q); exact hbL q; exact hbT q) (hKa b o hb e))
  · rintro h tk ⟨a1, a2, _, rs, a4, a5⟩ hK
    rw [List.take_of_length_le (by have := hls.length; simp at this; omega)] at a5
    refine wpAny_execs_cons (wpAny_Return_some (ldH a2 ?_))
    exact hQ Dt h tk dr rs ls a4 a5 hpw hmem (fun b o e => hK b o (by rintro (q | q | q) <;> (rw [q] at e; simp_all)) (k40 b o e)) hD₀
end
end Mine
end
section
open PySem PySem.W PyProof.Rows
namespace Mine
set_option maxRecDepth 100000
set_option linter.unusedSimpArgs false
set_option linter.unusedVariables false
section
variable {prog : Program} {w : World} {A : Around} {E : Value → Shared → Prop} {s : Shared}

/-- the call _law_told(laid) -/
theorem told_call {R : Result → Shared → Prop} {name qual : Str} {doc pm cdv ct oc : Value} {an od : Option Addr} {osl : Array (Option Value)} {f laid : Addr} {items : Array Value} {ps : List (Nat × Int)} {mg mb : Str → Option Value}
    (hh : A.handled = none) (hroom : A.depth < recursionLimit) (ho : s.heap.get? f = some ⟨oc, od, .func (fnOf name qual (fnParams 3) (fnBody 3) (fnScope 3) .none .none doc pm an cdv ct), osl⟩) (hcd : s.heap.CodeRec cdv qual)
    (G : Gnd mg mb s.heap) (g1 : mg "sorted" = none) (g2 : mb "sorted" = some (.builtin "sorted")) (g3 : mg "set" = none) (g4 : mb "set" = some (.type "set"))
    (hB : LaidIs s.heap laid items ps) (hps : ps.length ≤ 60) (hok : ∀ c k x, ps[k]? = some x → x.2 < c → (wayN x.1).filter (fun a => !takenOf c (ps.take k) a) ≠ [])
    (hR : ∀ D h' tk dr rs ls, h'.IsList D rs → RowIs rs (toldOf ps ls) → ls.Pairwise (· ≤ ·) → (∀ k, k ∈ ls ↔ k ∈ ps.map (·.2)) → (∀ b o, s.heap.get? b = some o → h'.get? b = some o) → R (.ok (.ret (.ref D))) { s with heap := h', toks := tk, drawn := dr }) :
    codeAny (model prog w) A (.call (.ref f) ⟨[.ref laid], []⟩) R s := by
  refine codeAny_call_cells (binds := [("laid", .ref laid)]) hroom ho rfl G.lim hcd rfl (by with_unfolding_all rfl) rfl (by intro x hx; rw [List.mem_singleton.mp hx]; exact .inl rfl) fun s₁ x => ?_
  obtain ⟨⟨⟨h₁, tk₁, rfl⟩, hns, hk, hfr⟩, hcl, _, _⟩ := x
  refine told_exec (fd := fnOf name qual (fnParams 3) (fnBody 3) (fnScope 3) .none .none doc pm an cdv ct) (h₀ := s.heap) (s := { s with heap := h₁, toks := tk₁ }) hh rfl rfl G g1 g2 g3 g4 hB hps hk (gets_none (Nat.le_refl _)) (gets_none (Nat.le_succ _)) hok ⟨_, hns, rfl⟩ (hcl "taken" _ rfl) fun D h' tk dr rs ls a b c d e f => ?_
  exact hR D h' tk dr rs ls a b c d e
end
end Mine
end
section
namespace Mine
set_option linter.unusedVariables false

/-! ## the plain law: the row tells what the limits tell -/
theorem upd_self (r : Row) (p : Nat) (x : Option Int) : upd r p x p = x := by simp [upd]
theorem upd_ne (r : Row) {p q : Nat} (x : Option Int) (h : q ≠ p) : upd r p x q = r q := by simp [upd, h]
theorem wayN_zero : wayN 0 = [0] := by rw [wayN]; rfl
theorem wayN_step {p : Nat} (h : p ≠ 0) : wayN p = wayN ((p - 1) / 2) ++ [p] := by rw [wayN, dif_neg h]
theorem self_mem_way (p : Nat) : p ∈ wayN p := by
  by_cases h : p = 0
  · subst h; rw [wayN_zero]; simp
  · rw [wayN_step h]; simp

theorem firstFree_last {T : Nat → Bool} {p : Nat} (h1 : ∀ x ∈ wayN p, x ≠ p → T x = true) (h2 : T p = false) : firstFree T (wayN p) = p := by
  by_cases h : p = 0
  · subst h; rw [wayN_zero]; simp [firstFree, h2]
  · rw [wayN_step h] at h1 ⊢
    unfold firstFree
    rw [List.filter_append]
    have e : (wayN ((p - 1) / 2)).filter (fun a => !T a) = [] := by
      rw [List.filter_eq_nil_iff]
      intro a ha
      have hap : a ≠ p := by have := wayN_le _ a ha; omega
      simp [h1 a (List.mem_append_left _ ha) hap]
    rw [e]
    simp [h2]
theorem firstFree_up {T : Nat → Bool} {p : Nat} (h : p ≠ 0) (h1 : T ((p - 1) / 2) = false) : firstFree T (wayN p) = firstFree T (wayN ((p - 1) / 2)) := by
  rw [wayN_step h]
  unfold firstFree
  rw [List.filter_append]
  have hm : (p - 1) / 2 ∈ (wayN ((p - 1) / 2)).filter (fun a => !T a) := List.mem_filter.mpr ⟨self_mem_way _, by simp [h1]⟩
  cases e : (wayN ((p - 1) / 2)).filter (fun a => !T a) with
  | nil => rw [e] at hm; cases hm
  | cons a l => rfl
theorem firstFree_congr {T T' : Nat → Bool} (h : ∀ x, T x = T' x) (ws : List Nat) : firstFree T ws = firstFree T' ws := by
  have : T = T' := funext h
  rw [this]
theorem firstFree_parent {T : Nat → Bool} : ∀ (p : Nat), T p = false → firstFree T (wayN p) = 0 ∨ T ((firstFree T (wayN p) - 1) / 2) = true := by
  intro p
  induction p using Nat.strongRecOn with
  | ind p ih =>
    intro hp
    by_cases h : p = 0
    · subst h; rw [wayN_zero]; left; simp [firstFree, hp]
    · by_cases hq : T ((p - 1) / 2) = false
      · rw [firstFree_up h hq]
        exact ih _ (by omega) hq
      · have hq' : T ((p - 1) / 2) = true := by simpa using hq
        rw [wayN_step h]
        unfold firstFree
        rw [List.filter_append]
        cases e : (wayN ((p - 1) / 2)).filter (fun a => !T a) with
        | nil => right; simp [hp]; exact hq'
        | cons a l =>
          -- the first free place of the way up to the parent: by the same claim, over any way
          have gen : ∀ (q : Nat) (a : Nat) (l : List Nat), (wayN q).filter (fun a => !T a) = a :: l → a = 0 ∨ T ((a - 1) / 2) = true := by
            intro q
            induction q using Nat.strongRecOn with
            | ind q ihq =>
              intro a l ea
              by_cases hq0 : q = 0
              · subst hq0
                rw [wayN_zero] at ea
                by_cases hT0 : T 0 = true
                · simp [hT0] at ea
                · simp [hT0] at ea; left; exact ea.1.symm
              · rw [wayN_step hq0, List.filter_append] at ea
                cases e2 : (wayN ((q - 1) / 2)).filter (fun a => !T a) with
                | cons b l2 =>
                  rw [e2] at ea
                  simp at ea
                  exact ea.1 ▸ ihq _ (by omega) b l2 e2
                | nil =>
                  rw [e2] at ea
                  simp only [List.nil_append] at ea
                  have ha : a ∈ [q].filter (fun a => !T a) := by rw [ea]; exact List.mem_cons_self
                  have haq : a = q := by simpa using (List.mem_filter.mp ha).1
                  right
                  rw [haq]
                  have := List.filter_eq_nil_iff.mp e2 _ (self_mem_way ((q - 1) / 2))
                  simpa using this
          exact gen _ a l e

/-- the numbers from the top down to q are there and rise -/
def Ord (r : Row) (q : Nat) : Prop := ∀ x ∈ wayN q, ∃ a, r x = some a ∧ (x ≠ 0 → ∃ b, r ((x - 1) / 2) = some b ∧ b ≤ a)
theorem Ord.up {r : Row} {q : Nat} (h : Ord r q) (hq : q ≠ 0) : Ord r ((q - 1) / 2) := fun x hx => h x (by rw [wayN_step hq]; exact List.mem_append_left _ hx)
theorem Ord.le {r : Row} : ∀ (q : Nat) {b : Int}, Ord r q → r q = some b → ∀ x ∈ wayN q, ∃ a, r x = some a ∧ a ≤ b := by
  intro q
  induction q using Nat.strongRecOn with
  | ind q ih =>
    intro b h hb x hx
    by_cases hq : q = 0
    · subst hq; rw [wayN_zero] at hx; simp at hx; subst hx; exact ⟨b, hb, Int.le_refl _⟩
    · obtain ⟨a, ha, hp⟩ := h q (self_mem_way q)
      rw [hb] at ha; cases ha
      obtain ⟨c, hc, hcb⟩ := hp hq
      rw [wayN_step hq] at hx
      rcases List.mem_append.mp hx with hx | hx
      · obtain ⟨a', h1, h2⟩ := ih _ (by omega) (h.up hq) hc x hx
        exact ⟨a', h1, Int.le_trans h2 hcb⟩
      · simp at hx; subst hx; exact ⟨b, hb, Int.le_refl _⟩
theorem Ord.upd {r : Row} {q p : Nat} {v : Option Int} (h : Ord r q) (hqp : q < p) : Ord (upd r p v) q := fun x hx => by
  have hxq := wayN_le q x hx
  obtain ⟨a, ha, hp⟩ := h x hx
  refine ⟨a, by rw [upd_ne _ _ (by omega)]; exact ha, fun hx0 => ?_⟩
  obtain ⟨b, hb, hba⟩ := hp hx0
  exact ⟨b, by rw [upd_ne _ _ (by omega)]; exact hb, hba⟩

theorem sift_takes (v c : Int) : ∀ (p : Nat) (r : Row) (T : Nat → Bool), (p ≠ 0 → Ord r ((p - 1) / 2)) → (∀ x, T x = true ↔ (x ≠ p ∧ ∃ a, r x = some a ∧ a < c)) →
    ∀ x, (∃ a, sift r v p x = some a ∧ a < c) ↔ ((v < c ∧ x = firstFree T (wayN p)) ∨ T x = true) := by
  intro p
  induction p using Nat.strongRecOn with
  | ind p ih =>
    intro r T hO hT x
    have hTp : T p = false := by
      cases h : T p with
      | false => rfl
      | true => exact absurd rfl ((hT p).mp h).1
    -- what a plain store gives
    have plain : ∀ x, (∃ a, upd r p (some v) x = some a ∧ a < c) ↔ ((v < c ∧ x = p) ∨ T x = true) := by
      intro x
      by_cases hx : x = p
      · subst hx; rw [upd_self]
        constructor
        · rintro ⟨a, e, h⟩; cases e; exact .inl ⟨h, rfl⟩
        · rintro (⟨h, _⟩ | h)
          · exact ⟨v, rfl, h⟩
          · rw [hTp] at h; cases h
      · rw [upd_ne _ _ hx, hT x]
        constructor
        · intro h; exact .inr ⟨hx, h⟩
        · rintro (⟨_, h⟩ | ⟨_, h⟩)
          · exact absurd h hx
          · exact h
    by_cases hp : p = 0
    · subst hp
      rw [sift_zero, plain x, firstFree_last (by intro y hy hy0; rw [wayN_zero] at hy; simp at hy; exact absurd hy hy0) hTp]
    · obtain ⟨b, hb, _⟩ := hO hp _ (self_mem_way _)
      have hqp : (p - 1) / 2 ≠ p := by omega
      -- below the limit the whole way above is taken
      have hall : b < c → ∀ y ∈ wayN p, y ≠ p → T y = true := by
        intro hbc y hy hyp
        rw [wayN_step hp] at hy
        rcases List.mem_append.mp hy with hy | hy
        · obtain ⟨a, ha, hab⟩ := Ord.le _ (hO hp) hb y hy
          exact (hT y).mpr ⟨hyp, a, ha, by omega⟩
        · simp at hy; exact absurd hy hyp
      by_cases hvb : v < b
      · rw [sift_up hp hb hvb]
        have hO1 : (p - 1) / 2 ≠ 0 → Ord (upd r p (some b)) (((p - 1) / 2 - 1) / 2) := fun h0 => ((hO hp).up h0).upd (by omega)
        by_cases hbc : b < c
        · -- the parent's number is below the limit too
          have hTq : T ((p - 1) / 2) = true := (hT _).mpr ⟨hqp, b, hb, hbc⟩
          have key := ih ((p - 1) / 2) (by omega) (upd r p (some b)) (fun y => decide (y ≠ (p - 1) / 2) && (decide (y = p) || T y)) hO1 (fun y => by
            simp only [Bool.and_eq_true, decide_eq_true_eq, Bool.or_eq_true]
            refine and_congr_right fun hy => ?_
            by_cases hyp : y = p
            · subst hyp; rw [upd_self]; exact ⟨fun _ => ⟨b, rfl, hbc⟩, fun _ => .inl rfl⟩
            · rw [upd_ne _ _ hyp, hT y]
              exact ⟨fun h => h.elim (fun e => absurd e hyp) fun h => h.2, fun h => .inr ⟨hyp, h⟩⟩) x
          rw [key, firstFree_last (p := (p - 1) / 2) (by
            intro y hy hyq
            have hyp : y ≠ p := by have := wayN_le _ y hy; omega
            have hyT := hall hbc y (by rw [wayN_step hp]; exact List.mem_append_left _ hy) hyp
            simp [hyq, hyT]) (by simp), firstFree_last (hall hbc) hTp]
          have hvc : v < c := by omega
          simp only [hvc, true_and, Bool.and_eq_true, decide_eq_true_eq, Bool.or_eq_true]
          by_cases hxq : x = (p - 1) / 2
          · subst hxq; simp [hTq]
          · simp [hxq]
        · have hTq : T ((p - 1) / 2) = false := by
            cases h : T ((p - 1) / 2) with
            | false => rfl
            | true =>
              obtain ⟨_, a, ha, hac⟩ := (hT _).mp h
              rw [hb] at ha; cases ha; exact absurd hac hbc
          have key := ih ((p - 1) / 2) (by omega) (upd r p (some b)) T hO1 (fun y => by
            by_cases hyq : y = (p - 1) / 2
            · subst hyq; simp [hTq]
            · by_cases hyp : y = p
              · subst hyp; rw [upd_self]
                constructor
                · intro h; rw [hTp] at h; cases h
                · rintro ⟨_, a, ha, hac⟩; cases ha; exact absurd hac hbc
              · rw [upd_ne _ _ hyp, hT y]
                exact ⟨fun h => ⟨hyq, h.2⟩, fun h => ⟨hyp, h.2⟩⟩) x
          rw [key, firstFree_up hp hTq]
      · rw [sift_stay hp hb hvb, plain x]
        constructor
        · rintro (⟨h1, h2⟩ | h)
          · exact .inl ⟨h1, by rw [firstFree_last (hall (by omega)) hTp]; exact h2⟩
          · exact .inr h
        · rintro (⟨h1, h2⟩ | h)
          · exact .inl ⟨h1, by rw [firstFree_last (hall (by omega)) hTp] at h2; exact h2⟩
          · exact .inr h

theorem sift_dom (v : Int) : ∀ (p : Nat) (r : Row), Anc r p → ∀ x, (sift r v p x).isSome = true ↔ (x = p ∨ (r x).isSome = true) := by
  intro p
  induction p using Nat.strongRecOn with
  | ind p ih =>
    intro r hA x
    have plain : (upd r p (some v) x).isSome = true ↔ (x = p ∨ (r x).isSome = true) := by
      by_cases hx : x = p
      · subst hx; rw [upd_self]; simp
      · rw [upd_ne _ _ hx]; simp [hx]
    cases hA with
    | top => rw [sift_zero]; exact plain
    | step hp hb ha =>
      rename_i b
      by_cases hvb : v < b
      · rw [sift_up hp hb hvb, ih _ (by omega) _ (ha.upd (by omega)) x]
        by_cases hx : x = p
        · subst hx; rw [upd_self]; simp
        · rw [upd_ne _ _ hx]
          by_cases hxq : x = (p - 1) / 2
          · subst hxq; simp [hb]
          · simp [hx, hxq]
      · rw [sift_stay hp hb hvb]; exact plain

/-- how the row came about -/
inductive Hist : List (Nat × Int) → Row → Prop
  | nil : Hist [] (fun _ => none)
  | snoc {ps : List (Nat × Int)} {r : Row} {p : Nat} {v : Int} : Hist ps r → p < 63 → r p = none → (p = 0 ∨ ∃ b, r ((p - 1) / 2) = some b) → Hist (ps ++ [(p, v)]) (sift (upd r p (some v)) v p)

structure Good (ps : List (Nat × Int)) (r : Row) : Prop where
  dom : ∀ q, (r q).isSome = true ↔ q ∈ ps.map (·.1)
  taken : ∀ c q, takenOf c ps q = true ↔ ∃ a, r q = some a ∧ a < c
  heap : ∀ q a, q ≠ 0 → r q = some a → ∃ b, r ((q - 1) / 2) = some b ∧ b ≤ a

theorem Good.ord {ps : List (Nat × Int)} {r : Row} (G : Good ps r) : ∀ (q : Nat) {a : Int}, r q = some a → Ord r q := by
  intro q
  induction q using Nat.strongRecOn with
  | ind q ih =>
    intro a ha x hx
    by_cases hq : q = 0
    · subst hq; rw [wayN_zero] at hx; simp at hx; subst hx
      exact ⟨a, ha, fun h => absurd rfl h⟩
    · obtain ⟨b, hb, hba⟩ := G.heap q a hq ha
      rw [wayN_step hq] at hx
      rcases List.mem_append.mp hx with hx | hx
      · exact ih _ (by omega) hb x hx
      · simp at hx; subst hx; exact ⟨a, ha, fun _ => ⟨b, hb, hba⟩⟩
theorem Good.anc {ps : List (Nat × Int)} {r : Row} (G : Good ps r) : ∀ (p : Nat), (p = 0 ∨ ∃ b, r ((p - 1) / 2) = some b) → Anc r p := by
  intro p
  induction p using Nat.strongRecOn with
  | ind p ih =>
    intro h
    by_cases hp : p = 0
    · subst hp; exact .top
    · obtain ⟨b, hb⟩ := h.resolve_left hp
      refine .step hp hb (ih _ (by omega) ?_)
      by_cases hq : (p - 1) / 2 = 0
      · exact .inl hq
      · obtain ⟨c, hc, _⟩ := G.heap _ b hq hb
        exact .inr ⟨c, hc⟩

theorem Hist.good {ps : List (Nat × Int)} {r : Row} (H : Hist ps r) : Good ps r := by
  induction H with
  | nil => exact ⟨by simp, by simp [takenOf], by simp⟩
  | @snoc ps r p v H hp hr hpar G =>
    have hA : Anc (upd r p (some v)) p := (G.anc p hpar).upd (Nat.le_refl _)
    have hO : p ≠ 0 → Ord (upd r p (some v)) ((p - 1) / 2) := fun h0 => by
      obtain ⟨b, hb⟩ := hpar.resolve_left h0
      exact (G.ord _ hb).upd (by omega)
    have hTT : ∀ c x, takenOf c ps x = true ↔ (x ≠ p ∧ ∃ a, upd r p (some v) x = some a ∧ a < c) := fun c x => by
      rw [G.taken c x]
      by_cases hx : x = p
      · subst hx; simp [hr]
      · rw [upd_ne _ _ hx]; simp [hx]
    have htk : ∀ c q, takenOf c (ps ++ [(p, v)]) q = true ↔ ∃ a, sift (upd r p (some v)) v p q = some a ∧ a < c := fun c q => by
      rw [sift_takes v c p _ (takenOf c ps) hO (hTT c) q]
      rw [show takenOf c (ps ++ [(p, v)]) = takeStep c (takenOf c ps) (p, v) from by unfold takenOf; rw [List.foldl_append]; rfl]
      simp only [takeStep]
      by_cases hv : v < c
      · simp only [hv, if_true, true_and]
        by_cases hq : q = firstFree (takenOf c ps) (wayN p)
        · simp [hq]
        · simp [hq]
      · simp [hv]
    have hTp : ∀ c, takenOf c ps p = false := fun c => by
      cases h : takenOf c ps p with
      | false => rfl
      | true => exact absurd rfl ((hTT c p).mp h).1
    refine ⟨fun q => ?_, htk, fun q a hq ha => ?_⟩
    · rw [sift_dom v p _ hA q]
      by_cases hx : q = p
      · subst hx; simp
      · rw [upd_ne _ _ hx, G.dom q]; simp [hx]
    · have h1 := (htk (a + 1) q).mpr ⟨a, ha, by omega⟩
      have h2 : takenOf (a + 1) (ps ++ [(p, v)]) ((q - 1) / 2) = true := by
        have e : takenOf (a + 1) (ps ++ [(p, v)]) = takeStep (a + 1) (takenOf (a + 1) ps) (p, v) := by
          unfold takenOf; rw [List.foldl_append]; rfl
        rw [e] at h1 ⊢
        have closed : ∀ y, y ≠ 0 → takenOf (a + 1) ps y = true → takenOf (a + 1) ps ((y - 1) / 2) = true := fun y hy h => by
          obtain ⟨d, hd, hda⟩ := (G.taken _ _).mp h
          obtain ⟨b, hb, hbd⟩ := G.heap y d hy hd
          exact (G.taken _ _).mpr ⟨b, hb, by omega⟩
        unfold takeStep at h1 ⊢
        by_cases hv : v < a + 1
        · simp only [hv, if_true] at h1 ⊢
          by_cases hpar' : (q - 1) / 2 = firstFree (takenOf (a + 1) ps) (wayN p)
          · simp [hpar']
          · simp only [hpar', if_false]
            by_cases hqf : q = firstFree (takenOf (a + 1) ps) (wayN p)
            · rcases firstFree_parent p (hTp (a + 1)) with h | h
              · exact absurd (hqf.trans h) hq
              · rw [hqf]; exact h
            · simp only [hqf, if_false] at h1
              exact closed q hq h1
        · simp only [hv, if_false] at h1 ⊢
          exact closed q hq h1
      obtain ⟨b, hb, hba⟩ := (htk _ _).mp h2
      exact ⟨b, hb, by omega⟩

theorem Hist.before {ps : List (Nat × Int)} {r : Row} (H : Hist ps r) : ∀ (k : Nat) (x : Nat × Int), ps[k]? = some x → ∃ r', Hist (ps.take k) r' ∧ r' x.1 = none := by
  induction H with
  | nil => intro k x h; simp at h
  | @snoc ps r p v H hp hr hpar ih =>
    intro k x h
    rcases Nat.lt_trichotomy k ps.length with hk | hk | hk
    · rw [List.getElem?_append_left hk] at h
      rw [List.take_append_of_le_length (Nat.le_of_lt hk)]
      exact ih k x h
    · subst hk
      rw [List.getElem?_append_right (Nat.le_refl _)] at h
      simp at h; subst h
      rw [List.take_append_of_le_length (Nat.le_refl _), List.take_length]
      exact ⟨r, H, hr⟩
    · rw [List.getElem?_eq_none (by simp; omega)] at h; cases h

theorem Hist.free {ps : List (Nat × Int)} {r : Row} (H : Hist ps r) (c : Int) (k : Nat) (x : Nat × Int) (hx : ps[k]? = some x) : (wayN x.1).filter (fun a => !takenOf c (ps.take k) a) ≠ [] := by
  obtain ⟨r', H', hr'⟩ := H.before k x hx
  have : takenOf c (ps.take k) x.1 = false := by
    cases h : takenOf c (ps.take k) x.1 with
    | false => rfl
    | true => obtain ⟨a, ha, _⟩ := (H'.good.taken c x.1).mp h; rw [hr'] at ha; cases ha
  intro e
  have := List.filter_eq_nil_iff.mp e x.1 (self_mem_way _)
  simp_all

theorem takenOf_same {c d : Int} : ∀ {ps : List (Nat × Int)}, (∀ x ∈ ps, (x.2 < c ↔ x.2 < d)) → ∀ T, ps.foldl (takeStep c) T = ps.foldl (takeStep d) T
  | [], _, _ => rfl
  | x :: ps, h, T => by
    simp only [List.foldl_cons]
    have e : takeStep c T x = takeStep d T x := by
      unfold takeStep
      have := h x List.mem_cons_self
      by_cases hx : x.2 < c
      · rw [if_pos hx, if_pos (this.mp hx)]
      · rw [if_neg hx, if_neg (fun y => hx (this.mpr y))]
    rw [e]
    exact takenOf_same (fun y hy => h y (List.mem_cons_of_mem _ hy)) _

theorem Good.item {ps : List (Nat × Int)} {r : Row} (G : Good ps r) {q : Nat} {a : Int} (h : r q = some a) : a ∈ ps.map (·.2) := by
  refine Classical.byContradiction fun hn => ?_
  have e : takenOf a ps = takenOf (a + 1) ps := takenOf_same (fun x hx => by
    have : x.2 ≠ a := fun e => hn (List.mem_map.mpr ⟨x, hx, e⟩)
    omega) _
  have h1 := (G.taken (a + 1) q).mpr ⟨a, h, by omega⟩
  rw [← e] at h1
  obtain ⟨b, hb, hba⟩ := (G.taken a q).mp h1
  rw [h] at hb; cases hb; omega

theorem tell_at (T : Nat → Bool) (c : Int) (q : Nat) : ∀ (ps : List (Nat × Int)) (r : Row), (ps.foldl (tellStep T c) r) q = if q ∈ ps.map (·.1) ∧ T q = false then some c else r q
  | [], r => by simp
  | x :: ps, r => by
    simp only [List.foldl_cons]
    rw [tell_at T c q ps]
    unfold tellStep
    by_cases h1 : q ∈ ps.map (·.1) ∧ T q = false
    · rw [if_pos h1, if_pos ⟨List.mem_cons_of_mem _ h1.1, h1.2⟩]
    · rw [if_neg h1]
      by_cases hx : q = x.1
      · subst hx
        by_cases hT : T x.1 = true
        · rw [if_pos hT, if_neg (fun h => by rw [hT] at h; exact absurd h.2 (by simp))]
        · have hT' : T x.1 = false := by simpa using hT
          rw [if_neg hT, upd_self, if_pos ⟨List.mem_cons_self, hT'⟩]
      · have : ¬ (q ∈ (x :: ps).map (·.1) ∧ T q = false) := fun h => by
          rcases List.mem_cons.mp h.1 with e | e
          · exact hx e
          · exact h1 ⟨e, h.2⟩
        rw [if_neg this]
        split
        · rfl
        · rw [upd_ne _ _ hx]

/-- the law's heart -/
theorem Hist.told {ps : List (Nat × Int)} {r : Row} (H : Hist ps r) {ls : List Int} (h1 : ls.Pairwise (· ≤ ·)) (h2 : ∀ k, k ∈ ls ↔ k ∈ ps.map (·.2)) : toldOf ps ls = r := by
  have G := H.good
  funext q
  have step : ∀ (l : List Int) (r₀ : Row), (l.foldl (fun r c => tell ps c r) r₀) q = l.foldl (fun o c => if q ∈ ps.map (·.1) ∧ takenOf c ps q = false then some c else o) (r₀ q) := by
    intro l
    induction l with
    | nil => intro r₀; rfl
    | cons c l ih =>
      intro r₀
      simp only [List.foldl_cons]
      rw [ih]
      unfold tell
      rw [tell_at]
  unfold toldOf
  rw [step]
  cases hr : r q with
  | none =>
    have hq : q ∉ ps.map (·.1) := fun h => by have := (G.dom q).mpr h; rw [hr] at this; cases this
    have : ∀ l : List Int, l.foldl (fun o c => if q ∈ ps.map (·.1) ∧ takenOf c ps q = false then some c else o) none = none := by
      intro l
      induction l with
      | nil => rfl
      | cons c l ih => simp only [List.foldl_cons, hq, false_and, if_false]; simpa [hq] using ih
    exact this ls
  | some a =>
    have hq : q ∈ ps.map (·.1) := (G.dom q).mp (by rw [hr]; rfl)
    have hT : ∀ c, takenOf c ps q = false ↔ c ≤ a := fun c => by
      have := G.taken c q
      rw [hr] at this
      constructor
      · intro h
        refine Classical.byContradiction fun hc => ?_
        rw [this.mpr ⟨a, rfl, by omega⟩] at h; cases h
      · intro h
        cases ht : takenOf c ps q with
        | false => rfl
        | true => obtain ⟨b, hb, hbc⟩ := this.mp ht; cases hb; omega
    have e : (fun (o : Option Int) (c : Int) => if q ∈ ps.map (·.1) ∧ takenOf c ps q = false then some c else o) = fun o c => if c ≤ a then some c else o := by
      funext o c
      simp only [hq, true_and, hT c]
    rw [e]
    have ha : a ∈ ls := (h2 a).mpr (G.item hr)
    have fin : ∀ (n : Nat) (l : List Int), l.length = n → l.Pairwise (· ≤ ·) → a ∈ l → l.foldl (fun o c => if c ≤ a then some c else o) none = some a := by
      intro n
      induction n with
      | zero => intro l hl _ ha; rw [List.eq_nil_of_length_eq_zero hl] at ha; cases ha
      | succ n ih =>
        intro l hl hp ha
        have hne : l ≠ [] := fun e => by rw [e] at hl; cases hl
        have hd := List.dropLast_concat_getLast hne
        generalize hc : l.getLast hne = c at hd
        rw [← hd] at hp ha ⊢
        rw [List.foldl_append]
        simp only [List.foldl_cons, List.foldl_nil]
        obtain ⟨hp1, _, hp3⟩ := List.pairwise_append.mp hp
        by_cases hca : c ≤ a
        · rw [if_pos hca]
          rcases List.mem_append.mp ha with h | h
          · have := hp3 a h c (by simp)
            exact congrArg some (by omega)
          · simp at h; rw [h]
        · rw [if_neg hca]
          refine ih _ (by rw [List.length_dropLast, hl]; rfl) hp1 ?_
          rcases List.mem_append.mp ha with h | h
          · exact h
          · simp at h; omega
    exact fin _ ls rfl h1 ha
end Mine
end
section
open PySem PySem.W PyProof.Rows
namespace Mine
set_option maxRecDepth 100000
set_option linter.unusedSimpArgs false
set_option linter.unusedVariables false

abbrev lEnv (n : Str) (L a : Addr) (cd : Value) : Env := envOfC n (fnScope 4) L a cd
def st4 (i : Nat) : Stmt := (fnBody 4).getD i (.Pass ⟨0, 0, 0, 0⟩)

/-- all are ints -/
def AllI (vs : List Value) : Prop := ∀ v ∈ vs, ∃ k t, v = Value.int k t
theorem AllI.ints : ∀ {vs : List Value}, AllI vs → ∃ ns, IntsAre vs ns
  | [], _ => ⟨[], .nil⟩
  | v :: vs, h => by
    obtain ⟨k, t, rfl⟩ := h v List.mem_cons_self
    obtain ⟨ns, hn⟩ := AllI.ints (vs := vs) fun v hv => h v (List.mem_cons_of_mem _ hv)
    exact ⟨k :: ns, .cons k t hn⟩

section
variable {prog : Program} {w : World} {A : Around} {E : Value → Shared → Prop} {s : Shared} {mg mb : Str → Option Value} {env : Env}

/-- f(d, e), f a built-in function -/
theorem call2 {f : Str} {fp pos : Pos} {id : String} {d e : PySem.Expr} {Q : Value → Shared → Prop} (G : Gnd mg mb s.heap) (h1 : mg f = none) (h2 : mb f = some (.builtin id))
    (h : wpAny (model prog w) A (eval d env) (fun u s₁ => wpAny (model prog w) A (eval e env) (fun v s₂ => wpAny (model prog w) A (call (.builtin id) [u, v]) Q E s₂) E s₁) E s)
    (hk : env.scope.kind = .function := by rfl) (hx : env.kindOf f = some .globalImplicit := by rfl) (hg : env.globals = mainGlobals := by rfl) (hb : env.builtins = builtinsNs := by rfl) (hd : (f == ("__debug__" : Str)) = false := by decide)
    (he : starEach [d, e] env = [(false, eval d env), (false, eval e env)] := by rfl) :
    wpAny (model prog w) A (eval (.Call (.Name f fp) [d, e] [] pos) env) Q E s := by
  refine wpAny_Call_NameR (nameB G h1 h2 ?_ hk hx hg hb hd)
  rw [he]
  exact Calls.callWith_builtin rfl (Calls.evalArgs_plain (Calls.spliced_cons (wpAny_mono h (fun u s₁ h₁ => Calls.spliced_cons (wpAny_mono h₁ (fun v s₂ h₂ => Calls.spliced_nil h₂) fun _ _ x => x)) fun _ _ x => x)))

/-- T(c, d, e), T a built-in class -/
theorem call3T {f : Str} {fp pos : Pos} {T : String} {c d e : PySem.Expr} {Q : Value → Shared → Prop} (G : Gnd mg mb s.heap) (h1 : mg f = none) (h2 : mb f = some (.type T))
    (h : wpAny (model prog w) A (eval c env) (fun t s₀ => wpAny (model prog w) A (eval d env) (fun u s₁ => wpAny (model prog w) A (eval e env) (fun v s₂ => wpAny (model prog w) A (call (.type T) [t, u, v]) Q E s₂) E s₁) E s₀) E s)
    (hk : env.scope.kind = .function := by rfl) (hx : env.kindOf f = some .globalImplicit := by rfl) (hg : env.globals = mainGlobals := by rfl) (hb : env.builtins = builtinsNs := by rfl) (hd : (f == ("__debug__" : Str)) = false := by decide)
    (he : starEach [c, d, e] env = [(false, eval c env), (false, eval d env), (false, eval e env)] := by rfl) :
    wpAny (model prog w) A (eval (.Call (.Name f fp) [c, d, e] [] pos) env) Q E s := by
  refine wpAny_Call_NameR (nameB G h1 h2 ?_ hk hx hg hb hd)
  rw [he]
  exact PySem.callWith_type rfl (Calls.evalArgs_plain (Calls.spliced_cons (wpAny_mono h (fun t s₀ h₀ => Calls.spliced_cons (wpAny_mono h₀ (fun u s₁ h₁ => Calls.spliced_cons (wpAny_mono h₁ (fun v s₂ h₂ => Calls.spliced_nil h₂) fun _ _ x => x)) fun _ _ x => x)) fun _ _ x => x)))

/-- sum(xs), xs a list of ints -/
theorem sum_is {l : Addr} {items : Array Value} {ns : List Int} {Q : Value → Shared → Prop} (hh : A.handled = none) (hl : s.heap.IsList l items) (hi : IntsAre items.toList ns)
    (h : ∀ h' tk k t', (∀ b o, s.heap.get? b = some o → h'.get? b = some o) → Q (.int k t') { s with heap := h', toks := tk }) : wpAny (model prog w) A (call (.builtin "sum") [.ref l]) Q E s := by
  have hall : AllInts items := by simpa using hi.allInts
  obtain ⟨xs, rfl⟩ := hall.items
  exact sum_intListG hh hl fun h' tk t' hk => h h' tk _ t' hk

/-- the expression at the right of drawn's plus -/
def drawnComp : PySem.Expr := match st4 0 with
  | .Assign _ (.BinOp _ _ e _) _ => e
  | _ => .Constant .none 0 ⟨0, 0, 0, 0⟩

set_option maxHeartbeats 1000000 in
/-- [sum(script[k::16]) for k in range(min(16, len(script)))] -/
theorem law_comp {n : Str} {L a sc : Addr} {cd : Value} {items : Array Value} {ns : List Int} {Q : Value → Shared → Prop} (hh : A.handled = none) (G : Gnd mg mb s.heap)
    (g1 : mg "range" = none) (g2 : mb "range" = some (.type "range")) (g3 : mg "min" = none) (g4 : mb "min" = some (.builtin "min")) (g5 : mg "len" = none) (g6 : mb "len" = some (.builtin "len")) (g7 : mg "sum" = none) (g8 : mb "sum" = some (.builtin "sum"))
    (hc : s.heap.IsCell (L + 1) (some (.ref sc))) (hl : s.heap.IsList sc items) (hi : IntsAre items.toList ns) (hlen : ns.length ≤ 63)
    (hQ : ∀ D h' tk ys, h'.PlainList D ys → AllI ys.toList → ys.size ≤ 16 → s.heap.get? D = none → (∀ b o, s.heap.get? b = some o → h'.get? b = some o) → Q (.ref D) { s with heap := h', toks := tk }) :
    wpAny (model prog w) A (eval drawnComp (lEnv n L a cd)) Q E s := by
  have hsz : items.size = ns.length := by have := hi.length; simpa using this
  with_unfolding_all refine wpAny_ListComp_free (cl := [("script", L + 1)]) (fun _ => true) (fun _ y => ∃ k t, y = Value.int k t) (by with_unfolding_all rfl) (by decide) rfl (by decide) rfl ?_
  refine call1T G g1 g2 (call2 G g3 g4 (wpAny_Constant_int (call1 (s := { s with toks := s.toks + 1 }) G g5 g6 (ldC (c := L + 1) hc (Calls.call_len_list hl (by omega) (min_two_ints hh fun h₁ tk₁ k₁ => ?_))))))
  obtain ⟨N, tN, eN, hN⟩ : ∃ (N : Nat) (tN : Tok), (if (items.size : Int) < 16 then Value.int (items.size : Int) (s.toks + 1 + 1) else Value.int 16 s.toks) = Value.int (N : Int) tN ∧ N ≤ 16 := by
    by_cases h : (items.size : Int) < 16
    · rw [if_pos h]; exact ⟨_, _, rfl, by omega⟩
    · rw [if_neg h]; exact ⟨16, _, rfl, by omega⟩
  dsimp only
  rw [eN]
  refine call_range_1 ?_
  dsimp only
  refine wpAny_pyIter_range (IsRange.new ..) (small_one (by decide) (by decide) (by omega) (by omega)) ?_
  dsimp only
  have hrs : Builtin.Range.rangeSize 0 (N : Int) 1 = (N : Int) := by rw [rangeSize_one]; split <;> omega
  rw [hrs]
  generalize hH1 : h₁.push { cls := .type "range", data := .fields #[.int 0 tk₁, .int (N : Int) tN, .int 1 (tk₁ + 1)] } = H1
  have kH : ∀ b o, s.heap.get? b = some o → H1.get? b = some o := fun b o e => hH1 ▸ Heap.get?_push_of_some _ (k₁ b o e)
  have hI : (H1.push { cls := .type "range_iterator", data := .fields #[rawInt 0, rawInt N, rawInt 1] }).get? H1.objs.size = some { cls := .type "range_iterator", data := .fields #[rawInt 0, rawInt N, rawInt 1] } := Heap.get?_push_size _ rfl
  have hIs : s.heap.get? H1.objs.size = none := gets_new kH (gets_none (Nat.le_refl _))
  refine ⟨_, _, _, N, _, _, rfl, Walks.range hh _ 0 1 N, by rw [sizeLine_eq]; omega, by simpa [IsRangeIter] using hI, fun b hb => by rw [List.mem_singleton.mp hb, Heap.size_push]; exact Nat.lt_succ_self _, ⟨?_, ?_⟩, ?_⟩
  · intro C i v s₃ m₃ E' hC hP hn₃ hx₃ hk htk
    exact wpAny_tests_nil ⟨rfl, s₃.heap, s₃.toks, rfl, fun b o e => e⟩
  · intro C i v s₃ m₃ E' hC hP _ hn₃ hx₃ hk htk
    obtain ⟨t, rfl⟩ := hP
    have k₃ : ∀ b o, s.heap.get? b = some o → s₃.heap.get? b = some o := fun b o e => hk b o (fun hb => by rw [List.mem_singleton.mp hb, hIs] at e; cases e) (Heap.get?_push_of_some _ (kH b o e))
    refine call1 (G.keeps k₃) g7 g8 (wpAny_Subscript_Slice_step slot_list_getitem.lookup (ldC (c := L + 1) (hc.keeps k₃) (wpAny_Slice ?_)))
    rw [evalPart_some, evalPart_none, evalPart_some]
    refine ldH ⟨m₃, hn₃, hx₃⟩ (wpAny_pure (wpAny_Constant_int ?_))
    have hl₃ : s₃.heap.IsList sc items := hl.at fun o e => k₃ _ o e
    refine ⟨(hl₃.push _).typeIs, wpAny_getItem_list_slice (hl₃.push _) ⟨_, Heap.get?_push_size _ rfl, rfl, rfl⟩ (.int _ _) .none (.int _ _) (by decide) ?_ (by rw [hsz, sizeLine_eq]; omega)⟩
    obtain ⟨ms, hpk⟩ : ∃ ms, IntsAre (slicePick items.toList.toArray (some (0 + (i : Int) * 1)) none (some 16)).toList ms := ⟨_, IntsAre.pick hi _ _ _⟩
    rw [show items.toList.toArray = items from by simp] at hpk
    refine sum_is hh ⟨_, Heap.get?_push_size _ rfl, rfl, 0, rfl⟩ hpk fun h' tk k t' hk' => ⟨⟨k, t', rfl⟩, h', tk, rfl, fun b o e => hk' b o (Heap.get?_push_of_some _ (Heap.get?_push_of_some _ e))⟩
  · intro D h' tk ys us hD hl' hpl hul huP hpair hk
    refine hQ D h' tk ys hpl ?_ ?_ (gets_new (fun b o e => Heap.get?_push_of_some _ (kH b o e)) hD) fun b o e => hk b o (fun hb => by rw [List.mem_singleton.mp hb, hIs] at e; cases e) (Heap.get?_push_of_some _ (kH b o e))
    · have gen : ∀ {l l' : List Value}, Paired (fun _ y => ∃ k t, y = Value.int k t) l l' → AllI l' := by
        intro l l' h
        induction h with
        | nil => intro v hv; cases hv
        | cons h1 _ ih => intro v hv; rcases List.mem_cons.mp hv with rfl | hv; exact h1; exact ih v hv
      exact gen hpair
    · have h1 := hpair.length
      have h2 : (us.filter fun _ => true) = us := by simp
      rw [h2] at h1
      have h3 : ys.toList.length = ys.size := Array.length_toList
      show ys.size ≤ 16
      omega

set_option maxHeartbeats 1000000 in
/-- drawn = [..] + [sum(script[k::16]) for k in range(min(16, len(script)))] -/
theorem law_drawn {n : Str} {L a sc : Addr} {cd : Value} {items : Array Value} {ns : List Int} {Q : Flow → Shared → Prop} (hh : A.handled = none) (G : Gnd mg mb s.heap)
    (g1 : mg "range" = none) (g2 : mb "range" = some (.type "range")) (g3 : mg "min" = none) (g4 : mb "min" = some (.builtin "min")) (g5 : mg "len" = none) (g6 : mb "len" = some (.builtin "len")) (g7 : mg "sum" = none) (g8 : mb "sum" = some (.builtin "sum"))
    (hn : IsNs s.heap L) (hc : s.heap.IsCell (L + 1) (some (.ref sc))) (hl : s.heap.IsList sc items) (hi : IntsAre items.toList ns) (hlen : ns.length ≤ 63)
    (hQ : ∀ D h' tk vs, h'.IsList D vs → AllI vs.toList → vs.size ≤ 23 → s.heap.get? D = none → Has h' L "drawn" (.ref D) → (∀ b o, b ≠ L → s.heap.get? b = some o → h'.get? b = some o) → Q .next { s with heap := h', toks := tk }) :
    wpAny (model prog w) A (exec (st4 0) (lEnv n L a cd)) Q E s := by
  have hsz : items.size = ns.length := by have := hi.length; simpa using this
  with_unfolding_all refine wpAny_Assign_Name ?_
  refine wpAny_BinOp (wpAny_List ?_)
  iterate 7 refine wpAny_items_cons (wpAny_Constant_int ?_)
  refine wpAny_items_nil ⟨by simp [sizeLine_eq], ?_⟩
  dsimp only
  refine law_comp hh (G.keeps fun b o e => Heap.get?_push_of_some _ e) g1 g2 g3 g4 g5 g6 g7 g8 (cell_at hc fun o e => Heap.get?_push_of_some _ e) (hl.push _) hi hlen fun D h' tk ys hD hI hz hDn hk => ?_
  obtain ⟨n2, hD2⟩ := hD
  refine PySem.P.add_list (hk _ _ (Heap.get?_push_size _ rfl)) hD2 ?_ (by simp only [List.size_toArray, List.length_cons, List.length_nil, sizeLine_eq]; omega)
  have hk' : ∀ b o, s.heap.get? b = some o → h'.get? b = some o := fun b o e => hk b o (Heap.get?_push_of_some _ e)
  refine stH (s := { s with heap := h'.push _, toks := tk }) (hn.at fun o e => Heap.get?_push_of_some _ (hk' _ o e)) fun h₂ n₂ kk₂ hs₂ => ?_
  replace hs₂ : Heap.SameBut L (h'.push _) h₂ := hs₂
  have hLn : h'.objs.size ≠ L := by
    obtain ⟨m, hm⟩ := hn
    exact Nat.ne_of_gt (Heap.Ns.lt (hm.keeps hk'))
  refine hQ h'.objs.size h₂ _ _ ⟨_, hs₂.extBut _ _ hLn (Heap.get?_push_size _ rfl), rfl, 0, rfl⟩ ?_ ?_ (gets_new hk' (gets_none (Nat.le_refl _))) n₂ fun b o hb e => hs₂.extBut b o hb (Heap.get?_push_of_some _ (hk' b o e))
  · intro v hv
    rw [Array.toList_append] at hv
    rcases List.mem_append.mp hv with hv | hv
    · simp only [List.mem_cons, List.not_mem_nil, or_false] at hv
      rcases hv with rfl | rfl | rfl | rfl | rfl | rfl | rfl <;> exact ⟨_, _, rfl⟩
    · exact hI v hv
  · simp only [Array.size_append, List.size_toArray, List.length_cons, List.length_nil]; omega
end
end Mine
end
section
open PySem PySem.W PyProof.Rows
namespace Mine
set_option maxRecDepth 100000
set_option linter.unusedSimpArgs false
set_option linter.unusedVariables false

/-! ## the free places -/
def subN (q : Nat) : Nat := if q < 1 then 63 else if q < 3 then 31 else if q < 7 then 15 else if q < 15 then 7 else if q < 31 then 3 else if q < 63 then 1 else 0
def kids (p : Nat) : List Nat := [2 * p + 1, 2 * p + 2].filter fun a => decide (a < 63)
theorem subN_kids : ∀ p, p < 63 → subN p = 1 + ((kids p).map subN).sum := by decide
theorem kids_mem {p q : Nat} (h : q ∈ kids p) : q < 63 ∧ q ≠ 0 ∧ (q - 1) / 2 = p := by
  obtain ⟨h1, h2⟩ := List.mem_filter.mp h
  simp at h1 h2
  omega
theorem kids_nodup (p : Nat) : (kids p).Nodup := by
  refine List.Nodup.sublist List.filter_sublist ?_
  simp
theorem kids_length (p : Nat) : (kids p).length ≤ 2 := List.length_filter_le _ _

structure FreeOk (fs : List Nat) (r : Row) (n : Nat) : Prop where
  nd : fs.Nodup
  ok : ∀ q ∈ fs, q < 63 ∧ r q = none ∧ (q = 0 ∨ ∃ b, r ((q - 1) / 2) = some b)
  sum : (fs.map subN).sum + n = 63
  len : fs.length ≤ n + 1

theorem FreeOk.start : FreeOk [0] (fun _ => none) 0 := ⟨by simp, by simp, by decide, by simp⟩
theorem FreeOk.pos {fs : List Nat} {r : Row} {n : Nat} (F : FreeOk fs r n) (hn : n < 63) : 0 < fs.length := by
  cases fs with
  | nil => have := F.sum; simp at this; omega
  | cons a l => simp

theorem FreeOk.step {fs : List Nat} {r : Row} {n k : Nat} {ps : List (Nat × Int)} {v : Int} (F : FreeOk fs r n) (H : Hist ps r) (hk : k < fs.length) :
    FreeOk (fs.eraseIdx k ++ kids fs[k]) (sift (upd r fs[k] (some v)) v fs[k]) (n + 1) := by
  obtain ⟨hp63, hpn, hpp⟩ := F.ok _ (List.getElem_mem hk)
  have G := H.good
  have hperm := perm_erase hk
  have hnd : (fs[k] :: fs.eraseIdx k).Nodup := hperm.nodup_iff.mpr F.nd
  have hsum : subN fs[k] + ((fs.eraseIdx k).map subN).sum = (fs.map subN).sum := by
    have := (hperm.map subN).sum_nat
    simpa using this
  generalize fs[k] = p at *
  obtain ⟨hpe, hnd'⟩ := List.nodup_cons.mp hnd
  have hA : Anc (upd r p (some v)) p := (G.anc p hpp).upd (Nat.le_refl _)
  have hdom := fun q => sift_dom v p _ hA q
  have none_of : ∀ q, q ≠ p → r q = none → sift (upd r p (some v)) v p q = none := fun q hq hr => by
    have h1 := hdom q
    rw [upd_ne _ _ hq, hr] at h1
    cases h : sift (upd r p (some v)) v p q with
    | none => rfl
    | some a => rw [h] at h1; simp [hq] at h1
  have some_of : ∀ q, (q = p ∨ (r q).isSome = true) → ∃ b, sift (upd r p (some v)) v p q = some b := fun q hq => by
    have h1 : (sift (upd r p (some v)) v p q).isSome = true := (hdom q).mpr (by
      by_cases e : q = p
      · exact .inl e
      · right; rw [upd_ne _ _ e]; exact hq.resolve_left e)
    exact Option.isSome_iff_exists.mp h1
  have old : ∀ q ∈ fs.eraseIdx k, q ∈ fs := fun q hq => hperm.mem_iff.mp (List.mem_cons_of_mem _ hq)
  have kidNone : ∀ q ∈ kids p, r q = none := fun q hq => by
    obtain ⟨_, hq0, hqp⟩ := kids_mem hq
    cases h : r q with
    | none => rfl
    | some a => obtain ⟨b, hb, _⟩ := G.heap q a hq0 h; rw [hqp, hpn] at hb; cases hb
  refine ⟨?_, fun q hq => ?_, ?_, ?_⟩
  · rw [List.nodup_append]
    refine ⟨hnd', kids_nodup p, fun a ha b hb e => ?_⟩
    subst e
    obtain ⟨_, ha0, hap⟩ := kids_mem hb
    obtain ⟨_, _, h3⟩ := F.ok a (old a ha)
    rcases h3 with h3 | ⟨b, hb⟩
    · exact ha0 h3
    · rw [hap, hpn] at hb; cases hb
  · rcases List.mem_append.mp hq with hq | hq
    · obtain ⟨h1, h2, h3⟩ := F.ok q (old q hq)
      have hqp : q ≠ p := fun e => hpe (e ▸ hq)
      refine ⟨h1, none_of q hqp h2, h3.imp id fun ⟨b, hb⟩ => some_of _ (.inr (by rw [hb]; rfl))⟩
    · obtain ⟨h1, h2, h3⟩ := kids_mem hq
      exact ⟨h1, none_of q (by omega) (kidNone q hq), .inr (by rw [h3]; exact some_of p (.inl rfl))⟩
  · have h1 := F.sum
    have h2 := subN_kids p hp63
    rw [List.map_append, List.sum_append_nat]
    omega
  · have h1 := F.len
    have h2 := kids_length p
    rw [List.length_append, List.length_eraseIdx_of_lt hk]
    omega
end Mine
end
section
open PySem PySem.W PyProof.Rows
namespace Mine
set_option maxRecDepth 100000
set_option linter.unusedSimpArgs false
set_option linter.unusedVariables false

theorem IntsAre.eraseN : ∀ {vs : List Value} {ns : List Nat}, IntsAre vs (natInts ns) → ∀ k, IntsAre (vs.eraseIdx k) (natInts (ns.eraseIdx k))
  | _, [], h, k => by cases h; exact .nil
  | _, n :: ns, h, k => by
    cases h with
    | cons _ t hr =>
      cases k with
      | zero => exact hr
      | succ k => exact .cons _ t (IntsAre.eraseN hr k)
theorem natInts_append (a b : List Nat) : natInts (a ++ b) = natInts a ++ natInts b := by simp [natInts]

section
variable {prog : Program} {w : World} {A : Around} {E : Value → Shared → Prop} {s : Shared} {mg mb : Str → Option Value}

set_option maxHeartbeats 1000000 in
/-- place = free.pop(x % len(free)) -/
theorem law_pop {n : Str} {L a fr : Addr} {cd : Value} {fs : Array Value} {fl : List Nat} {k : Int} {tx : Tok} {cv : Option Value} {Q : Flow → Shared → Prop} (hh : A.handled = none) (G : Gnd mg mb s.heap)
    (g5 : mg "len" = none) (g6 : mb "len" = some (.builtin "len")) (h1 : Has s.heap L "free" (.ref fr)) (h2 : Has s.heap L "x" (.int k tx)) (h3 : s.heap.PlainList fr fs) (h4 : IntsAre fs.toList (natInts fl)) (hpos : 0 < fl.length) (hlen : fl.length ≤ 1000)
    (h5 : s.heap.IsCell (L + 2) cv)
    (hQ : ∀ h' tk fs' i (hi : i < fl.length) tp, h'.PlainList fr fs' → IntsAre fs'.toList (natInts (fl.eraseIdx i)) → h'.IsCell (L + 2) (some (.int ((fl[i] : Nat) : Int) tp)) → (∀ b o, b ≠ fr → b ≠ L + 2 → s.heap.get? b = some o → h'.get? b = some o) → Q .next { s with heap := h', toks := tk }) :
    wpAny (model prog w) A (exec (inFor (st4 4) 0) (lEnv n L a cd)) Q E s := by
  obtain ⟨nf, hf⟩ := id h3
  have hsz : fs.size = fl.length := by have := h4.length; simpa [natInts] using this
  have hfc : fr ≠ L + 2 := ne_list_cell h3.isList h5
  have hm0 : 0 ≤ k.fmod fs.size := Int.fmod_nonneg_of_pos k (by omega)
  have hm1 : k.fmod fs.size < fs.size := Int.fmod_lt_of_pos k (by omega)
  generalize hkk : k.fmod fs.size = kk at hm0 hm1
  have hi : kk.toNat < fl.length := by omega
  have hget : (natInts fl)[kk.toNat]? = some ((fl[kk.toNat] : Nat) : Int) := by simp [natInts, hi]
  obtain ⟨tp, htp⟩ := h4.get _ _ hget
  with_unfolding_all refine wpAny_Assign_Name ?_
  refine wpAny_Call_method (T := "list") (by with_unfolding_all rfl) (by with_unfolding_all rfl) (by rfl) PySem.F.plainAttrs_list PySem.F.slot_list_pop PySem.F.type_list_pop (ldH h1 ⟨h3.isList.typeIs, fun c e => ?_, ?_⟩)
  · cases e; exact ⟨_, hf, rfl⟩
  refine PySem.P.pop_at_list (wpAny_BinOp (ldH h2 (call1 G g5 g6 (ldH h1 (Calls.call_len_list h3.isList (by omega) (mod_int' (by omega) ?_))))))
  refine ⟨fs, nf, _, _, kk.toNat, _, by rw [hsz, sizeLine_eq]; omega, rfl, hf, by rw [hkk]; exact fitsIndex_of hm0 (by omega), by rw [hkk]; exact seqIndex_of hm0 hm1, by rw [← Array.getElem?_toList]; exact htp, ?_⟩
  have hf2 := IsL.update hf (fun xs => xs.eraseIdxIfInBounds kk.toNat)
  refine wpAny_storeName_cell (c := L + 2) rfl rfl rfl (h5.sameBut (Heap.SameBut.update ..) (Ne.symm hfc)) fun h' hc' hs' => ?_
  replace hs' : Heap.SameBut (L + 2) (s.heap.update fr _) h' := hs'
  refine hQ h' _ _ kk.toNat hi tp ⟨_, hs'.extBut _ _ hfc hf2⟩ ?_ hc' fun b o hb1 hb2 e => hs'.extBut b o hb2 ((Heap.get?_update_other _ _ (Ne.symm hb1)).trans e)
  have e : (fs.eraseIdxIfInBounds kk.toNat).toList = fs.toList.eraseIdx kk.toNat := by simp [Array.eraseIdxIfInBounds, hsz, hi]
  rw [e]
  exact IntsAre.eraseN h4 _
end
end Mine
end
section
open PySem PySem.W PyProof.Rows
namespace Mine
set_option maxRecDepth 100000
set_option linter.unusedSimpArgs false
set_option linter.unusedVariables false
section
variable {prog : Program} {w : World} {A : Around} {E : Value → Shared → Prop} {s : Shared} {mg mb : Str → Option Value}

theorem IntsAre.filterLt : ∀ {vs : List Value} {ns : List Nat}, IntsAre vs (natInts ns) → IntsAre (vs.filter fun v => match v with | .int k _ => decide (k < 63) | _ => false) (natInts (ns.filter fun a => decide (a < 63)))
  | _, [], h => by cases h; exact .nil
  | _, n :: ns, h => by
    cases h with
    | cons _ t hr =>
      have ih := IntsAre.filterLt hr
      by_cases hT : n < 63
      · rw [List.filter_cons_of_pos (by simp; omega), List.filter_cons_of_pos (by simp [hT])]; exact .cons _ t ih
      · rw [List.filter_cons_of_neg (by simp; omega), List.filter_cons_of_neg (by simp [hT])]; exact ih

theorem IntsAre.app : ∀ {vs us : List Value} {ns ms : List Int}, IntsAre vs ns → IntsAre us ms → IntsAre (vs ++ us) (ns ++ ms)
  | _, _, _, _, .nil, h => h
  | _, _, _, _, .cons k t hr, h => .cons k t (IntsAre.app hr h)

set_option maxHeartbeats 1000000 in
/-- free.extend([at for at in (2 * place + 1, 2 * place + 2) if at < 63]) -/
theorem law_extend {n : Str} {L a fr : Addr} {cd : Value} {fs : Array Value} {fl : List Nat} {p : Nat} {tp : Tok} {Q : Flow → Shared → Prop} (hh : A.handled = none)
    (h1 : Has s.heap L "free" (.ref fr)) (h3 : s.heap.PlainList fr fs) (h4 : IntsAre fs.toList (natInts fl)) (hlen : fl.length ≤ 1000) (h5 : s.heap.IsCell (L + 2) (some (.int (p : Int) tp))) (hp : p < 63)
    (hQ : ∀ h' tk fs', h'.PlainList fr fs' → IntsAre fs'.toList (natInts (fl ++ kids p)) → (∀ b o, b ≠ fr → s.heap.get? b = some o → h'.get? b = some o) → Q .next { s with heap := h', toks := tk }) :
    wpAny (model prog w) A (exec (inFor (st4 4) 1) (lEnv n L a cd)) Q E s := by
  obtain ⟨nf, hf⟩ := id h3
  have hsz : fs.size = fl.length := by have := h4.length; simpa [natInts] using this
  with_unfolding_all refine wpAny_Expr ?_
  refine wpAny_Call_method (T := "list") (by with_unfolding_all rfl) (by with_unfolding_all rfl) (by rfl) PySem.F.plainAttrs_list PySem.F.slot_list_extend PySem.F.type_list_extend (ldH h1 ⟨h3.isList.typeIs, fun c e => ?_, ?_⟩)
  · cases e; exact ⟨_, hf, rfl⟩
  refine PySem.P.extend_list ?_
  refine wpAny_ListComp_free (cl := []) (fun v => match v with | .int k _ => decide (k < 63) | _ => false) (fun v y => y = v) (by with_unfolding_all rfl) (by decide) rfl (by decide) rfl ?_
  refine wpAny_Tuple (wpAny_items_cons (wpAny_BinOp (wpAny_BinOp (wpAny_Constant_int (ldC (c := L + 2) h5 (mul_int ?_ (IntMulOk.of_left (by decide))))))))
  refine wpAny_Constant_int (add_int (wpAny_items_cons (wpAny_BinOp (wpAny_BinOp (wpAny_Constant_int (ldC (c := L + 2) h5 (mul_int ?_ (IntMulOk.of_left (by decide)))))))))
  refine wpAny_Constant_int (add_int (wpAny_items_nil ⟨by simp [sizeLine_eq], ?_⟩))
  dsimp only
  generalize s.toks + 1 + 1 + 1 + 1 + 1 + 1 + 1 = tb
  generalize s.toks + 1 + 1 + 1 = ta
  have hvi : IntsAre (#[Value.int (2 * (p : Int) + 1) ta, Value.int (2 * (p : Int) + 2) tb] : Array Value).toList (natInts [2 * p + 1, 2 * p + 2]) := by
    show IntsAre _ [((2 * p + 1 : Nat) : Int), ((2 * p + 2 : Nat) : Int)]
    have e1 : ((2 * p + 1 : Nat) : Int) = 2 * (p : Int) + 1 := by omega
    have e2 : ((2 * p + 2 : Nat) : Int) = 2 * (p : Int) + 2 := by omega
    rw [e1, e2]
    exact .cons _ _ (.cons _ _ .nil)
  have hvsz : (#[Value.int (2 * (p : Int) + 1) ta, Value.int (2 * (p : Int) + 2) tb] : Array Value).size = 2 := rfl
  generalize (#[Value.int (2 * (p : Int) + 1) ta, Value.int (2 * (p : Int) + 2) tb] : Array Value) = vs at hvi hvsz ⊢
  generalize hH1 : s.heap.push { cls := .type "tuple", data := .seq vs } = H1
  have k1 : ∀ b o, s.heap.get? b = some o → H1.get? b = some o := fun b o e => hH1 ▸ Heap.get?_push_of_some _ e
  have hT : H1.IsTuple s.heap.objs.size vs := ⟨_, hH1 ▸ Heap.get?_push_size _ rfl, rfl, 0, rfl⟩
  generalize s.heap.objs.size = T at hT ⊢
  obtain ⟨oT, hoT, _⟩ := id hT
  have hTI : T ≠ H1.objs.size := Nat.ne_of_lt (Heap.lt_size hoT)
  have hold : ∀ b o, s.heap.get? b = some o → b ≠ H1.objs.size := fun b o e => Nat.ne_of_lt (Heap.lt_size (k1 b o e))
  refine wpAny_pyIter_tuple hT ?_
  have hkI : ∀ (h₃ : Heap), (∀ b o, b ∉ [H1.objs.size] → (H1.push { cls := .type "tuple_iterator", data := .fields #[.ref T, .int 0 0] }).get? b = some o → h₃.get? b = some o) → ∀ b o, s.heap.get? b = some o → h₃.get? b = some o :=
    fun h₃ hk b o e => hk b o (by simp; exact hold b o e) (Heap.get?_push_of_some _ (k1 b o e))
  refine ⟨_, _, _, _, _, _, rfl, Walks.tuple hh _ T hTI vs, by rw [hvsz, sizeLine_eq]; omega, ⟨⟨_, Heap.get?_push_size _ rfl, rfl, rfl⟩, hT.push _⟩, ?_, ⟨?_, ?_⟩, ?_⟩
  · intro b hb
    rw [Heap.size_push]
    rcases List.mem_cons.mp hb with rfl | hb
    · exact Nat.lt_succ_self _
    · rw [List.mem_singleton.mp hb]; exact Nat.lt_succ_of_lt (Heap.lt_size hoT)
  · intro C i v s₃ m₃ E' hC hP hn₃ hx₃ hk htk
    obtain ⟨k, t, rfl, _⟩ := IntsAre.at hvi i v (by rw [Array.getElem?_toList]; exact hP)
    refine wpAny_tests_one (wpAny_isTrue_Compare1 (ldH ⟨m₃, hn₃, hx₃⟩ (wpAny_Constant_int (lt_int (wpAny_truthy_bool ⟨rfl, s₃.heap, _, rfl, fun b o e => e⟩)))))
  · intro C i v s₃ m₃ E' hC hP hpv hn₃ hx₃ hk htk
    exact ldH ⟨m₃, hn₃, hx₃⟩ ⟨rfl, s₃.heap, s₃.toks, rfl, fun b o e => e⟩
  · intro D h' tk ys us hD hl hpl hul huP hpair hk
    have hk' := hkI h' hk
    have hus : us = vs.toList := by
      apply List.ext_getElem?
      intro j
      by_cases hj : j < us.length
      · rw [List.getElem?_eq_getElem hj, Array.getElem?_toList, huP j _ (List.getElem?_eq_getElem hj)]
      · rw [List.getElem?_eq_none (by omega), Array.getElem?_toList, Array.getElem?_eq_none (by omega)]
    have hys := paired_eq hpair
    rw [hus] at hys
    have hyi : IntsAre ys.toList (natInts (kids p)) := by rw [hys]; exact IntsAre.filterLt hvi
    have hysz : ys.size ≤ 2 := by
      have h1 := hyi.length
      have h2 := kids_length p
      simp only [natInts, List.length_map, Array.length_toList] at h1
      omega
    obtain ⟨n2, hD2⟩ := hpl
    have hf' := hk' _ _ hf
    refine ⟨D, fs, ys, nf, n2, by rw [sizeLine_eq]; omega, by rw [sizeLine_eq]; omega, by simp [Builtin.List.listTooLong, sizeLine]; intro _; omega, rfl, hf', hD2, ?_⟩
    have hf2 := IsL.update hf' (fun xs => xs ++ ys)
    refine hQ _ _ _ ⟨_, hf2⟩ ?_ fun b o hb e => (Heap.get?_update_other _ _ (Ne.symm hb)).trans (hk' b o e)
    rw [natInts_append, Array.toList_append]
    exact IntsAre.app h4 hyi

set_option maxHeartbeats 1000000 in
/-- item = x // 8 if x % 8 < 4 else x // 8 % 3 -/
theorem law_item {n : Str} {L a : Addr} {cd : Value} {k : Int} {tx : Tok} {Q : Flow → Shared → Prop} (h2 : Has s.heap L "x" (.int k tx))
    (hQ : ∀ h' tk v tv, Has h' L "item" (.int v tv) → (∀ (y : Str) u, ¬ y = "item" → Has s.heap L y u → Has h' L y u) → (∀ b o, b ≠ L → s.heap.get? b = some o → h'.get? b = some o) → Q .next { s with heap := h', toks := tk }) :
    wpAny (model prog w) A (exec (inFor (st4 4) 2) (lEnv n L a cd)) Q E s := by
  have fin : ∀ v tv tk, wpAny (model prog w) A (storeName (lEnv n L a cd) "item" (.int v tv)) (fun _ s' => Q .next s') E { s with toks := tk } := fun v tv tk =>
    stH (s := { s with toks := tk }) h2.ns fun h' n₁ kk₁ hs₁ => hQ h' _ v tv n₁ kk₁ fun b o hb e => Heap.SameBut.extBut hs₁ b o hb e
  with_unfolding_all refine wpAny_Assign_Name ?_
  refine wpAny_IfExp (wpAny_isTrue_Compare1 (wpAny_BinOp (ldH h2 (wpAny_Constant_int (mod_int' (by decide) (wpAny_Constant_int (lt_int (wpAny_truthy_bool ?_))))))))
  by_cases hc : k.fmod 8 < 4
  · rw [if_pos (by simpa using hc)]
    refine wpAny_BinOp (ldH (s := { s with toks := _ }) h2 (wpAny_Constant_int (floordiv_int (by decide) ?_)))
    exact fin _ _ _
  · rw [if_neg (by simpa using hc)]
    refine wpAny_BinOp (wpAny_BinOp (ldH (s := { s with toks := _ }) h2 (wpAny_Constant_int (floordiv_int (by decide) (wpAny_Constant_int (mod_int' (by decide) ?_))))))
    exact fin _ _ _
end
end Mine
end
section
open PySem PySem.W PyProof.Rows
namespace Mine
set_option maxRecDepth 100000
set_option linter.unusedSimpArgs false
set_option linter.unusedVariables false

/-! ## the way to a place -/
def shr (p : Nat) (k : Int) : Int := ((p : Int) + 1).fdiv (2 ^ k.toNat)
def wayI (p : Nat) : List Int := (([5, 4, 3, 2, 1, 0] : List Int).filter fun k => decide (0 < shr p k)).map fun k => shr p k - 1
theorem wayI_step : ∀ p : Nat, p < 63 → p ≠ 0 → wayI p = wayI ((p - 1) / 2) ++ [(p : Int)] := by decide +kernel
theorem wayI_is : ∀ p : Nat, p < 63 → wayI p = natInts (wayN p) := by
  intro p
  induction p using Nat.strongRecOn with
  | ind p ih =>
    intro hp
    by_cases h0 : p = 0
    · subst h0
      rw [wayN, dif_pos rfl]
      decide +kernel
    · rw [wayI_step p hp h0, ih ((p - 1) / 2) (by omega) (by omega), wayN.eq_1 p, dif_neg h0, natInts_append]
      rfl

theorem way_paired (p : Nat) : ∀ {us : List Value} {ks : List Int} {ys : List Value}, IntsAre us ks →
    Paired (fun v y => ∃ k t t', v = Value.int k t ∧ y = Value.int (shr p k - 1) t') (us.filter fun v => match v with | .int k _ => decide (0 < shr p k) | _ => false) ys → IntsAre ys ((ks.filter fun k => decide (0 < shr p k)).map fun k => shr p k - 1)
  | _, [], _, h, hp => by cases h; cases hp; exact .nil
  | _, k :: ks, _, h, hp => by
    cases h with
    | cons _ t hr =>
      by_cases hT : 0 < shr p k
      · rw [List.filter_cons_of_pos (by simp [hT])] at hp
        rw [List.filter_cons_of_pos (by simp [hT])]
        cases hp with
        | cons h1 h2 =>
          obtain ⟨k', t1, t2, e1, rfl⟩ := h1
          cases e1
          exact .cons _ _ (way_paired p hr h2)
      · rw [List.filter_cons_of_neg (by simp [hT])] at hp
        rw [List.filter_cons_of_neg (by simp [hT])]
        exact way_paired p hr hp

theorem six_ints {us : List Value} (hl : us.length = 6) (h : ∀ (j : Nat) (v : Value), us[j]? = some v → ∃ t, v = Value.int (5 + (j : Int) * (-1)) t) : IntsAre us [5, 4, 3, 2, 1, 0] := by
  match us, hl with
  | [a, b, c, d, e, f], _ =>
    obtain ⟨t0, rfl⟩ := h 0 a rfl
    obtain ⟨t1, rfl⟩ := h 1 b rfl
    obtain ⟨t2, rfl⟩ := h 2 c rfl
    obtain ⟨t3, rfl⟩ := h 3 d rfl
    obtain ⟨t4, rfl⟩ := h 4 e rfl
    obtain ⟨t5, rfl⟩ := h 5 f rfl
    exact .cons _ _ (.cons _ _ (.cons _ _ (.cons _ _ (.cons _ _ (.cons _ _ .nil)))))

theorem walks_bound {prog : Program} {w : World} {A : Around} {I : Addr} {fp wr : List Addr} {n : Nat} {P : Nat → Value → Prop} {St : Nat → Heap → Prop} (W : Walks prog w A I fp wr n P St) : Walks prog w A I fp wr n (fun i v => i < n ∧ P i v) St where
  sub := W.sub
  frame := W.frame
  item := fun i s Q E hi st hQ => W.item i s Q E hi st fun v h' tk hP => hQ v h' tk ⟨hi, hP⟩
  done := W.done
  self := W.self

section
variable {prog : Program} {w : World} {A : Around} {E : Value → Shared → Prop} {s : Shared} {mg mb : Str → Option Value}

set_option maxHeartbeats 2000000 in
/-- laid.append(([(place + 1 >> k) - 1 for k in range(5, -1, -1) if place + 1 >> k > 0], item)) -/
theorem law_append {n : Str} {L a la : Addr} {cd : Value} {items : Array Value} {p : Nat} {tp : Tok} {v : Int} {tv : Tok} {Q : Flow → Shared → Prop} (hh : A.handled = none) (G : Gnd mg mb s.heap)
    (g1 : mg "range" = none) (g2 : mb "range" = some (.type "range"))
    (h1 : Has s.heap L "laid" (.ref la)) (h2 : Has s.heap L "item" (.int v tv)) (h3 : s.heap.PlainList la items) (hlen : items.size ≤ 1000) (h5 : s.heap.IsCell (L + 2) (some (.int (p : Int) tp))) (hp : p < 63)
    (hQ : ∀ h' tk T W ws, h'.PlainList la (items.push (.ref T)) → h'.IsTuple T #[.ref W, .int v tv] → h'.IsList W ws → IntsAre ws.toList (natInts (wayN p)) → s.heap.get? T = none → s.heap.get? W = none → (∀ b o, b ≠ la → s.heap.get? b = some o → h'.get? b = some o) → Q .next { s with heap := h', toks := tk }) :
    wpAny (model prog w) A (exec (inFor (st4 4) 3) (lEnv n L a cd)) Q E s := by
  obtain ⟨nf, hf⟩ := id h3
  with_unfolding_all refine wpAny_Expr ?_
  refine wpAny_Call_method (T := "list") (by with_unfolding_all rfl) (by with_unfolding_all rfl) (by rfl) PySem.F.plainAttrs_list PySem.F.slot_list_append PySem.F.type_list_append (ldH h1 ⟨h3.isList.typeIs, fun c e => ?_, ?_⟩)
  · cases e; exact ⟨_, hf, rfl⟩
  refine PySem.P.append_list ?_
  rw [if_neg (by decide)]
  refine wpAny_Tuple (wpAny_items_cons ?_)
  refine wpAny_ListComp_free (cl := [("place", L + 2)]) (fun v => match v with | .int k _ => decide (0 < shr p k) | _ => false) (fun v y => ∃ k t t', v = Value.int k t ∧ y = Value.int (shr p k - 1) t') (by with_unfolding_all rfl) (by decide) rfl (by decide) rfl ?_
  refine call3T G g1 g2 (wpAny_Constant_int (wpAny_UnaryOp (wpAny_Constant_int (neg_int (wpAny_UnaryOp (wpAny_Constant_int (neg_int (call_range_3 (by decide) ?_))))))))
  dsimp only
  refine wpAny_pyIter_range (IsRange.new ..) (by decide) ?_
  dsimp only
  have hrs : Builtin.Range.rangeSize 5 (-1) (-1) = ((6 : Nat) : Int) := by decide
  rw [hrs]
  generalize hH1 : s.heap.push { cls := .type "range", data := .fields #[.int 5 s.toks, .int (-1) (s.toks + 1 + 1), .int (-1) (s.toks + 1 + 1 + 1 + 1)] } = H1
  have kH : ∀ b o, s.heap.get? b = some o → H1.get? b = some o := fun b o e => hH1 ▸ Heap.get?_push_of_some _ e
  have hI : (H1.push { cls := .type "range_iterator", data := .fields #[rawInt 5, rawInt ((6 : Nat) : Int), rawInt (-1)] }).get? H1.objs.size = some { cls := .type "range_iterator", data := .fields #[rawInt 5, rawInt ((6 : Nat) : Int), rawInt (-1)] } := Heap.get?_push_size _ rfl
  have hIs : s.heap.get? H1.objs.size = none := gets_new kH (gets_none (Nat.le_refl _))
  refine ⟨_, _, _, 6, _, _, rfl, walks_bound (Walks.range hh _ 5 (-1) 6), by rw [sizeLine_eq]; omega, by simpa [IsRangeIter] using hI, fun b hb => by rw [List.mem_singleton.mp hb, Heap.size_push]; exact Nat.lt_succ_self _, ⟨?_, ?_⟩, ?_⟩
  · intro C i v s₃ m₃ E' hC hP hn₃ hx₃ hk htk
    obtain ⟨hi6, t, rfl⟩ := hP
    have k₃ : ∀ b o, s.heap.get? b = some o → s₃.heap.get? b = some o := fun b o e => hk b o (fun hb => by rw [List.mem_singleton.mp hb, hIs] at e; cases e) (Heap.get?_push_of_some _ (kH b o e))
    refine wpAny_tests_one (wpAny_isTrue_Compare1 (wpAny_BinOp (wpAny_BinOp (ldC (c := L + 2) (h5.keeps k₃) (wpAny_Constant_int (add_int (ldH (s := { s₃ with toks := _ }) ⟨m₃, hn₃, hx₃⟩ (rshift_int (by omega) (wpAny_Constant_int (gt_int (wpAny_truthy_bool ⟨rfl, s₃.heap, _, rfl, fun b o e => e⟩)))))))))))
  · intro C i v s₃ m₃ E' hC hP hpv hn₃ hx₃ hk htk
    obtain ⟨hi6, t, rfl⟩ := hP
    have k₃ : ∀ b o, s.heap.get? b = some o → s₃.heap.get? b = some o := fun b o e => hk b o (fun hb => by rw [List.mem_singleton.mp hb, hIs] at e; cases e) (Heap.get?_push_of_some _ (kH b o e))
    refine wpAny_BinOp (wpAny_BinOp (wpAny_BinOp (ldC (c := L + 2) (h5.keeps k₃) (wpAny_Constant_int (add_int (ldH (s := { s₃ with toks := _ }) ⟨m₃, hn₃, hx₃⟩ (rshift_int (by omega) (wpAny_Constant_int (sub_int ⟨⟨_, _, _, rfl, rfl⟩, s₃.heap, _, rfl, fun b o e => e⟩)))))))))
  · intro D h' tk ys us hD hl' hpl hul huP hpair hk
    have k' : ∀ b o, s.heap.get? b = some o → h'.get? b = some o := fun b o e => hk b o (fun hb => by rw [List.mem_singleton.mp hb, hIs] at e; cases e) (Heap.get?_push_of_some _ (kH b o e))
    have hyi : IntsAre ys.toList (natInts (wayN p)) := by rw [← wayI_is p hp]; exact way_paired p (six_ints hul fun j v e => (huP j v e).2) hpair
    have hDs : s.heap.get? D = none := gets_new (fun b o e => Heap.get?_push_of_some _ (kH b o e)) hD
    refine wpAny_items_cons (ldH (s := { s with heap := h', toks := tk }) (h2.at fun o e => k' _ o e) (wpAny_items_nil ⟨by simp [sizeLine_eq], items, nf, by rw [sizeLine_eq]; omega, Heap.get?_push_of_some _ (k' _ _ hf), ?_⟩))
    have hfp : IsL (h'.push { cls := .type "tuple", data := .seq [Value.ref D, Value.int v tv].toArray }) la items nf := Heap.get?_push_of_some _ (k' _ _ hf)
    have hf2 := IsL.update hfp (fun xs => xs.push (Value.ref h'.objs.size))
    have hTs : s.heap.get? h'.objs.size = none := gets_new k' (gets_none (Nat.le_refl _))
    have hTa : la ≠ h'.objs.size := fun q => by rw [← q] at hTs; rw [hTs] at hf; cases hf
    have hDa : la ≠ D := fun q => by rw [← q] at hDs; rw [hDs] at hf; cases hf
    refine hQ _ _ h'.objs.size D ys ⟨_, hf2⟩ ⟨_, (Heap.get?_update_other _ _ hTa).trans (Heap.get?_push_size _ rfl), rfl, 0, rfl⟩ (hl'.at fun o e => (Heap.get?_update_other _ _ hDa).trans (Heap.get?_push_of_some _ e)) hyi hTs hDs fun b o hb e => (Heap.get?_update_other _ _ (Ne.symm hb)).trans (Heap.get?_push_of_some _ (k' b o e))
end
end Mine
end
section
open PySem PySem.W PyProof.Rows PySem.SeqAt
namespace Mine
set_option maxRecDepth 100000
set_option linter.unusedSimpArgs false
set_option linter.unusedVariables false

/-- f is the i-th def of the program -/
def Fn (i : Nat) (h : Heap) (f : Addr) : Prop := ∃ oc od name qual doc pm an cdv ct osl, h.get? f = some ⟨oc, od, .func (fnOf name qual (fnParams i) (fnBody i) (fnScope i) .none .none doc pm an cdv ct), osl⟩ ∧ h.CodeRec cdv qual
theorem Fn.keeps {i : Nat} {h h' : Heap} {f : Addr} (x : Fn i h f) (k : ∀ b o, h.get? b = some o → h'.get? b = some o) : Fn i h' f := by
  obtain ⟨oc, od, name, qual, doc, pm, an, cdv, ct, osl, a, b⟩ := x
  exact ⟨oc, od, name, qual, doc, pm, an, cdv, ct, osl, k _ _ a, b.keeps k⟩

theorem rows_eq {A : Around} {s : Shared} {vs us : Array Value} {r : Row} (h1 : RowIs vs r) (h2 : RowIs us r) (j : Nat) (a : j < vs.size) (b : j < us.size) : EqAt A s vs[j] us[j] true := by
  obtain ⟨v, e1, g1⟩ := h1.2 j (by have := h1.1; omega)
  obtain ⟨u, e2, g2⟩ := h2.2 j (by have := h1.1; omega)
  rw [Array.getElem?_eq_getElem a] at e1
  rw [Array.getElem?_eq_getElem b] at e2
  cases e1; cases e2
  generalize vs[j] = v at *
  generalize us[j] = u at *
  generalize r j = x at *
  cases g1 with
  | none => cases g2; exact EqAt.same _
  | int i t =>
    cases g2 with
    | int _ u => have := EqAt.int_int (A := A) (s := s) i t i u; simpa using this

section
variable {prog : Program} {w : World} {A : Around} {E : Value → Shared → Prop} {s : Shared} {mg mb : Str → Option Value}

/-- row[place] = item -/
theorem law_put {n : Str} {L a row : Addr} {cd : Value} {vs : Array Value} {r : Row} {p : Nat} {tp : Tok} {v : Int} {tv : Tok} {Q : Flow → Shared → Prop}
    (h1 : Has s.heap L "row" (.ref row)) (h2 : Has s.heap L "item" (.int v tv)) (h3 : s.heap.IsList row vs) (h4 : RowIs vs r) (h5 : s.heap.IsCell (L + 2) (some (.int (p : Int) tp))) (hp : p < 63)
    (hQ : ∀ h' vs', h'.IsList row vs' → RowIs vs' (upd r p (some v)) → (∀ b o, b ≠ row → s.heap.get? b = some o → h'.get? b = some o) → Q .next { s with heap := h' }) :
    wpAny (model prog w) A (exec (inFor (st4 4) 4) (lEnv n L a cd)) Q E s := by
  with_unfolding_all refine wpAny_Assign_Subscript (ldH h2 (ldH h1 (ldC (c := L + 2) h5 ?_)))
  refine wpAny_setItem_list h3 (by omega) (by omega) (by rw [h4.1]; omega) fun h₃ hl₃ hs₃ => ?_
  refine hQ h₃ _ hl₃ ?_ fun b o hb e => hs₃.extBut b o hb e
  simpa using h4.set (p := p) (VI.int v tv)

/-- if _siftdown(row, 0, place) is not None: return False -/
theorem law_sift {n : Str} {L a row f : Addr} {cd : Value} {vs : Array Value} {r : Row} {p : Nat} {tp : Tok} {v : Int} {Q : Flow → Shared → Prop} (hroom : A.depth < recursionLimit) (G : Gnd mg mb s.heap) (g1 : mg "_siftdown" = some (.ref f)) (hf : Fn 1 s.heap f)
    (h1 : Has s.heap L "row" (.ref row)) (h3 : s.heap.IsList row vs) (h4 : RowIs vs r) (h5 : s.heap.IsCell (L + 2) (some (.int (p : Int) tp))) (hp : p < 63) (hv : r p = some v) (ha : Anc r p)
    (hQ : ∀ h' tk vs', h'.IsList row vs' → RowIs vs' (sift r v p) → (∀ b o, b ≠ row → s.heap.get? b = some o → h'.get? b = some o) → Q .next { s with heap := h', toks := tk }) :
    wpAny (model prog w) A (exec (inFor (st4 4) 5) (lEnv n L a cd)) Q E s := by
  obtain ⟨oc, od, name, qual, doc, pm, an, cdv, ct, osl, ho, hcd⟩ := hf
  with_unfolding_all refine wpAny_If (wpAny_isTrue_Compare1 (wpAny_Call_NameR (nameG G g1 ?_)))
  refine callWith_def rfl (wpAny_items_cons (ldH h1 (wpAny_items_cons (wpAny_Constant_int (wpAny_items_cons (ldC (c := L + 2) (s := { s with toks := _ }) h5 (wpAny_items_nil ⟨ho, wpAny_call ?_⟩)))))))
  refine sift_call (s := { s with toks := _ }) hroom ho G.lim hcd h3 h4 hp hv ha fun h' tk vs' a b c => ?_
  refine wpAny_Constant_none (isNot_none (wpAny_truthy_bool ?_))
  rw [if_neg (by decide)]
  exact wpAny_execs_nil (hQ h' tk vs' a b c)

/-- return row == _law_told(laid) -/
theorem law_return {n : Str} {L a row f la : Addr} {cd : Value} {vs items : Array Value} {r : Row} {ps : List (Nat × Int)} {Q : Flow → Shared → Prop} (hh : A.handled = none) (hroom : A.depth < recursionLimit) (hu : A.units < cLine) (G : Gnd mg mb s.heap) (g1 : mg "_law_told" = some (.ref f)) (hf : Fn 3 s.heap f)
    (g3 : mg "sorted" = none) (g4 : mb "sorted" = some (.builtin "sorted")) (g5 : mg "set" = none) (g6 : mb "set" = some (.type "set"))
    (h1 : Has s.heap L "row" (.ref row)) (h2 : Has s.heap L "laid" (.ref la)) (h3 : s.heap.IsList row vs) (h4 : RowIs vs r) (hB : LaidIs s.heap la items ps) (hps : ps.length ≤ 60) (H : Hist ps r)
    (hQ : ∀ h' tk dr, (∀ b o, s.heap.get? b = some o → h'.get? b = some o) → Q (.ret (.bool true)) { s with heap := h', toks := tk, drawn := dr }) :
    wpAny (model prog w) A (exec (st4 5) (lEnv n L a cd)) Q E s := by
  obtain ⟨oc, od, name, qual, doc, pm, an, cdv, ct, osl, ho, hcd⟩ := hf
  with_unfolding_all refine wpAny_Return_some (wpAny_Compare1 (ldH h1 (wpAny_Call_NameR (nameG G g1 ?_))))
  refine callWith_def rfl (wpAny_items_cons (ldH h2 (wpAny_items_nil ⟨ho, wpAny_call ?_⟩)))
  refine told_call hh hroom ho hcd G g3 g4 g5 g6 hB hps ?_ fun D h' tk dr rs ls a b c d e => ?_
  · exact fun c k x hx _ => H.free c k x hx
  · refine eq_listAt (e := fun _ => true) (h3.at fun o x => e _ o x) a (by rw [h4.1, b.1]) hu (fun j x y => rows_eq h4 (by rw [H.told c d] at b; exact b) j x y) ?_
    have : ((List.range vs.size).all fun _ => true) = true := by simp
    rw [this]
    exact hQ h' tk dr e
end
end Mine
end
section
open PySem PySem.W PyProof.Rows PySem.SeqAt
namespace Mine
set_option maxRecDepth 100000
set_option linter.unusedSimpArgs false
set_option linter.unusedVariables false

theorem NFle.plain {h h' : Heap} {l : Addr} {items : Array Value} (k : NFle h h') (x : h.PlainList l items) : h'.PlainList l items := by
  obtain ⟨n, ho⟩ := x
  exact ⟨n, k l _ (fun vs e => by cases e) ho⟩

/-- what laid's items are, all of it apart from X -/
def PartsX (X : Addr → Prop) (h : Heap) (items : Array Value) (ps : List (Nat × Int)) : Prop :=
  items.size = ps.length ∧ ∀ (i : Nat) (x : Nat × Int), ps[i]? = some x → x.1 < 63 ∧ ∃ T W ws tv, items[i]? = some (Value.ref T) ∧ h.IsTuple T #[.ref W, .int x.2 tv] ∧ h.IsList W ws ∧ IntsAre ws.toList (natInts (wayN x.1)) ∧ ¬ X T ∧ ¬ X W
theorem PartsX.nil {X : Addr → Prop} {h : Heap} : PartsX X h #[] [] := ⟨rfl, fun i x e => by cases e⟩
theorem PartsX.nf {X : Addr → Prop} {h h' : Heap} {items : Array Value} {ps : List (Nat × Int)} (x : PartsX X h items ps) (k : NFle h h') : PartsX X h' items ps :=
  ⟨x.1, fun i y hy => by
    obtain ⟨hp, T, W, ws, tv, a, b, c, d⟩ := x.2 i y hy
    exact ⟨hp, T, W, ws, tv, a, k.tup b, k.list c, d⟩⟩
theorem PartsX.kept {X : Addr → Prop} {h h' : Heap} {items : Array Value} {ps : List (Nat × Int)} (x : PartsX X h items ps) (k : Kept X h h') : PartsX X h' items ps :=
  ⟨x.1, fun i y hy => by
    obtain ⟨hp, T, W, ws, tv, a, b, c, d, e, f⟩ := x.2 i y hy
    exact ⟨hp, T, W, ws, tv, a, b.at fun o q => k _ o e q, c.at fun o q => k _ o f q, d, e, f⟩⟩
theorem PartsX.laid {X : Addr → Prop} {h : Heap} {items : Array Value} {ps : List (Nat × Int)} {la : Addr} (x : PartsX X h items ps) (l : h.IsList la items) : LaidIs h la items ps :=
  ⟨l, x.1, fun i y hy => by
    obtain ⟨hp, T, W, ws, tv, a, b, c, d, e, f⟩ := x.2 i y hy
    exact ⟨hp, T, W, ws, tv, a, b, c, d⟩⟩
theorem PartsX.snoc {X : Addr → Prop} {h : Heap} {items ws : Array Value} {ps : List (Nat × Int)} {T W : Addr} {p : Nat} {v : Int} {tv : Tok} (x : PartsX X h items ps) (hp : p < 63) (hT : h.IsTuple T #[.ref W, .int v tv]) (hW : h.IsList W ws) (hi : IntsAre ws.toList (natInts (wayN p)))
    (h1 : ¬ X T) (h2 : ¬ X W) : PartsX X h (items.push (.ref T)) (ps ++ [(p, v)]) := by
  refine ⟨by simp [x.1], fun i y hy => ?_⟩
  rcases Nat.lt_or_ge i ps.length with hi' | hi'
  · rw [List.getElem?_append_left hi'] at hy
    obtain ⟨q, T', W', ws', tv', a, r⟩ := x.2 i y hy
    refine ⟨q, T', W', ws', tv', ?_, r⟩
    rw [Array.getElem?_push_lt (by rw [x.1]; exact hi')]
    rw [Array.getElem?_eq_getElem (by rw [x.1]; exact hi')] at a
    exact a
  · have e : i = ps.length := by
      have := (List.getElem?_eq_some_iff.mp hy).1
      simp at this
      omega
    subst e
    simp at hy
    subst hy
    exact ⟨hp, T, W, ws, tv, by rw [← x.1]; simp, hT, hW, hi, h1, h2⟩

/-- what law's loop changes -/
def XX (L row fr la : Addr) (b : Addr) : Prop := b = L ∨ b = L + 2 ∨ b = row ∨ b = fr ∨ b = la

/-- after i turns -/
structure JJ (L row fr la : Addr) (i : Nat) (h : Heap) : Prop where
  hrow : Has h L "row" (.ref row)
  hfree : Has h L "free" (.ref fr)
  hlaid : Has h L "laid" (.ref la)
  cell : ∃ cv, h.IsCell (L + 2) cv
  ex : ∃ r fl ps rs fs items, h.IsList row rs ∧ RowIs rs r ∧ h.PlainList fr fs ∧ IntsAre fs.toList (natInts fl) ∧ FreeOk fl r i ∧ h.PlainList la items ∧ PartsX (XX L row fr la) h items ps ∧ Hist ps r ∧ ps.length = i
theorem JJ.nf {L row fr la : Addr} {i : Nat} {h h' : Heap} (x : JJ L row fr la i h) (k : NFle h h') : JJ L row fr la i h' := by
  obtain ⟨a, b, c, ⟨cv, d⟩, r, fl, ps, rs, fs, items, e1, e2, e3, e4, e5, e6, e7, e8⟩ := x
  exact ⟨k.has a, k.has b, k.has c, ⟨cv, k.cell d⟩, r, fl, ps, rs, fs, items, k.list e1, e2, k.plain e3, e4, e5, k.plain e6, e7.nf k, e8⟩

def forBody : List Stmt := match st4 4 with
  | .For _ _ b _ _ => b
  | _ => []
theorem forBody_is : forBody = [inFor (st4 4) 0, inFor (st4 4) 1, inFor (st4 4) 2, inFor (st4 4) 3, inFor (st4 4) 4, inFor (st4 4) 5] := by with_unfolding_all rfl

section
variable {prog : Program} {w : World} {A : Around} {E : Value → Shared → Prop} {s : Shared} {mg mb : Str → Option Value}

set_option maxHeartbeats 2000000 in
/-- one turn of law's loop -/
theorem law_turn {n : Str} {L a row fr la f : Addr} {cd : Value} {px : Pos} {h₀ : Heap} {i : Nat} {k : Int} {t : Tok} {Q : Flow → Shared → Prop} (hh : A.handled = none) (hroom : A.depth < recursionLimit) (G : Gnd mg mb h₀)
    (g1 : mg "range" = none) (g2 : mb "range" = some (.type "range")) (g5 : mg "len" = none) (g6 : mb "len" = some (.builtin "len")) (g7 : mg "_siftdown" = some (.ref f)) (hf : Fn 1 h₀ f)
    (hk₀ : ∀ b o, h₀.get? b = some o → s.heap.get? b = some o) (hX : ∀ b, XX L row fr la b → h₀.get? b = none) (J : JJ L row fr la i s.heap) (d1 : row ≠ fr) (d2 : row ≠ la) (d3 : fr ≠ la) (hi : i < 60)
    (hQ : ∀ h' tk, JJ L row fr la (i + 1) h' → Kept (XX L row fr la) s.heap h' → Q .next { s with heap := h', toks := tk }) :
    wpAny (model prog w) A (assign (.Name "x" px) (lEnv n L a cd) (.int k t)) (fun _ s₂ => wpAny (model prog w) A (execs forBody (lEnv n L a cd)) Q E s₂) E s := by
  obtain ⟨a1, a2, a3, ⟨cv, a4⟩, r, fl, ps, rs, fs, items, e1, e2, e3, e4, F, e6, e7, H, e9⟩ := J
  have cL : L + 2 ≠ L := ne_cell_ns a4 a1.ns
  have rL : row ≠ L := ne_list_ns e1 a1.ns
  have fL : fr ≠ L := ne_list_ns e3.isList a1.ns
  have lL : la ≠ L := ne_list_ns e6.isList a1.ns
  have rC : row ≠ L + 2 := ne_list_cell e1 a4
  have fC : fr ≠ L + 2 := ne_list_cell e3.isList a4
  have lC : la ≠ L + 2 := ne_list_cell e6.isList a4
  have new : ∀ {h : Heap} {b : Addr}, Kept (XX L row fr la) s.heap h → (∀ c, XX L row fr la c → ∃ o, h.get? c = some o) → h.get? b = none → ¬ XX L row fr la b := fun _ hx hb hX => by
    obtain ⟨o, ho⟩ := hx _ hX; rw [hb] at ho; cases ho
  have base : ∀ {h : Heap}, Kept (XX L row fr la) s.heap h → ∀ b o, h₀.get? b = some o → h.get? b = some o := fun K b o e => K b o (fun q => by rw [hX b q] at e; cases e) (hk₀ b o e)
  -- x
  refine wpAny_assign_Name (stH a1.ns fun h₁ b0 kk₁ hs₁ => ?_)
  replace b0 : Has h₁ L "x" (.int k t) := b0
  replace hs₁ : Heap.SameBut L s.heap h₁ := hs₁
  have a1 : Has h₁ L "row" (.ref row) := kk₁ _ _ (by decide) a1
  have a2 : Has h₁ L "free" (.ref fr) := kk₁ _ _ (by decide) a2
  have a3 : Has h₁ L "laid" (.ref la) := kk₁ _ _ (by decide) a3
  have a4 : h₁.IsCell (L + 2) cv := a4.sameBut hs₁ cL
  have e1 : h₁.IsList row rs := e1.extBut hs₁.extBut rL
  have e3 : h₁.PlainList fr fs := e3.extBut hs₁.extBut fL
  have e6 : h₁.PlainList la items := e6.extBut hs₁.extBut lL
  have K₁ : Kept (XX L row fr la) s.heap h₁ := fun b o hb e => hs₁.extBut b o (fun q => hb (.inl q)) e
  rw [forBody_is]
  -- place
  have hpos := F.pos (by omega)
  have hfl := F.len
  refine wpAny_execs_cons (law_pop (s := { s with heap := h₁, toks := _ }) hh (G.keeps (base K₁)) g5 g6 a2 b0 e3 e4 hpos (by omega) a4 fun h₂ tk₂ fs₂ j hj tp c1 c2 c3 k₂ => ?_)
  replace k₂ : ∀ b o, b ≠ fr → b ≠ L + 2 → h₁.get? b = some o → h₂.get? b = some o := k₂
  have a1 : Has h₂ L "row" (.ref row) := a1.at fun o e => k₂ _ o (Ne.symm fL) (Ne.symm cL) e
  have a2 : Has h₂ L "free" (.ref fr) := a2.at fun o e => k₂ _ o (Ne.symm fL) (Ne.symm cL) e
  have a3 : Has h₂ L "laid" (.ref la) := a3.at fun o e => k₂ _ o (Ne.symm fL) (Ne.symm cL) e
  have b0 : Has h₂ L "x" (.int k t) := b0.at fun o e => k₂ _ o (Ne.symm fL) (Ne.symm cL) e
  have e1 : h₂.IsList row rs := e1.at fun o e => k₂ _ o d1 rC e
  have e6 : h₂.PlainList la items := e6.at fun o e => k₂ _ o (Ne.symm d3) lC e
  have K₂ : Kept (XX L row fr la) s.heap h₂ := fun b o hb e => k₂ b o (fun q => hb (.inr (.inr (.inr (.inl q))))) (fun q => hb (.inr (.inl q))) (K₁ b o hb e)
  obtain ⟨hp63, hpn, hpp⟩ := F.ok _ (List.getElem_mem hj)
  -- free
  refine wpAny_execs_cons (law_extend (s := { s with heap := h₂, toks := tk₂ }) hh a2 c1 c2 (by rw [List.length_eraseIdx_of_lt hj]; omega) c3 hp63 fun h₃ tk₃ fs₃ c1 c2 k₃ => ?_)
  replace k₃ : ∀ b o, b ≠ fr → h₂.get? b = some o → h₃.get? b = some o := k₃
  have a1 : Has h₃ L "row" (.ref row) := a1.at fun o e => k₃ _ o (Ne.symm fL) e
  have a2 : Has h₃ L "free" (.ref fr) := a2.at fun o e => k₃ _ o (Ne.symm fL) e
  have a3 : Has h₃ L "laid" (.ref la) := a3.at fun o e => k₃ _ o (Ne.symm fL) e
  have b0 : Has h₃ L "x" (.int k t) := b0.at fun o e => k₃ _ o (Ne.symm fL) e
  have c3 : h₃.IsCell (L + 2) _ := cell_at c3 fun o e => k₃ _ o (Ne.symm fC) e
  have e1 : h₃.IsList row rs := e1.at fun o e => k₃ _ o d1 e
  have e6 : h₃.PlainList la items := e6.at fun o e => k₃ _ o (Ne.symm d3) e
  have K₃ : Kept (XX L row fr la) s.heap h₃ := fun b o hb e => k₃ b o (fun q => hb (.inr (.inr (.inr (.inl q))))) (K₂ b o hb e)
  -- item
  refine wpAny_execs_cons (law_item (s := { s with heap := h₃, toks := tk₃ }) b0 fun h₄ tk₄ v tv b1 kk₄ k₄ => ?_)
  replace k₄ : ∀ b o, b ≠ L → h₃.get? b = some o → h₄.get? b = some o := k₄
  replace kk₄ : ∀ (y : Str) u, ¬ y = "item" → Has h₃ L y u → Has h₄ L y u := kk₄
  have a1 : Has h₄ L "row" (.ref row) := kk₄ _ _ (by decide) a1
  have a2 : Has h₄ L "free" (.ref fr) := kk₄ _ _ (by decide) a2
  have a3 : Has h₄ L "laid" (.ref la) := kk₄ _ _ (by decide) a3
  have c1 : h₄.PlainList fr fs₃ := c1.at fun o e => k₄ _ o fL e
  have c3 : h₄.IsCell (L + 2) _ := cell_at c3 fun o e => k₄ _ o cL e
  have e1 : h₄.IsList row rs := e1.at fun o e => k₄ _ o rL e
  have e6 : h₄.PlainList la items := e6.at fun o e => k₄ _ o lL e
  have K₄ : Kept (XX L row fr la) s.heap h₄ := fun b o hb e => k₄ b o (fun q => hb (.inl q)) (K₃ b o hb e)
  have X₄ : ∀ c, XX L row fr la c → ∃ o, h₄.get? c = some o := by
    rintro c (q | q | q | q | q) <;> subst q
    · obtain ⟨m, o, _, _, ho, _⟩ := a1.ns; exact ⟨o, ho⟩
    · obtain ⟨o, ho, _⟩ := c3; exact ⟨o, ho⟩
    · obtain ⟨o, ho, _⟩ := e1; exact ⟨o, ho⟩
    · obtain ⟨o, ho⟩ := c1; exact ⟨_, ho⟩
    · obtain ⟨o, ho⟩ := e6; exact ⟨_, ho⟩
  -- laid
  refine wpAny_execs_cons (law_append (s := { s with heap := h₄, toks := tk₄ }) hh (G.keeps (base K₄)) g1 g2 a3 b1 e6 (by have := e7.1; omega) c3 hp63 fun h₅ tk₅ T W ws p1 p2 p3 p4 p5 p6 k₅ => ?_)
  replace k₅ : ∀ b o, b ≠ la → h₄.get? b = some o → h₅.get? b = some o := k₅
  have a1 : Has h₅ L "row" (.ref row) := a1.at fun o e => k₅ _ o (Ne.symm lL) e
  have a2 : Has h₅ L "free" (.ref fr) := a2.at fun o e => k₅ _ o (Ne.symm lL) e
  have a3 : Has h₅ L "laid" (.ref la) := a3.at fun o e => k₅ _ o (Ne.symm lL) e
  have b1 : Has h₅ L "item" (.int v tv) := b1.at fun o e => k₅ _ o (Ne.symm lL) e
  have c1 : h₅.PlainList fr fs₃ := c1.at fun o e => k₅ _ o d3 e
  have c3 : h₅.IsCell (L + 2) _ := cell_at c3 fun o e => k₅ _ o (Ne.symm lC) e
  have e1 : h₅.IsList row rs := e1.at fun o e => k₅ _ o d2 e
  have K₅ : Kept (XX L row fr la) s.heap h₅ := fun b o hb e => k₅ b o (fun q => hb (.inr (.inr (.inr (.inr q))))) (K₄ b o hb e)
  have P₅ := (e7.kept K₅).snoc hp63 p2 p3 p4 (new K₄ X₄ p5) (new K₄ X₄ p6)
  -- row
  refine wpAny_execs_cons (law_put (s := { s with heap := h₅, toks := tk₅ }) a1 b1 e1 e2 c3 hp63 fun h₆ vs₆ e1 e2 k₆ => ?_)
  replace k₆ : ∀ b o, b ≠ row → h₅.get? b = some o → h₆.get? b = some o := k₆
  have a1 : Has h₆ L "row" (.ref row) := a1.at fun o e => k₆ _ o (Ne.symm rL) e
  have a2 : Has h₆ L "free" (.ref fr) := a2.at fun o e => k₆ _ o (Ne.symm rL) e
  have a3 : Has h₆ L "laid" (.ref la) := a3.at fun o e => k₆ _ o (Ne.symm rL) e
  have c1 : h₆.PlainList fr fs₃ := c1.at fun o e => k₆ _ o (Ne.symm d1) e
  have c3 : h₆.IsCell (L + 2) _ := cell_at c3 fun o e => k₆ _ o (Ne.symm rC) e
  have p1 : h₆.PlainList la _ := p1.at fun o e => k₆ _ o (Ne.symm d2) e
  have K₅₆ : Kept (XX L row fr la) h₅ h₆ := fun b o hb e => k₆ b o (fun q => hb (.inr (.inr (.inl q)))) e
  -- _siftdown
  have hA : Anc (upd r fl[j] (some v)) fl[j] := (H.good.anc _ hpp).upd (Nat.le_refl _)
  refine wpAny_execs_cons (law_sift (v := v) (s := { s with heap := h₆, toks := tk₅ }) hroom (G.keeps (base (K₅.trans K₅₆))) g7 (hf.keeps (base (K₅.trans K₅₆))) a1 e1 e2 c3 hp63 (by simp [upd]) hA fun h₇ tk₇ vs₇ e1 e2 k₇ => ?_)
  replace k₇ : ∀ b o, b ≠ row → h₆.get? b = some o → h₇.get? b = some o := k₇
  have K₆₇ : Kept (XX L row fr la) h₆ h₇ := fun b o hb e => k₇ b o (fun q => hb (.inr (.inr (.inl q)))) e
  refine wpAny_execs_nil (hQ h₇ tk₇ ⟨a1.at fun o e => k₇ _ o (Ne.symm rL) e, a2.at fun o e => k₇ _ o (Ne.symm rL) e, a3.at fun o e => k₇ _ o (Ne.symm rL) e, ⟨_, cell_at c3 fun o e => k₇ _ o (Ne.symm rC) e⟩, _, _, _, _, _, _, e1, e2,
    c1.at fun o e => k₇ _ o (Ne.symm d1) e, c2, F.step H hj, p1.at fun o e => k₇ _ o (Ne.symm d2) e, P₅.kept (K₅₆.trans K₆₇), .snoc H hp63 hpn hpp, by simp [e9]⟩ (K₅.trans (K₅₆.trans K₆₇)))
end
end Mine
end
section
open PySem PySem.W PyProof.Rows PySem.SeqAt
namespace Mine
set_option maxRecDepth 100000
set_option linter.unusedSimpArgs false
set_option linter.unusedVariables false

theorem body4_is : fnBody 4 = [st4 0, st4 1, st4 2, st4 3, st4 4, st4 5] := by with_unfolding_all rfl

section
variable {prog : Program} {w : World} {A : Around} {E : Value → Shared → Prop} {s : Shared} {mg mb : Str → Option Value}

set_option maxHeartbeats 2000000 in
/-- law's body -/
theorem law_exec {n : Str} {L a sc f1 f3 : Addr} {cd : Value} {h₀ : Heap} {items : Array Value} {ns : List Int} {Q : Flow → Shared → Prop} (hh : A.handled = none) (hroom : A.depth < recursionLimit) (hu : A.units < cLine) (G : Gnd mg mb h₀)
    (g1 : mg "range" = none) (g2 : mb "range" = some (.type "range")) (g3 : mg "min" = none) (g4 : mb "min" = some (.builtin "min")) (g5 : mg "len" = none) (g6 : mb "len" = some (.builtin "len")) (g7 : mg "sum" = none) (g8 : mb "sum" = some (.builtin "sum"))
    (g9 : mg "sorted" = none) (g10 : mb "sorted" = some (.builtin "sorted")) (g11 : mg "set" = none) (g12 : mb "set" = some (.type "set"))
    (q1 : mg "_siftdown" = some (.ref f1)) (hf1 : Fn 1 h₀ f1) (q3 : mg "_law_told" = some (.ref f3)) (hf3 : Fn 3 h₀ f3)
    (hk₀ : ∀ b o, h₀.get? b = some o → s.heap.get? b = some o) (hL₀ : h₀.get? L = none) (hc₀ : h₀.get? (L + 2) = none)
    (hn : IsNs s.heap L) (hc : s.heap.IsCell (L + 1) (some (.ref sc))) (hp : s.heap.IsCell (L + 2) none) (hl : s.heap.IsList sc items) (hi : IntsAre items.toList ns) (hlen : ns.length ≤ 63)
    (hQ : ∀ h' tk dr, (∀ b o, h₀.get? b = some o → h'.get? b = some o) → Q (.ret (.bool true)) { s with heap := h', toks := tk, drawn := dr }) :
    wpAny (model prog w) A (execs (fnBody 4) (lEnv n L a cd)) Q E s := by
  have cL : L + 2 ≠ L := ne_cell_ns hp hn
  rw [body4_is]
  refine wpAny_execs_cons (law_drawn hh (G.keeps hk₀) g1 g2 g3 g4 g5 g6 g7 g8 hn hc hl hi hlen fun D h₁ tk₁ vs b1 b2 b3 b4 b5 k₁ => ?_)
  have up1 : ∀ b o, h₀.get? b = some o → h₁.get? b = some o := fun b o e => k₁ b o (fun (q : b = L) => by rw [q, hL₀] at e; cases e) (hk₀ b o e)
  have hp : h₁.IsCell (L + 2) none := cell_at hp fun o e => k₁ _ o cL e
  have hD₀ : h₀.get? D = none := gets_new hk₀ b4
  have DL : D ≠ L := ne_list_ns b1 b5.ns
  have DC : D ≠ L + 2 := ne_list_cell b1 hp
  -- row = [None] * 63
  refine wpAny_execs_cons ?_
  with_unfolding_all refine wpAny_Assign_Name (wpAny_BinOp (wpAny_List (wpAny_items_cons (wpAny_Constant_none (wpAny_items_nil ⟨by simp [sizeLine_eq], wpAny_Constant_int (mulL (Heap.get?_push_size _ rfl) (by decide) (by decide) (by decide) ?_)⟩)))))
  rw [rep63]
  dsimp only
  generalize hH1 : h₁.push { cls := .type "list", data := .seq [Value.none].toArray } = H1
  have k1 : ∀ b o, h₁.get? b = some o → H1.get? b = some o := fun b o e => hH1 ▸ Heap.get?_push_of_some _ e
  have k2 : ∀ b o, h₁.get? b = some o → (H1.push { cls := .type "list", data := .seq (Array.replicate 63 Value.none) }).get? b = some o := fun b o e => Heap.get?_push_of_some _ (k1 b o e)
  have hR : (H1.push { cls := .type "list", data := .seq (Array.replicate 63 Value.none) }).IsList H1.objs.size (Array.replicate 63 Value.none) := ⟨_, Heap.get?_push_size _ rfl, rfl, 0, rfl⟩
  have hR₁ : h₁.get? H1.objs.size = none := gets_new k1 (gets_none (Nat.le_refl _))
  generalize H1.objs.size = row at hR hR₁ ⊢
  generalize H1.push { cls := .type "list", data := .seq (Array.replicate 63 Value.none) } = H2 at k2 hR ⊢
  refine stH (s := { s with heap := H2, toks := _ }) ((b5.at fun o e => k2 _ o e).ns) fun h₂ n₂ kk₂ hs₂ => ?_
  replace n₂ : Has h₂ L "row" (.ref row) := n₂
  replace hs₂ : Heap.SameBut L H2 h₂ := hs₂
  have Dr : D ≠ row := fun e => by obtain ⟨o, ho, _⟩ := b1; rw [e, hR₁] at ho; cases ho
  have rL : row ≠ L := ne_list_ns hR (b5.at fun o e => k2 _ o e).ns
  have b5 : Has h₂ L "drawn" (.ref D) := kk₂ _ _ (by decide) (b5.at fun o e => k2 _ o e)
  have up12 : ∀ b o, b ≠ L → h₁.get? b = some o → h₂.get? b = some o := fun b o hb e => hs₂.extBut b o hb (k2 b o e)
  have hp : h₂.IsCell (L + 2) none := cell_at hp fun o e => up12 _ o cL e
  have b1 : h₂.IsList D vs := b1.at fun o e => up12 _ o DL e
  have hR : h₂.IsList row (Array.replicate 63 Value.none) := hR.extBut hs₂.extBut rL
  have up2 : ∀ b o, h₀.get? b = some o → h₂.get? b = some o := fun b o e => up12 b o (fun (q : b = L) => by rw [q, hL₀] at e; cases e) (up1 b o e)
  -- free = [0]
  refine wpAny_execs_cons ?_
  with_unfolding_all refine wpAny_Assign_Name (wpAny_List (wpAny_items_cons (wpAny_Constant_int (wpAny_items_nil ⟨by simp [sizeLine_eq], ?_⟩))))
  dsimp only
  have hF : (h₂.push { cls := .type "list", data := .seq #[Value.int 0 (tk₁ + 1 + 1)] }).PlainList h₂.objs.size #[Value.int 0 (tk₁ + 1 + 1)] := ⟨0, Heap.get?_push_size _ rfl⟩
  have k3 : ∀ b o, h₂.get? b = some o → (h₂.push { cls := .type "list", data := .seq #[Value.int 0 (tk₁ + 1 + 1)] }).get? b = some o := fun b o e => Heap.get?_push_of_some _ e
  have hF₂ : h₂.get? h₂.objs.size = none := gets_none (Nat.le_refl _)
  generalize tk₁ + 1 + 1 = tq at hF k3 ⊢
  generalize h₂.objs.size = fr at hF hF₂ ⊢
  generalize h₂.push { cls := .type "list", data := .seq #[Value.int 0 tq] } = H3 at k3 hF ⊢
  refine stH (s := { s with heap := H3, toks := _ }) ((b5.at fun o e => k3 _ o e).ns) fun h₃ n₃ kk₃ hs₃ => ?_
  replace n₃ : Has h₃ L "free" (.ref fr) := n₃
  replace hs₃ : Heap.SameBut L H3 h₃ := hs₃
  have fL : fr ≠ L := ne_list_ns hF.isList (b5.at fun o e => k3 _ o e).ns
  have up23 : ∀ b o, b ≠ L → h₂.get? b = some o → h₃.get? b = some o := fun b o hb e => hs₃.extBut b o hb (k3 b o e)
  have b5 : Has h₃ L "drawn" (.ref D) := kk₃ _ _ (by decide) (b5.at fun o e => k3 _ o e)
  have n₂ : Has h₃ L "row" (.ref row) := kk₃ _ _ (by decide) (n₂.at fun o e => k3 _ o e)
  have hp : h₃.IsCell (L + 2) none := cell_at hp fun o e => up23 _ o cL e
  have b1' : h₃.IsList D vs := b1.at fun o e => up23 _ o DL e
  have hR' : h₃.IsList row (Array.replicate 63 Value.none) := hR.at fun o e => up23 _ o rL e
  have hF : h₃.PlainList fr #[Value.int 0 tq] := hF.extBut hs₃.extBut fL
  have up3 : ∀ b o, h₀.get? b = some o → h₃.get? b = some o := fun b o e => up23 b o (fun (q : b = L) => by rw [q, hL₀] at e; cases e) (up2 b o e)
  -- laid = []
  refine wpAny_execs_cons ?_
  with_unfolding_all refine wpAny_Assign_Name (wpAny_List (wpAny_items_nil ⟨by simp [sizeLine_eq], ?_⟩))
  dsimp only
  have hA : (h₃.push { cls := .type "list", data := .seq #[] }).PlainList h₃.objs.size #[] := ⟨0, Heap.get?_push_size _ rfl⟩
  have k4 : ∀ b o, h₃.get? b = some o → (h₃.push { cls := .type "list", data := .seq #[] }).get? b = some o := fun b o e => Heap.get?_push_of_some _ e
  have hA₃ : h₃.get? h₃.objs.size = none := gets_none (Nat.le_refl _)
  generalize h₃.objs.size = la at hA hA₃ ⊢
  generalize h₃.push { cls := .type "list", data := .seq #[] } = H4 at k4 hA ⊢
  refine stH (s := { s with heap := H4, toks := _ }) ((b5.at fun o e => k4 _ o e).ns) fun h₄ n₄ kk₄ hs₄ => ?_
  replace n₄ : Has h₄ L "laid" (.ref la) := n₄
  replace hs₄ : Heap.SameBut L H4 h₄ := hs₄
  have lL : la ≠ L := ne_list_ns hA.isList (b5.at fun o e => k4 _ o e).ns
  have up34 : ∀ b o, b ≠ L → h₃.get? b = some o → h₄.get? b = some o := fun b o hb e => hs₄.extBut b o hb (k4 b o e)
  have b5 : Has h₄ L "drawn" (.ref D) := kk₄ _ _ (by decide) (b5.at fun o e => k4 _ o e)
  have n₂ : Has h₄ L "row" (.ref row) := kk₄ _ _ (by decide) (n₂.at fun o e => k4 _ o e)
  have n₃ : Has h₄ L "free" (.ref fr) := kk₄ _ _ (by decide) (n₃.at fun o e => k4 _ o e)
  have hp : h₄.IsCell (L + 2) none := cell_at hp fun o e => up34 _ o cL e
  have b1'' : h₄.IsList D vs := b1'.at fun o e => up34 _ o DL e
  have hR'' : h₄.IsList row (Array.replicate 63 Value.none) := hR'.at fun o e => up34 _ o rL e
  have hF' : h₄.PlainList fr #[Value.int 0 tq] := hF.at fun o e => up34 _ o fL e
  have hA : h₄.PlainList la #[] := hA.extBut hs₄.extBut lL
  have up4 : ∀ b o, h₀.get? b = some o → h₄.get? b = some o := fun b o e => up34 b o (fun (q : b = L) => by rw [q, hL₀] at e; cases e) (up3 b o e)
  -- apart
  have rf : row ≠ fr := fun e => by obtain ⟨o, ho, _⟩ := hR; rw [e, hF₂] at ho; cases ho
  have rl : row ≠ la := fun e => by obtain ⟨o, ho, _⟩ := hR'; rw [e, hA₃] at ho; cases ho
  have fl : fr ≠ la := fun e => by obtain ⟨o, ho⟩ := hF; rw [e, hA₃] at ho; cases ho
  have Df : D ≠ fr := fun e => by obtain ⟨o, ho, _⟩ := b1; rw [e, hF₂] at ho; cases ho
  have Dl : D ≠ la := fun e => by obtain ⟨o, ho, _⟩ := b1'; rw [e, hA₃] at ho; cases ho
  have hX : ∀ b, XX L row fr la b → h₀.get? b = none := by
    rintro b (q | q | q | q | q) <;> rw [q]
    · exact hL₀
    · exact hc₀
    · exact gets_new up1 hR₁
    · exact gets_new up2 hF₂
    · exact gets_new up3 hA₃
  refine wpAny_execs_cons ?_
  with_unfolding_all refine wpAny_For (ldH (s := { s with heap := h₄, toks := _ }) b5 ?_)
  refine for_list (s := { s with heap := h₄, toks := _ }) (XX L row fr la) (JJ L row fr la) hh b1'' (by rintro (q | q | q | q | q); exact DL q; exact DC q; exact Dr q; exact Df q; exact Dl q) ?_
    ⟨n₂, n₃, n₄, ⟨_, hp⟩, fun _ => none, [0], [], _, _, _, hR'', rowIs_nones, hF', .cons _ _ .nil, FreeOk.start, hA, PartsX.nil, .nil, rfl⟩ (fun i h h' J k => J.nf k) (fun I i v s' Q' E' _ _ hq => wpAny_of_eq rfl hq) ?_ ?_
  · rintro b (q | q | q | q | q) <;> rw [q]
    · obtain ⟨m, hm⟩ := n₂.ns; exact hm.lt
    · exact hp.lt
    · obtain ⟨o, ho, _⟩ := hR''; exact Heap.lt_size ho
    · obtain ⟨o, ho⟩ := hF'; exact Heap.lt_size ho
    · obtain ⟨o, ho⟩ := hA; exact Heap.lt_size ho
  · intro i v h tk E' hv J K hl'
    have hi' : i < vs.size := (Array.getElem?_eq_some_iff.mp hv).1
    obtain ⟨k, t, rfl⟩ := b2 v (by rw [← Array.getElem?_toList] at hv; exact List.mem_of_getElem? hv)
    have base : ∀ b o, h₀.get? b = some o → h.get? b = some o := fun b o e => K b o (fun q => by rw [hX b q] at e; cases e) (up4 b o e)
    exact law_turn (s := { s with heap := h, toks := tk }) hh hroom G g1 g2 g5 g6 q1 hf1 base hX J rf rl fl (by omega) fun h' tk' J' K' => ⟨h', tk', rfl, J', K'⟩
  · intro h tk J K
    have base : ∀ b o, h₀.get? b = some o → h.get? b = some o := fun b o e => K b o (fun q => by rw [hX b q] at e; cases e) (up4 b o e)
    obtain ⟨a1, a2, a3, _, r, fl, ps, rs, fs, items, e1, e2, e3, e4, F, e6, e7, H, e9⟩ := J
    refine wpAny_execs_cons (law_return (s := { s with heap := h, toks := tk }) hh hroom hu (G.keeps base) q3 (hf3.keeps base) g9 g10 g11 g12 a1 a3 e1 e2 (e7.laid e6.isList) (by omega) H fun h' tk' dr k' => ?_)
    exact hQ h' tk' dr fun b o e => k' b o (base b o e)
end
end Mine
end
section
open PySem PySem.W PyProof.Rows
namespace Mine
set_option maxRecDepth 100000
set_option maxHeartbeats 8000000
open_top hd for PySem.Challenge.rw_dp0032_01
end Mine
end
section
open PySem PySem.W PyProof.Rows
namespace Mine
set_option maxRecDepth 100000
set_option maxHeartbeats 8000000
theorem fn_of {K : Frag} {h : Heap} (X : K.In h) {i : Nat} {f : Addr} {name qual : Str} {doc pm cdv ct oc : Value} {an od : Option Addr} {osl : Array (Option Value)}
    (e : K.lookup f = some ⟨oc, od, .func (fnOf name qual (fnParams i) (fnBody i) (fnScope i) .none .none doc pm an cdv ct), osl⟩) (c : codeIn K cdv qual = true) : Fn i h f :=
  ⟨oc, od, name, qual, doc, pm, an, cdv, ct, osl, X _ _ e, codeRec_of X c⟩
theorem holds : PySem.Challenge.rw_dp0032_01.Holds := hd (by
  k_go0
  all_goals try k_fold
  rename_i w s0 s1 mg mb G Y fa o pm doc ho hg KX X V GL T B TE TW u1 u2 M c1 c2 hcd ns hs hlay0 hLy hr0 hl2 al1 al2 sc vs al3 hL ra w1 r0 hI hr hcond hcond2 K0 hD h1 tk1 F oc1 oc2 left right N0 X0
  have hns : ns.length ≤ 63 := by omega
  have GG : Gnd mg mb s1.heap := ⟨T.g, T.b, T.nolimit⟩
  have g1 : mg "range" = none := mg_none_of KX T.g (by k_is)
  have g3 : mg "min" = none := mg_none_of KX T.g (by k_is)
  have g5 : mg "len" = none := mg_none_of KX T.g (by k_is)
  have g7 : mg "sum" = none := mg_none_of KX T.g (by k_is)
  have g9 : mg "sorted" = none := mg_none_of KX T.g (by k_is)
  have g11 : mg "set" = none := mg_none_of KX T.g (by k_is)
  have g2 : mb "range" = some (.type "range") := (T.builtins _ (by decide)).trans (by decide +kernel)
  have g4 : mb "min" = some (.builtin "min") := (T.builtins _ (by decide)).trans (by decide +kernel)
  have g6 : mb "len" = some (.builtin "len") := (T.builtins _ (by decide)).trans (by decide +kernel)
  have g8 : mb "sum" = some (.builtin "sum") := (T.builtins _ (by decide)).trans (by decide +kernel)
  have g10 : mb "sorted" = some (.builtin "sorted") := (T.builtins _ (by decide)).trans (by decide +kernel)
  have g12 : mb "set" = some (.type "set") := (T.builtins _ (by decide)).trans (by decide +kernel)
  obtain ⟨f1, q1, hf1⟩ : ∃ f1, mg "_siftdown" = some (.ref f1) ∧ Fn 1 s1.heap f1 := by
    refine ⟨_, mg_of KX T.g (by k_is), ?_⟩
    refine' fn_of KX ?lka ?cra
    case lka => k_is
    case cra => k_is
  obtain ⟨f3, q3, hf3⟩ : ∃ f3, mg "_law_told" = some (.ref f3) ∧ Fn 3 s1.heap f3 := by
    refine ⟨_, mg_of KX T.g (by k_is), ?_⟩
    refine' fn_of KX ?lkb ?crb
    case lkb => k_is
    case crb => k_is
  clear G Y X V GL B TE TW M hcd hs hlay0 hLy hr0 hl2 ra w1 r0 hr hcond2 K0 hD ho KX
  have hc : h1.IsCell (s1.heap.objs.size + 1) (some (.ref sc)) := ⟨oc2, N0.get (List.mem_cons_of_mem _ List.mem_cons_self), right⟩
  have hp : h1.IsCell (s1.heap.objs.size + 2) none := ⟨oc1, N0.get List.mem_cons_self, left⟩
  refine law_exec (h₀ := s1.heap) (s := { s1 with heap := h1, toks := tk1 }) (items := vs.toArray) (ns := ns) (sc := sc) rfl (by k_room) (by k_units) GG g1 g2 g3 g4 g5 g6 g7 g8 g9 g10 g11 g12 q1 hf1 q3 hf3 F.keep (gets_none (Nat.le_refl _)) (gets_none (Nat.le_add_right _ _)) ⟨_, F.ns⟩ hc hp (hL.at fun o e => F.keep _ o e) (by simpa using hI) hns fun h' tk dr hk => ?_
  refine ⟨.inl ⟨_, .bool true, [], rfl, fun cls => ?_, .bool true, ?_, ?_⟩, hk, rfl, hg⟩
  · rfl
  · wrow_post
  · exact unshared_nil)
end Mine
end
theorem PySem.Challenge.cw_dp0032_01_holds : PySem.Challenge.rw_dp0032_01.Holds := by
  exact Mine.holds
